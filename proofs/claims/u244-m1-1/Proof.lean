import JvmDerived
import JvmDerived.Pilot.@@N@@Statement
import JvmDerived.Pilot.@@N@@Code
set_option linter.unusedVariables false
set_option linter.unusedSimpArgs false
namespace Jvm.RoadKit
open Sem ClassFile Op Lib Jvm.Stand Jvm.Free Jvm.LawKit
section New
variable {p : Program} {l : Launch} {e : Env} {R : Room} {s : State} {m : MethodId} {args : Array Value} {below : List Frame} {meth : Method} {c : Code} {T : State} {locs : List Loc} {cells slots : Nat}
theorem retI (X : Stand p l e R s m args below meth c T locs cells slots) (hx : p.tables.exec = Jvm.exec) {pc : Nat} {Ls : Array Slot} {z : Int32} {rest : List Value} (hret : meth.sig.returnType = some .int) (hd : decode c.code pc = .ok (.ireturn, 1)) {fs : List Frame}
    (hl : ∀ (f : JFrame) (acts : List Action), f.method = m → f.locked = none → f.entered = [] → (doReturn e (T.setTop f) acts (some (.int z))).1 = T.setFrames fs) : Steps p.tables e below (T.setTop (mkF m pc Ls (.int z :: rest))) (T.setFrames fs) := by
  have hm' : T.vm.method? m = some meth := X.method'
  have hn : narrow .int (.int z) = .int z := rfl
  show Steps p.tables e below (T.setTop { method := m, pc := pc, locals := Ls, stack := _ :: rest, locked := none }) _
  jvm_step X.here [X.here.top, hx, hd, hm', hret, hn]
  first | (intro acts; rw [hl _ acts rfl rfl rfl]) | rw [hl _ _ rfl rfl rfl]
  exact Steps.refl _
end New
end Jvm.RoadKit
namespace Jvm.Pilot.@@N@@
open Jvm Jvm.ClassFile Sem Op Lib Jvm.Free Jvm.Stand Jvm.LawKit Jvm.RoadKit Bundle Jvm.Pilot.@@N@@.Jvm.D
theorem own_st {p : Program} {l : Launch} {e : Env} {R : Room} {s : State} {m : MethodId} {args : Array Value} {below : List Frame} {meth : Method} {c : Code} {T : State} {L : List Loc} {k n k' n' : Nat} (X : Stand p l e R s m args below meth c T L k n) (hk : k = k') (hn : n = n') : Stand p l e R s m args below meth c T L k' n' := by subst hk; subst hn; exact X
theorem own_fr {n : Nat} {L L' L2 : List Loc} (h : L = L' ++ L2) (N : Fr n L') (N2 : Fr n L2) : Fr n L := by rw [h]; exact Fr.app N N2
def own_Ar (Z : State) (h : Heap) (a : Addr) (ty : FieldType) (n : Nat) (f : Nat → Value) : Prop := ∃ c : Cell, Arr Z h a c ty ∧ c.slots.size = n ∧ ∀ i, i < n → c.slots[i]? = some (f i)
def own_upd (f : Nat → Value) (k : Nat) (v : Value) : Nat → Value := fun i => if i = k then v else f i
section OwnArr
variable {Z : State} {h h' : Heap} {a b : Addr} {ty : FieldType} {n : Nat} {f g : Nat → Value} {v : Value} {sl : Nat} {ws : List Addr}
theorem own_slots (c : Cell) (i : Nat) (v : Value) : (c.setSlot i v).slots = c.slots.setIfInBounds i v := rfl
theorem own_Ar.lt (F : own_Ar Z h a ty n f) : a < h.size := by obtain ⟨c, A, -⟩ := F; exact A.lt
theorem own_Ar.ext (F : own_Ar Z h a ty n f) (E : Ext h h') : own_Ar Z h' a ty n f := by obtain ⟨c, A, r⟩ := F; exact ⟨c, A.ext E, r⟩
theorem own_Ar.other (F : own_Ar Z h b ty n f) (W : Wr h h' a sl v) (q : b ≠ a) : own_Ar Z h' b ty n f := by obtain ⟨c, A, r⟩ := F; exact ⟨c, A.other W q, r⟩
theorem own_Ar.keep (F : own_Ar Z h a ty n f) (K : Keep h h' ws) (q : a ∉ ws) : own_Ar Z h' a ty n f := by obtain ⟨c, A, r⟩ := F; exact ⟨c, ⟨K.2.1 a c A.1 q, A.2⟩, r⟩
theorem own_Ar.set (F : own_Ar Z h a ty n f) (W : Wr h h' a sl v) : own_Ar Z h' a ty n (own_upd f sl v) := by
  obtain ⟨c, A, S, H⟩ := F
  refine ⟨_, A.same W, by rw [sz_set]; exact S, fun i hi => ?_⟩
  rw [own_slots]
  by_cases q : i = sl
  · subst q
    rw [Array.getElem?_setIfInBounds_self_of_lt (by rw [S]; exact hi)]
    exact congrArg some (if_pos rfl).symm
  · rw [Array.getElem?_setIfInBounds_ne (Ne.symm q), H i hi]
    exact congrArg some (if_neg q).symm
theorem own_Ar.congr (F : own_Ar Z h a ty n f) (q : ∀ i, i < n → f i = g i) : own_Ar Z h a ty n g := by
  obtain ⟨c, A, S, H⟩ := F; exact ⟨c, A, S, fun i hi => by rw [H i hi, q i hi]⟩
theorem own_Ar.new {k : ClassId} {z : Int32} (A : Arr Z h a (newA k ty z) ty) (q : ¬ z < 0) : own_Ar Z h a ty z.toNatClampNeg (fun _ => defaultValue ty) := by
  obtain ⟨c, A, -, S, -, H, -⟩ := Arv.new A q
  exact ⟨c, A, S, fun i hi => H i (by rw [S]; exact hi)⟩
theorem own_ld {c : Cell} (S : c.slots.size = n) (H : ∀ i, i < n → c.slots[i]? = some (f i)) {j : Int32} {i : Nat} (hj : ¬ j < 0) (hji : j.toNatClampNeg = i) (hi : i < n) {v : Value} (hv : f i = v) : ¬ (j < 0 ∨ c.slots.size ≤ j.toNatClampNeg) ∧ c.slots[j.toNatClampNeg]? = some v :=
  ⟨by rw [S, hji]; intro q; rcases q with q | q
      · exact hj q
      · omega, by rw [hji, H i hi, hv]⟩
theorem own_wk {g : Nat → Int32} {x : Int32} (F : own_Ar Z h a .int n (fun i => .int (g i))) (W : Wr h h' a sl (.int x)) : ∃ g' : Nat → Int32, own_Ar Z h' a .int n (fun i => .int (g' i)) :=
  ⟨fun i => if i = sl then x else g i, (F.set W).congr fun i _ => by
    by_cases q : i = sl
    · exact (if_pos q).trans (congrArg Value.int (if_pos q).symm)
    · exact (if_neg q).trans (congrArg Value.int (if_neg q).symm)⟩
end OwnArr
theorem own_rem (x y : Int32) (d : Int) (hy : y.toInt = d) (hd : 0 < d) (hx : 0 ≤ x.toInt) : (x - (x / y) * y).toInt = x.toInt % d := by
  have hn : y ≠ -1 := fun q => by
    rw [q] at hy
    have : (-1 : Int32).toInt = -1 := rfl
    omega
  have q := (c_idiv x y d hy hn).1 hx
  have m := c_imul (x / y) y
  have r := rng32 ((x / y) * y)
  have t := c_isub x ((x / y) * y)
  have u := rng32 (x - (x / y) * y)
  have v := rng32 x
  rw [q, hy] at m
  have e := Int.mul_ediv_add_emod x.toInt d
  have e1 := Int.emod_nonneg x.toInt (show d ≠ 0 by omega)
  have e2 := Int.emod_lt_of_pos x.toInt hd
  have e3 : 0 ≤ d * (x.toInt / d) := Int.mul_nonneg (by omega) (Int.ediv_nonneg hx (by omega))
  rw [Int.mul_comm] at m
  generalize d * (x.toInt / d) = P at *
  omega
theorem own_nn (x : Int32) : 0 ≤ (x &&& (2147483647 : Int32)).toInt := (c_and x 2147483647 (by decide)).1
theorem own_nat {j : Int32} (h : 0 ≤ j.toInt) : ¬ j < 0 ∧ j.toNatClampNeg = j.toInt.toNat := ⟨fun q => by
  rw [Int32.lt_iff_toInt_lt] at q
  have : (0 : Int32).toInt = 0 := rfl
  omega, rfl⟩
theorem ef_rmF (m : MethodId) (x0 : Int32) : entryFrame m #[(.int x0)] 1 = mkF m 0 #[.val (.int x0)] [] := by first | (simp [entryFrame, mkF, argsToLocals, Value.category]; done) | rfl
theorem pn_com_example_yarkon_yarkon_document_DocumentCharacters : plainName "com/example/yarkon/yarkon/document/DocumentCharacters" = true := by first | (simp [plainName, overriddenIn]; done) | decide +kernel
theorem d1_0 : decode prog_24_method_34_code 0 = .ok (.iload_n 0, 1) := by decide +kernel
theorem d1_1 : decode prog_24_method_34_code 1 = .ok (.bipush 58, 2) := by decide +kernel
theorem d1_3 : decode prog_24_method_34_code 3 = .ok (.if_icmp .eq 201, 3) := by decide +kernel
theorem d1_6 : decode prog_24_method_34_code 6 = .ok (.iload_n 0, 1) := by decide +kernel
theorem d1_7 : decode prog_24_method_34_code 7 = .ok (.bipush 65, 2) := by decide +kernel
theorem d1_9 : decode prog_24_method_34_code 9 = .ok (.if_icmp .lt 9, 3) := by decide +kernel
theorem d1_12 : decode prog_24_method_34_code 12 = .ok (.iload_n 0, 1) := by decide +kernel
theorem d1_13 : decode prog_24_method_34_code 13 = .ok (.bipush 90, 2) := by decide +kernel
theorem d1_15 : decode prog_24_method_34_code 15 = .ok (.if_icmp .le 189, 3) := by decide +kernel
theorem d1_204 : decode prog_24_method_34_code 204 = .ok (.iconst 1, 1) := by decide +kernel
theorem d1_205 : decode prog_24_method_34_code 205 = .ok (.goto 4, 3) := by decide +kernel
theorem d1_18 : decode prog_24_method_34_code 18 = .ok (.iload_n 0, 1) := by decide +kernel
theorem d1_19 : decode prog_24_method_34_code 19 = .ok (.bipush 95, 2) := by decide +kernel
theorem d1_21 : decode prog_24_method_34_code 21 = .ok (.if_icmp .eq 183, 3) := by decide +kernel
theorem d1_24 : decode prog_24_method_34_code 24 = .ok (.iload_n 0, 1) := by decide +kernel
theorem d1_25 : decode prog_24_method_34_code 25 = .ok (.bipush 97, 2) := by decide +kernel
theorem d1_27 : decode prog_24_method_34_code 27 = .ok (.if_icmp .lt 9, 3) := by decide +kernel
theorem d1_30 : decode prog_24_method_34_code 30 = .ok (.iload_n 0, 1) := by decide +kernel
theorem d1_31 : decode prog_24_method_34_code 31 = .ok (.bipush 122, 2) := by decide +kernel
theorem d1_33 : decode prog_24_method_34_code 33 = .ok (.if_icmp .le 171, 3) := by decide +kernel
theorem d1_36 : decode prog_24_method_34_code 36 = .ok (.iload_n 0, 1) := by decide +kernel
theorem d1_37 : decode prog_24_method_34_code 37 = .ok (.sipush 192, 3) := by decide +kernel
theorem d1_40 : decode prog_24_method_34_code 40 = .ok (.if_icmp .lt 10, 3) := by decide +kernel
theorem d1_43 : decode prog_24_method_34_code 43 = .ok (.iload_n 0, 1) := by decide +kernel
theorem d1_44 : decode prog_24_method_34_code 44 = .ok (.sipush 214, 3) := by decide +kernel
theorem d1_47 : decode prog_24_method_34_code 47 = .ok (.if_icmp .le 157, 3) := by decide +kernel
theorem d1_50 : decode prog_24_method_34_code 50 = .ok (.iload_n 0, 1) := by decide +kernel
theorem d1_51 : decode prog_24_method_34_code 51 = .ok (.sipush 216, 3) := by decide +kernel
theorem d1_54 : decode prog_24_method_34_code 54 = .ok (.if_icmp .lt 10, 3) := by decide +kernel
theorem d1_57 : decode prog_24_method_34_code 57 = .ok (.iload_n 0, 1) := by decide +kernel
theorem d1_58 : decode prog_24_method_34_code 58 = .ok (.sipush 246, 3) := by decide +kernel
theorem d1_61 : decode prog_24_method_34_code 61 = .ok (.if_icmp .le 143, 3) := by decide +kernel
theorem d1_64 : decode prog_24_method_34_code 64 = .ok (.iload_n 0, 1) := by decide +kernel
theorem d1_65 : decode prog_24_method_34_code 65 = .ok (.sipush 248, 3) := by decide +kernel
theorem d1_68 : decode prog_24_method_34_code 68 = .ok (.if_icmp .lt 10, 3) := by decide +kernel
theorem d1_71 : decode prog_24_method_34_code 71 = .ok (.iload_n 0, 1) := by decide +kernel
theorem d1_72 : decode prog_24_method_34_code 72 = .ok (.sipush 767, 3) := by decide +kernel
theorem d1_75 : decode prog_24_method_34_code 75 = .ok (.if_icmp .le 129, 3) := by decide +kernel
theorem d1_78 : decode prog_24_method_34_code 78 = .ok (.iload_n 0, 1) := by decide +kernel
theorem d1_79 : decode prog_24_method_34_code 79 = .ok (.sipush 880, 3) := by decide +kernel
theorem d1_82 : decode prog_24_method_34_code 82 = .ok (.if_icmp .lt 10, 3) := by decide +kernel
theorem d1_85 : decode prog_24_method_34_code 85 = .ok (.iload_n 0, 1) := by decide +kernel
theorem d1_86 : decode prog_24_method_34_code 86 = .ok (.sipush 893, 3) := by decide +kernel
theorem d1_89 : decode prog_24_method_34_code 89 = .ok (.if_icmp .le 115, 3) := by decide +kernel
theorem d1_92 : decode prog_24_method_34_code 92 = .ok (.iload_n 0, 1) := by decide +kernel
theorem d1_93 : decode prog_24_method_34_code 93 = .ok (.sipush 895, 3) := by decide +kernel
theorem d1_96 : decode prog_24_method_34_code 96 = .ok (.if_icmp .lt 10, 3) := by decide +kernel
theorem d1_99 : decode prog_24_method_34_code 99 = .ok (.iload_n 0, 1) := by decide +kernel
theorem d1_100 : decode prog_24_method_34_code 100 = .ok (.sipush 8191, 3) := by decide +kernel
theorem d1_103 : decode prog_24_method_34_code 103 = .ok (.if_icmp .le 101, 3) := by decide +kernel
theorem d1_106 : decode prog_24_method_34_code 106 = .ok (.iload_n 0, 1) := by decide +kernel
theorem d1_107 : decode prog_24_method_34_code 107 = .ok (.sipush 8204, 3) := by decide +kernel
theorem d1_110 : decode prog_24_method_34_code 110 = .ok (.if_icmp .lt 10, 3) := by decide +kernel
theorem d1_113 : decode prog_24_method_34_code 113 = .ok (.iload_n 0, 1) := by decide +kernel
theorem d1_114 : decode prog_24_method_34_code 114 = .ok (.sipush 8205, 3) := by decide +kernel
theorem d1_117 : decode prog_24_method_34_code 117 = .ok (.if_icmp .le 87, 3) := by decide +kernel
theorem d1_120 : decode prog_24_method_34_code 120 = .ok (.iload_n 0, 1) := by decide +kernel
theorem d1_121 : decode prog_24_method_34_code 121 = .ok (.sipush 8304, 3) := by decide +kernel
theorem d1_124 : decode prog_24_method_34_code 124 = .ok (.if_icmp .lt 10, 3) := by decide +kernel
theorem d1_127 : decode prog_24_method_34_code 127 = .ok (.iload_n 0, 1) := by decide +kernel
theorem d1_128 : decode prog_24_method_34_code 128 = .ok (.sipush 8591, 3) := by decide +kernel
theorem d1_131 : decode prog_24_method_34_code 131 = .ok (.if_icmp .le 73, 3) := by decide +kernel
theorem d1_134 : decode prog_24_method_34_code 134 = .ok (.iload_n 0, 1) := by decide +kernel
theorem d1_135 : decode prog_24_method_34_code 135 = .ok (.sipush 11264, 3) := by decide +kernel
theorem d1_138 : decode prog_24_method_34_code 138 = .ok (.if_icmp .lt 10, 3) := by decide +kernel
theorem d1_141 : decode prog_24_method_34_code 141 = .ok (.iload_n 0, 1) := by decide +kernel
theorem d1_142 : decode prog_24_method_34_code 142 = .ok (.sipush 12271, 3) := by decide +kernel
theorem d1_145 : decode prog_24_method_34_code 145 = .ok (.if_icmp .le 59, 3) := by decide +kernel
theorem d1_148 : decode prog_24_method_34_code 148 = .ok (.iload_n 0, 1) := by decide +kernel
theorem d1_149 : decode prog_24_method_34_code 149 = .ok (.sipush 12289, 3) := by decide +kernel
theorem d1_152 : decode prog_24_method_34_code 152 = .ok (.if_icmp .lt 10, 3) := by decide +kernel
theorem d1_155 : decode prog_24_method_34_code 155 = .ok (.iload_n 0, 1) := by decide +kernel
theorem d1_156 : decode prog_24_method_34_code 156 = .ok (.ldc_w 314, 3) := by decide +kernel
theorem d1_159 : decode prog_24_method_34_code 159 = .ok (.if_icmp .le 45, 3) := by decide +kernel
theorem d1_162 : decode prog_24_method_34_code 162 = .ok (.iload_n 0, 1) := by decide +kernel
theorem d1_163 : decode prog_24_method_34_code 163 = .ok (.ldc_w 319, 3) := by decide +kernel
theorem d1_166 : decode prog_24_method_34_code 166 = .ok (.if_icmp .lt 10, 3) := by decide +kernel
theorem d1_169 : decode prog_24_method_34_code 169 = .ok (.iload_n 0, 1) := by decide +kernel
theorem d1_170 : decode prog_24_method_34_code 170 = .ok (.ldc_w 320, 3) := by decide +kernel
theorem d1_173 : decode prog_24_method_34_code 173 = .ok (.if_icmp .le 31, 3) := by decide +kernel
theorem d1_176 : decode prog_24_method_34_code 176 = .ok (.iload_n 0, 1) := by decide +kernel
theorem d1_177 : decode prog_24_method_34_code 177 = .ok (.ldc_w 321, 3) := by decide +kernel
theorem d1_180 : decode prog_24_method_34_code 180 = .ok (.if_icmp .lt 10, 3) := by decide +kernel
theorem d1_183 : decode prog_24_method_34_code 183 = .ok (.iload_n 0, 1) := by decide +kernel
theorem d1_184 : decode prog_24_method_34_code 184 = .ok (.ldc_w 316, 3) := by decide +kernel
theorem d1_187 : decode prog_24_method_34_code 187 = .ok (.if_icmp .le 17, 3) := by decide +kernel
theorem d1_190 : decode prog_24_method_34_code 190 = .ok (.iload_n 0, 1) := by decide +kernel
theorem d1_191 : decode prog_24_method_34_code 191 = .ok (.ldc_w 317, 3) := by decide +kernel
theorem d1_194 : decode prog_24_method_34_code 194 = .ok (.if_icmp .lt 14, 3) := by decide +kernel
theorem d1_197 : decode prog_24_method_34_code 197 = .ok (.iload_n 0, 1) := by decide +kernel
theorem d1_198 : decode prog_24_method_34_code 198 = .ok (.ldc_w 322, 3) := by decide +kernel
theorem d1_201 : decode prog_24_method_34_code 201 = .ok (.if_icmp .gt 7, 3) := by decide +kernel
theorem d1_208 : decode prog_24_method_34_code 208 = .ok (.iconst 0, 1) := by decide +kernel
def own_f208 (p1 : Int32) : Int32 := (0 : Int32)
def own_f204 (p1 : Int32) : Int32 := (1 : Int32)
def own_f197 (p1 : Int32) : Int32 := if (983039 : Int32) < p1 then own_f208 p1 else own_f204 p1
def own_f190 (p1 : Int32) : Int32 := if p1 < (65536 : Int32) then own_f208 p1 else own_f197 p1
def own_f183 (p1 : Int32) : Int32 := if (65533 : Int32) < p1 then own_f190 p1 else own_f204 p1
def own_f176 (p1 : Int32) : Int32 := if p1 < (65008 : Int32) then own_f190 p1 else own_f183 p1
def own_f169 (p1 : Int32) : Int32 := if (64975 : Int32) < p1 then own_f176 p1 else own_f204 p1
def own_f162 (p1 : Int32) : Int32 := if p1 < (63744 : Int32) then own_f176 p1 else own_f169 p1
def own_f155 (p1 : Int32) : Int32 := if (55295 : Int32) < p1 then own_f162 p1 else own_f204 p1
def own_f148 (p1 : Int32) : Int32 := if p1 < (12289 : Int32) then own_f162 p1 else own_f155 p1
def own_f141 (p1 : Int32) : Int32 := if (12271 : Int32) < p1 then own_f148 p1 else own_f204 p1
def own_f134 (p1 : Int32) : Int32 := if p1 < (11264 : Int32) then own_f148 p1 else own_f141 p1
def own_f127 (p1 : Int32) : Int32 := if (8591 : Int32) < p1 then own_f134 p1 else own_f204 p1
def own_f120 (p1 : Int32) : Int32 := if p1 < (8304 : Int32) then own_f134 p1 else own_f127 p1
def own_f113 (p1 : Int32) : Int32 := if (8205 : Int32) < p1 then own_f120 p1 else own_f204 p1
def own_f106 (p1 : Int32) : Int32 := if p1 < (8204 : Int32) then own_f120 p1 else own_f113 p1
def own_f99 (p1 : Int32) : Int32 := if (8191 : Int32) < p1 then own_f106 p1 else own_f204 p1
def own_f92 (p1 : Int32) : Int32 := if p1 < (895 : Int32) then own_f106 p1 else own_f99 p1
def own_f85 (p1 : Int32) : Int32 := if (893 : Int32) < p1 then own_f92 p1 else own_f204 p1
def own_f78 (p1 : Int32) : Int32 := if p1 < (880 : Int32) then own_f92 p1 else own_f85 p1
def own_f71 (p1 : Int32) : Int32 := if (767 : Int32) < p1 then own_f78 p1 else own_f204 p1
def own_f64 (p1 : Int32) : Int32 := if p1 < (248 : Int32) then own_f78 p1 else own_f71 p1
def own_f57 (p1 : Int32) : Int32 := if (246 : Int32) < p1 then own_f64 p1 else own_f204 p1
def own_f50 (p1 : Int32) : Int32 := if p1 < (216 : Int32) then own_f64 p1 else own_f57 p1
def own_f43 (p1 : Int32) : Int32 := if (214 : Int32) < p1 then own_f50 p1 else own_f204 p1
def own_f36 (p1 : Int32) : Int32 := if p1 < (192 : Int32) then own_f50 p1 else own_f43 p1
def own_f30 (p1 : Int32) : Int32 := if (122 : Int32) < p1 then own_f36 p1 else own_f204 p1
def own_f24 (p1 : Int32) : Int32 := if p1 < (97 : Int32) then own_f36 p1 else own_f30 p1
def own_f18 (p1 : Int32) : Int32 := if p1 = (95 : Int32) then own_f204 p1 else own_f24 p1
def own_f12 (p1 : Int32) : Int32 := if (90 : Int32) < p1 then own_f18 p1 else own_f204 p1
def own_f6 (p1 : Int32) : Int32 := if p1 < (65 : Int32) then own_f18 p1 else own_f12 p1
def own_f0 (p1 : Int32) : Int32 := if p1 = (58 : Int32) then own_f204 p1 else own_f6 p1
theorem d1_209 : decode prog_24_method_34_code 209 = .ok (.ireturn, 1) := by decide +kernel
def Q_rmF (Z : State) (p1 : Int32) (h0 : Heap) (n0 : Nat) (v : Option Value) (h : Heap) (L : List Loc) : Prop := v = some (.int (own_f0 p1)) ∧ Fr n0 L ∧ h = h0
set_option maxRecDepth 65536 in
set_option maxHeartbeats 40000000 in
theorem rmF (l : Launch) (Z : State) (a0 : Array Value) (hw : ∀ d ∈ tables_1, d.before a0 Z = true) (ws : List Jvm.Cond) (p1 : Int32) (h0 : Heap) (n0 : Nat) (Z0 : n0 ≤ h0.size) :
    MetFree l (⟨"com/example/yarkon/yarkon/document/DocumentCharacters", "isNameStartChar", "(I)Z"⟩ : MethodName) (head1 (Jvm.Cond.code (⟨"com/example/yarkon/yarkon/document/DocumentCharacters", "isNameStartChar", "(I)Z"⟩ : MethodName) prog_24_method_34_code 1 (some .boolean) :: ws) ({ frames := 0, cells := 0, slots := 0, locals := 0 } : Room)) (fun a U => a = #[(.int p1)] ∧ Z.Warmed39 U.vm ∧ U.heap = h0) (fun _ _ _ _ _ => True) (fun _ U o U' => ∃ v L, o = .returned v ∧ Q_rmF Z p1 h0 n0 v U'.heap L ∧ FrameEnd U o U' L ({ frames := 0, cells := 0, slots := 0, locals := 0 } : Room).cells ({ frames := 0, cells := 0, slots := 0, locals := 0 } : Room).slots) := by
  refine MetFree.of_bodySF (plainFor_of_name pn_com_example_yarkon_yarkon_document_DocumentCharacters) hisR ?_
  intro p e s m args below meth c s₁ Bd hml0 hP hK
  obtain ⟨rfl, hZ, hh⟩ := hP
  have hx := Bd.exec
  have hby := Bd.bytes
  have hml : c.maxLocals = 1 := hml0
  have hown : s.vm.findClass "com/example/yarkon/yarkon/document/DocumentCharacters" = some m.cls := findClass_of_methodNamed Bd.named
  have hnm := (name_of_methodNamed Bd.named Bd.method).1
  have X0 : Stand p l e ({ frames := 0, cells := 0, slots := 0, locals := 0 } : Room) s m #[(.int p1)] below meth c s₁ [] 0 0 := Stand.of_body Bd
  have e0 : s₁.heap = h0 := by rw [← hh, Bd.state]; rfl
  have N0 := Fr.nil n0
  have pre0 : ∀ t, Steps p.tables e below (s₁.setTop (mkF m 0 #[.val (.int p1)] [])) t → Steps p.tables e below (s₁.setTop (entryFrame m #[(.int p1)] 1)) t := fun t kT => castTop (ef_rmF m p1) kT
  obtain ⟨fs, hr, hrun, hended, hW, hsame⟩ := X0.leave (v := some (.int (own_f0 p1))) (fun h => by rw [Bd.returns] at h; cases h)
  have J208 : (∀ (f : JFrame) (acts : List Action), f.method = m → f.locked = none → f.entered = [] → (doReturn e (s₁.setTop f) acts (some (.int (own_f208 p1)))).1 = s₁.setFrames fs) → Steps p.tables e below (s₁.setTop (mkF m 208 #[.val (.int p1)] [])) (s₁.setFrames fs) := fun hr => by
    show Steps p.tables e below (s₁.setTop (mkF m 208 #[.val (.int p1)] [])) _
    refine XS.iconst X0.here hx rfl (hb hby d1_208) ?_
    show Steps p.tables e below (s₁.setTop (mkF m 209 #[.val (.int p1)] [(.int (0 : Int32))])) _
    have q : own_f208 p1 = nar .boolean (0 : Int32) := (show own_f208 p1 = (0 : Int32) from rfl).trans (by decide)
    rw [q] at hr
    exact retN X0 hx (t := .boolean) Bd.returns (by simp) (hb hby d1_209) hr
  have J204 : (∀ (f : JFrame) (acts : List Action), f.method = m → f.locked = none → f.entered = [] → (doReturn e (s₁.setTop f) acts (some (.int (own_f204 p1)))).1 = s₁.setFrames fs) → Steps p.tables e below (s₁.setTop (mkF m 204 #[.val (.int p1)] [])) (s₁.setFrames fs) := fun hr => by
    show Steps p.tables e below (s₁.setTop (mkF m 204 #[.val (.int p1)] [])) _
    refine XS.iconst X0.here hx rfl (hb hby d1_204) ?_
    show Steps p.tables e below (s₁.setTop (mkF m 205 #[.val (.int p1)] [(.int (1 : Int32))])) _
    refine XS.goto X0.here hx rfl (pc0 := 205) (pc' := 209) rfl (hb hby d1_205) (by decide) (by decide) ?_
    show Steps p.tables e below (s₁.setTop (mkF m 209 #[.val (.int p1)] [(.int (1 : Int32))])) _
    have q : own_f204 p1 = nar .boolean (1 : Int32) := (show own_f204 p1 = (1 : Int32) from rfl).trans (by decide)
    rw [q] at hr
    exact retN X0 hx (t := .boolean) Bd.returns (by simp) (hb hby d1_209) hr
  have J197 : (∀ (f : JFrame) (acts : List Action), f.method = m → f.locked = none → f.entered = [] → (doReturn e (s₁.setTop f) acts (some (.int (own_f197 p1)))).1 = s₁.setFrames fs) → Steps p.tables e below (s₁.setTop (mkF m 197 #[.val (.int p1)] [])) (s₁.setFrames fs) := fun hr => by
    show Steps p.tables e below (s₁.setTop (mkF m 197 #[.val (.int p1)] [])) _
    refine XS.iloadN X0.here hx rfl (hb hby d1_197) rfl ?_
    show Steps p.tables e below (s₁.setTop (mkF m 198 #[.val (.int p1)] [(.int p1)])) _
    refine X0.ldcWI hx hown (mvT hZ (hw _ (List.mem_of_getElem? (i := 30) rfl))) rfl (hb hby d1_198) ?_
    by_cases hb197 : (983039 : Int32) < p1
    · show Steps p.tables e below (s₁.setTop (mkF m 201 #[.val (.int p1)] [(.int (983039 : Int32)), (.int p1)])) _
      refine XS.icmpYes X0.here hx rfl (pc0 := 201) (pc' := 208) rfl (hb hby d1_201) rfl (tlt hb197).2.2.1 (by decide) (by decide) ?_
      exact J208 (by rw [show own_f197 p1 = own_f208 p1 from if_pos hb197] at hr; exact hr)
    · show Steps p.tables e below (s₁.setTop (mkF m 201 #[.val (.int p1)] [(.int (983039 : Int32)), (.int p1)])) _
      refine XS.icmpNo X0.here hx rfl (hb hby d1_201) rfl (flt hb197).2.2.1 ?_
      exact J204 (by rw [show own_f197 p1 = own_f204 p1 from if_neg hb197] at hr; exact hr)
  have J190 : (∀ (f : JFrame) (acts : List Action), f.method = m → f.locked = none → f.entered = [] → (doReturn e (s₁.setTop f) acts (some (.int (own_f190 p1)))).1 = s₁.setFrames fs) → Steps p.tables e below (s₁.setTop (mkF m 190 #[.val (.int p1)] [])) (s₁.setFrames fs) := fun hr => by
    show Steps p.tables e below (s₁.setTop (mkF m 190 #[.val (.int p1)] [])) _
    refine XS.iloadN X0.here hx rfl (hb hby d1_190) rfl ?_
    show Steps p.tables e below (s₁.setTop (mkF m 191 #[.val (.int p1)] [(.int p1)])) _
    refine X0.ldcWI hx hown (mvT hZ (hw _ (List.mem_of_getElem? (i := 19) rfl))) rfl (hb hby d1_191) ?_
    by_cases hb190 : p1 < (65536 : Int32)
    · show Steps p.tables e below (s₁.setTop (mkF m 194 #[.val (.int p1)] [(.int (65536 : Int32)), (.int p1)])) _
      refine XS.icmpYes X0.here hx rfl (pc0 := 194) (pc' := 208) rfl (hb hby d1_194) rfl (tlt hb190).1 (by decide) (by decide) ?_
      exact J208 (by rw [show own_f190 p1 = own_f208 p1 from if_pos hb190] at hr; exact hr)
    · show Steps p.tables e below (s₁.setTop (mkF m 194 #[.val (.int p1)] [(.int (65536 : Int32)), (.int p1)])) _
      refine XS.icmpNo X0.here hx rfl (hb hby d1_194) rfl (flt hb190).1 ?_
      exact J197 (by rw [show own_f190 p1 = own_f197 p1 from if_neg hb190] at hr; exact hr)
  have J183 : (∀ (f : JFrame) (acts : List Action), f.method = m → f.locked = none → f.entered = [] → (doReturn e (s₁.setTop f) acts (some (.int (own_f183 p1)))).1 = s₁.setFrames fs) → Steps p.tables e below (s₁.setTop (mkF m 183 #[.val (.int p1)] [])) (s₁.setFrames fs) := fun hr => by
    show Steps p.tables e below (s₁.setTop (mkF m 183 #[.val (.int p1)] [])) _
    refine XS.iloadN X0.here hx rfl (hb hby d1_183) rfl ?_
    show Steps p.tables e below (s₁.setTop (mkF m 184 #[.val (.int p1)] [(.int p1)])) _
    refine X0.ldcWI hx hown (mvT hZ (hw _ (List.mem_of_getElem? (i := 29) rfl))) rfl (hb hby d1_184) ?_
    by_cases hb183 : (65533 : Int32) < p1
    · show Steps p.tables e below (s₁.setTop (mkF m 187 #[.val (.int p1)] [(.int (65533 : Int32)), (.int p1)])) _
      refine XS.icmpNo X0.here hx rfl (hb hby d1_187) rfl (tlt hb183).2.2.2 ?_
      exact J190 (by rw [show own_f183 p1 = own_f190 p1 from if_pos hb183] at hr; exact hr)
    · show Steps p.tables e below (s₁.setTop (mkF m 187 #[.val (.int p1)] [(.int (65533 : Int32)), (.int p1)])) _
      refine XS.icmpYes X0.here hx rfl (pc0 := 187) (pc' := 204) rfl (hb hby d1_187) rfl (flt hb183).2.2.2 (by decide) (by decide) ?_
      exact J204 (by rw [show own_f183 p1 = own_f204 p1 from if_neg hb183] at hr; exact hr)
  have J176 : (∀ (f : JFrame) (acts : List Action), f.method = m → f.locked = none → f.entered = [] → (doReturn e (s₁.setTop f) acts (some (.int (own_f176 p1)))).1 = s₁.setFrames fs) → Steps p.tables e below (s₁.setTop (mkF m 176 #[.val (.int p1)] [])) (s₁.setFrames fs) := fun hr => by
    show Steps p.tables e below (s₁.setTop (mkF m 176 #[.val (.int p1)] [])) _
    refine XS.iloadN X0.here hx rfl (hb hby d1_176) rfl ?_
    show Steps p.tables e below (s₁.setTop (mkF m 177 #[.val (.int p1)] [(.int p1)])) _
    refine X0.ldcWI hx hown (mvT hZ (hw _ (List.mem_of_getElem? (i := 18) rfl))) rfl (hb hby d1_177) ?_
    by_cases hb176 : p1 < (65008 : Int32)
    · show Steps p.tables e below (s₁.setTop (mkF m 180 #[.val (.int p1)] [(.int (65008 : Int32)), (.int p1)])) _
      refine XS.icmpYes X0.here hx rfl (pc0 := 180) (pc' := 190) rfl (hb hby d1_180) rfl (tlt hb176).1 (by decide) (by decide) ?_
      exact J190 (by rw [show own_f176 p1 = own_f190 p1 from if_pos hb176] at hr; exact hr)
    · show Steps p.tables e below (s₁.setTop (mkF m 180 #[.val (.int p1)] [(.int (65008 : Int32)), (.int p1)])) _
      refine XS.icmpNo X0.here hx rfl (hb hby d1_180) rfl (flt hb176).1 ?_
      exact J183 (by rw [show own_f176 p1 = own_f183 p1 from if_neg hb176] at hr; exact hr)
  have J169 : (∀ (f : JFrame) (acts : List Action), f.method = m → f.locked = none → f.entered = [] → (doReturn e (s₁.setTop f) acts (some (.int (own_f169 p1)))).1 = s₁.setFrames fs) → Steps p.tables e below (s₁.setTop (mkF m 169 #[.val (.int p1)] [])) (s₁.setFrames fs) := fun hr => by
    show Steps p.tables e below (s₁.setTop (mkF m 169 #[.val (.int p1)] [])) _
    refine XS.iloadN X0.here hx rfl (hb hby d1_169) rfl ?_
    show Steps p.tables e below (s₁.setTop (mkF m 170 #[.val (.int p1)] [(.int p1)])) _
    refine X0.ldcWI hx hown (mvT hZ (hw _ (List.mem_of_getElem? (i := 28) rfl))) rfl (hb hby d1_170) ?_
    by_cases hb169 : (64975 : Int32) < p1
    · show Steps p.tables e below (s₁.setTop (mkF m 173 #[.val (.int p1)] [(.int (64975 : Int32)), (.int p1)])) _
      refine XS.icmpNo X0.here hx rfl (hb hby d1_173) rfl (tlt hb169).2.2.2 ?_
      exact J176 (by rw [show own_f169 p1 = own_f176 p1 from if_pos hb169] at hr; exact hr)
    · show Steps p.tables e below (s₁.setTop (mkF m 173 #[.val (.int p1)] [(.int (64975 : Int32)), (.int p1)])) _
      refine XS.icmpYes X0.here hx rfl (pc0 := 173) (pc' := 204) rfl (hb hby d1_173) rfl (flt hb169).2.2.2 (by decide) (by decide) ?_
      exact J204 (by rw [show own_f169 p1 = own_f204 p1 from if_neg hb169] at hr; exact hr)
  have J162 : (∀ (f : JFrame) (acts : List Action), f.method = m → f.locked = none → f.entered = [] → (doReturn e (s₁.setTop f) acts (some (.int (own_f162 p1)))).1 = s₁.setFrames fs) → Steps p.tables e below (s₁.setTop (mkF m 162 #[.val (.int p1)] [])) (s₁.setFrames fs) := fun hr => by
    show Steps p.tables e below (s₁.setTop (mkF m 162 #[.val (.int p1)] [])) _
    refine XS.iloadN X0.here hx rfl (hb hby d1_162) rfl ?_
    show Steps p.tables e below (s₁.setTop (mkF m 163 #[.val (.int p1)] [(.int p1)])) _
    refine X0.ldcWI hx hown (mvT hZ (hw _ (List.mem_of_getElem? (i := 17) rfl))) rfl (hb hby d1_163) ?_
    by_cases hb162 : p1 < (63744 : Int32)
    · show Steps p.tables e below (s₁.setTop (mkF m 166 #[.val (.int p1)] [(.int (63744 : Int32)), (.int p1)])) _
      refine XS.icmpYes X0.here hx rfl (pc0 := 166) (pc' := 176) rfl (hb hby d1_166) rfl (tlt hb162).1 (by decide) (by decide) ?_
      exact J176 (by rw [show own_f162 p1 = own_f176 p1 from if_pos hb162] at hr; exact hr)
    · show Steps p.tables e below (s₁.setTop (mkF m 166 #[.val (.int p1)] [(.int (63744 : Int32)), (.int p1)])) _
      refine XS.icmpNo X0.here hx rfl (hb hby d1_166) rfl (flt hb162).1 ?_
      exact J169 (by rw [show own_f162 p1 = own_f169 p1 from if_neg hb162] at hr; exact hr)
  have J155 : (∀ (f : JFrame) (acts : List Action), f.method = m → f.locked = none → f.entered = [] → (doReturn e (s₁.setTop f) acts (some (.int (own_f155 p1)))).1 = s₁.setFrames fs) → Steps p.tables e below (s₁.setTop (mkF m 155 #[.val (.int p1)] [])) (s₁.setFrames fs) := fun hr => by
    show Steps p.tables e below (s₁.setTop (mkF m 155 #[.val (.int p1)] [])) _
    refine XS.iloadN X0.here hx rfl (hb hby d1_155) rfl ?_
    show Steps p.tables e below (s₁.setTop (mkF m 156 #[.val (.int p1)] [(.int p1)])) _
    refine X0.ldcWI hx hown (mvT hZ (hw _ (List.mem_of_getElem? (i := 27) rfl))) rfl (hb hby d1_156) ?_
    by_cases hb155 : (55295 : Int32) < p1
    · show Steps p.tables e below (s₁.setTop (mkF m 159 #[.val (.int p1)] [(.int (55295 : Int32)), (.int p1)])) _
      refine XS.icmpNo X0.here hx rfl (hb hby d1_159) rfl (tlt hb155).2.2.2 ?_
      exact J162 (by rw [show own_f155 p1 = own_f162 p1 from if_pos hb155] at hr; exact hr)
    · show Steps p.tables e below (s₁.setTop (mkF m 159 #[.val (.int p1)] [(.int (55295 : Int32)), (.int p1)])) _
      refine XS.icmpYes X0.here hx rfl (pc0 := 159) (pc' := 204) rfl (hb hby d1_159) rfl (flt hb155).2.2.2 (by decide) (by decide) ?_
      exact J204 (by rw [show own_f155 p1 = own_f204 p1 from if_neg hb155] at hr; exact hr)
  have J148 : (∀ (f : JFrame) (acts : List Action), f.method = m → f.locked = none → f.entered = [] → (doReturn e (s₁.setTop f) acts (some (.int (own_f148 p1)))).1 = s₁.setFrames fs) → Steps p.tables e below (s₁.setTop (mkF m 148 #[.val (.int p1)] [])) (s₁.setFrames fs) := fun hr => by
    show Steps p.tables e below (s₁.setTop (mkF m 148 #[.val (.int p1)] [])) _
    refine XS.iloadN X0.here hx rfl (hb hby d1_148) rfl ?_
    show Steps p.tables e below (s₁.setTop (mkF m 149 #[.val (.int p1)] [(.int p1)])) _
    refine XS.sipush X0.here hx rfl (hb hby d1_149) ?_
    by_cases hb148 : p1 < (12289 : Int32)
    · show Steps p.tables e below (s₁.setTop (mkF m 152 #[.val (.int p1)] [(.int (12289 : Int32)), (.int p1)])) _
      refine XS.icmpYes X0.here hx rfl (pc0 := 152) (pc' := 162) rfl (hb hby d1_152) rfl (tlt hb148).1 (by decide) (by decide) ?_
      exact J162 (by rw [show own_f148 p1 = own_f162 p1 from if_pos hb148] at hr; exact hr)
    · show Steps p.tables e below (s₁.setTop (mkF m 152 #[.val (.int p1)] [(.int (12289 : Int32)), (.int p1)])) _
      refine XS.icmpNo X0.here hx rfl (hb hby d1_152) rfl (flt hb148).1 ?_
      exact J155 (by rw [show own_f148 p1 = own_f155 p1 from if_neg hb148] at hr; exact hr)
  have J141 : (∀ (f : JFrame) (acts : List Action), f.method = m → f.locked = none → f.entered = [] → (doReturn e (s₁.setTop f) acts (some (.int (own_f141 p1)))).1 = s₁.setFrames fs) → Steps p.tables e below (s₁.setTop (mkF m 141 #[.val (.int p1)] [])) (s₁.setFrames fs) := fun hr => by
    show Steps p.tables e below (s₁.setTop (mkF m 141 #[.val (.int p1)] [])) _
    refine XS.iloadN X0.here hx rfl (hb hby d1_141) rfl ?_
    show Steps p.tables e below (s₁.setTop (mkF m 142 #[.val (.int p1)] [(.int p1)])) _
    refine XS.sipush X0.here hx rfl (hb hby d1_142) ?_
    by_cases hb141 : (12271 : Int32) < p1
    · show Steps p.tables e below (s₁.setTop (mkF m 145 #[.val (.int p1)] [(.int (12271 : Int32)), (.int p1)])) _
      refine XS.icmpNo X0.here hx rfl (hb hby d1_145) rfl (tlt hb141).2.2.2 ?_
      exact J148 (by rw [show own_f141 p1 = own_f148 p1 from if_pos hb141] at hr; exact hr)
    · show Steps p.tables e below (s₁.setTop (mkF m 145 #[.val (.int p1)] [(.int (12271 : Int32)), (.int p1)])) _
      refine XS.icmpYes X0.here hx rfl (pc0 := 145) (pc' := 204) rfl (hb hby d1_145) rfl (flt hb141).2.2.2 (by decide) (by decide) ?_
      exact J204 (by rw [show own_f141 p1 = own_f204 p1 from if_neg hb141] at hr; exact hr)
  have J134 : (∀ (f : JFrame) (acts : List Action), f.method = m → f.locked = none → f.entered = [] → (doReturn e (s₁.setTop f) acts (some (.int (own_f134 p1)))).1 = s₁.setFrames fs) → Steps p.tables e below (s₁.setTop (mkF m 134 #[.val (.int p1)] [])) (s₁.setFrames fs) := fun hr => by
    show Steps p.tables e below (s₁.setTop (mkF m 134 #[.val (.int p1)] [])) _
    refine XS.iloadN X0.here hx rfl (hb hby d1_134) rfl ?_
    show Steps p.tables e below (s₁.setTop (mkF m 135 #[.val (.int p1)] [(.int p1)])) _
    refine XS.sipush X0.here hx rfl (hb hby d1_135) ?_
    by_cases hb134 : p1 < (11264 : Int32)
    · show Steps p.tables e below (s₁.setTop (mkF m 138 #[.val (.int p1)] [(.int (11264 : Int32)), (.int p1)])) _
      refine XS.icmpYes X0.here hx rfl (pc0 := 138) (pc' := 148) rfl (hb hby d1_138) rfl (tlt hb134).1 (by decide) (by decide) ?_
      exact J148 (by rw [show own_f134 p1 = own_f148 p1 from if_pos hb134] at hr; exact hr)
    · show Steps p.tables e below (s₁.setTop (mkF m 138 #[.val (.int p1)] [(.int (11264 : Int32)), (.int p1)])) _
      refine XS.icmpNo X0.here hx rfl (hb hby d1_138) rfl (flt hb134).1 ?_
      exact J141 (by rw [show own_f134 p1 = own_f141 p1 from if_neg hb134] at hr; exact hr)
  have J127 : (∀ (f : JFrame) (acts : List Action), f.method = m → f.locked = none → f.entered = [] → (doReturn e (s₁.setTop f) acts (some (.int (own_f127 p1)))).1 = s₁.setFrames fs) → Steps p.tables e below (s₁.setTop (mkF m 127 #[.val (.int p1)] [])) (s₁.setFrames fs) := fun hr => by
    show Steps p.tables e below (s₁.setTop (mkF m 127 #[.val (.int p1)] [])) _
    refine XS.iloadN X0.here hx rfl (hb hby d1_127) rfl ?_
    show Steps p.tables e below (s₁.setTop (mkF m 128 #[.val (.int p1)] [(.int p1)])) _
    refine XS.sipush X0.here hx rfl (hb hby d1_128) ?_
    by_cases hb127 : (8591 : Int32) < p1
    · show Steps p.tables e below (s₁.setTop (mkF m 131 #[.val (.int p1)] [(.int (8591 : Int32)), (.int p1)])) _
      refine XS.icmpNo X0.here hx rfl (hb hby d1_131) rfl (tlt hb127).2.2.2 ?_
      exact J134 (by rw [show own_f127 p1 = own_f134 p1 from if_pos hb127] at hr; exact hr)
    · show Steps p.tables e below (s₁.setTop (mkF m 131 #[.val (.int p1)] [(.int (8591 : Int32)), (.int p1)])) _
      refine XS.icmpYes X0.here hx rfl (pc0 := 131) (pc' := 204) rfl (hb hby d1_131) rfl (flt hb127).2.2.2 (by decide) (by decide) ?_
      exact J204 (by rw [show own_f127 p1 = own_f204 p1 from if_neg hb127] at hr; exact hr)
  have J120 : (∀ (f : JFrame) (acts : List Action), f.method = m → f.locked = none → f.entered = [] → (doReturn e (s₁.setTop f) acts (some (.int (own_f120 p1)))).1 = s₁.setFrames fs) → Steps p.tables e below (s₁.setTop (mkF m 120 #[.val (.int p1)] [])) (s₁.setFrames fs) := fun hr => by
    show Steps p.tables e below (s₁.setTop (mkF m 120 #[.val (.int p1)] [])) _
    refine XS.iloadN X0.here hx rfl (hb hby d1_120) rfl ?_
    show Steps p.tables e below (s₁.setTop (mkF m 121 #[.val (.int p1)] [(.int p1)])) _
    refine XS.sipush X0.here hx rfl (hb hby d1_121) ?_
    by_cases hb120 : p1 < (8304 : Int32)
    · show Steps p.tables e below (s₁.setTop (mkF m 124 #[.val (.int p1)] [(.int (8304 : Int32)), (.int p1)])) _
      refine XS.icmpYes X0.here hx rfl (pc0 := 124) (pc' := 134) rfl (hb hby d1_124) rfl (tlt hb120).1 (by decide) (by decide) ?_
      exact J134 (by rw [show own_f120 p1 = own_f134 p1 from if_pos hb120] at hr; exact hr)
    · show Steps p.tables e below (s₁.setTop (mkF m 124 #[.val (.int p1)] [(.int (8304 : Int32)), (.int p1)])) _
      refine XS.icmpNo X0.here hx rfl (hb hby d1_124) rfl (flt hb120).1 ?_
      exact J127 (by rw [show own_f120 p1 = own_f127 p1 from if_neg hb120] at hr; exact hr)
  have J113 : (∀ (f : JFrame) (acts : List Action), f.method = m → f.locked = none → f.entered = [] → (doReturn e (s₁.setTop f) acts (some (.int (own_f113 p1)))).1 = s₁.setFrames fs) → Steps p.tables e below (s₁.setTop (mkF m 113 #[.val (.int p1)] [])) (s₁.setFrames fs) := fun hr => by
    show Steps p.tables e below (s₁.setTop (mkF m 113 #[.val (.int p1)] [])) _
    refine XS.iloadN X0.here hx rfl (hb hby d1_113) rfl ?_
    show Steps p.tables e below (s₁.setTop (mkF m 114 #[.val (.int p1)] [(.int p1)])) _
    refine XS.sipush X0.here hx rfl (hb hby d1_114) ?_
    by_cases hb113 : (8205 : Int32) < p1
    · show Steps p.tables e below (s₁.setTop (mkF m 117 #[.val (.int p1)] [(.int (8205 : Int32)), (.int p1)])) _
      refine XS.icmpNo X0.here hx rfl (hb hby d1_117) rfl (tlt hb113).2.2.2 ?_
      exact J120 (by rw [show own_f113 p1 = own_f120 p1 from if_pos hb113] at hr; exact hr)
    · show Steps p.tables e below (s₁.setTop (mkF m 117 #[.val (.int p1)] [(.int (8205 : Int32)), (.int p1)])) _
      refine XS.icmpYes X0.here hx rfl (pc0 := 117) (pc' := 204) rfl (hb hby d1_117) rfl (flt hb113).2.2.2 (by decide) (by decide) ?_
      exact J204 (by rw [show own_f113 p1 = own_f204 p1 from if_neg hb113] at hr; exact hr)
  have J106 : (∀ (f : JFrame) (acts : List Action), f.method = m → f.locked = none → f.entered = [] → (doReturn e (s₁.setTop f) acts (some (.int (own_f106 p1)))).1 = s₁.setFrames fs) → Steps p.tables e below (s₁.setTop (mkF m 106 #[.val (.int p1)] [])) (s₁.setFrames fs) := fun hr => by
    show Steps p.tables e below (s₁.setTop (mkF m 106 #[.val (.int p1)] [])) _
    refine XS.iloadN X0.here hx rfl (hb hby d1_106) rfl ?_
    show Steps p.tables e below (s₁.setTop (mkF m 107 #[.val (.int p1)] [(.int p1)])) _
    refine XS.sipush X0.here hx rfl (hb hby d1_107) ?_
    by_cases hb106 : p1 < (8204 : Int32)
    · show Steps p.tables e below (s₁.setTop (mkF m 110 #[.val (.int p1)] [(.int (8204 : Int32)), (.int p1)])) _
      refine XS.icmpYes X0.here hx rfl (pc0 := 110) (pc' := 120) rfl (hb hby d1_110) rfl (tlt hb106).1 (by decide) (by decide) ?_
      exact J120 (by rw [show own_f106 p1 = own_f120 p1 from if_pos hb106] at hr; exact hr)
    · show Steps p.tables e below (s₁.setTop (mkF m 110 #[.val (.int p1)] [(.int (8204 : Int32)), (.int p1)])) _
      refine XS.icmpNo X0.here hx rfl (hb hby d1_110) rfl (flt hb106).1 ?_
      exact J113 (by rw [show own_f106 p1 = own_f113 p1 from if_neg hb106] at hr; exact hr)
  have J99 : (∀ (f : JFrame) (acts : List Action), f.method = m → f.locked = none → f.entered = [] → (doReturn e (s₁.setTop f) acts (some (.int (own_f99 p1)))).1 = s₁.setFrames fs) → Steps p.tables e below (s₁.setTop (mkF m 99 #[.val (.int p1)] [])) (s₁.setFrames fs) := fun hr => by
    show Steps p.tables e below (s₁.setTop (mkF m 99 #[.val (.int p1)] [])) _
    refine XS.iloadN X0.here hx rfl (hb hby d1_99) rfl ?_
    show Steps p.tables e below (s₁.setTop (mkF m 100 #[.val (.int p1)] [(.int p1)])) _
    refine XS.sipush X0.here hx rfl (hb hby d1_100) ?_
    by_cases hb99 : (8191 : Int32) < p1
    · show Steps p.tables e below (s₁.setTop (mkF m 103 #[.val (.int p1)] [(.int (8191 : Int32)), (.int p1)])) _
      refine XS.icmpNo X0.here hx rfl (hb hby d1_103) rfl (tlt hb99).2.2.2 ?_
      exact J106 (by rw [show own_f99 p1 = own_f106 p1 from if_pos hb99] at hr; exact hr)
    · show Steps p.tables e below (s₁.setTop (mkF m 103 #[.val (.int p1)] [(.int (8191 : Int32)), (.int p1)])) _
      refine XS.icmpYes X0.here hx rfl (pc0 := 103) (pc' := 204) rfl (hb hby d1_103) rfl (flt hb99).2.2.2 (by decide) (by decide) ?_
      exact J204 (by rw [show own_f99 p1 = own_f204 p1 from if_neg hb99] at hr; exact hr)
  have J92 : (∀ (f : JFrame) (acts : List Action), f.method = m → f.locked = none → f.entered = [] → (doReturn e (s₁.setTop f) acts (some (.int (own_f92 p1)))).1 = s₁.setFrames fs) → Steps p.tables e below (s₁.setTop (mkF m 92 #[.val (.int p1)] [])) (s₁.setFrames fs) := fun hr => by
    show Steps p.tables e below (s₁.setTop (mkF m 92 #[.val (.int p1)] [])) _
    refine XS.iloadN X0.here hx rfl (hb hby d1_92) rfl ?_
    show Steps p.tables e below (s₁.setTop (mkF m 93 #[.val (.int p1)] [(.int p1)])) _
    refine XS.sipush X0.here hx rfl (hb hby d1_93) ?_
    by_cases hb92 : p1 < (895 : Int32)
    · show Steps p.tables e below (s₁.setTop (mkF m 96 #[.val (.int p1)] [(.int (895 : Int32)), (.int p1)])) _
      refine XS.icmpYes X0.here hx rfl (pc0 := 96) (pc' := 106) rfl (hb hby d1_96) rfl (tlt hb92).1 (by decide) (by decide) ?_
      exact J106 (by rw [show own_f92 p1 = own_f106 p1 from if_pos hb92] at hr; exact hr)
    · show Steps p.tables e below (s₁.setTop (mkF m 96 #[.val (.int p1)] [(.int (895 : Int32)), (.int p1)])) _
      refine XS.icmpNo X0.here hx rfl (hb hby d1_96) rfl (flt hb92).1 ?_
      exact J99 (by rw [show own_f92 p1 = own_f99 p1 from if_neg hb92] at hr; exact hr)
  have J85 : (∀ (f : JFrame) (acts : List Action), f.method = m → f.locked = none → f.entered = [] → (doReturn e (s₁.setTop f) acts (some (.int (own_f85 p1)))).1 = s₁.setFrames fs) → Steps p.tables e below (s₁.setTop (mkF m 85 #[.val (.int p1)] [])) (s₁.setFrames fs) := fun hr => by
    show Steps p.tables e below (s₁.setTop (mkF m 85 #[.val (.int p1)] [])) _
    refine XS.iloadN X0.here hx rfl (hb hby d1_85) rfl ?_
    show Steps p.tables e below (s₁.setTop (mkF m 86 #[.val (.int p1)] [(.int p1)])) _
    refine XS.sipush X0.here hx rfl (hb hby d1_86) ?_
    by_cases hb85 : (893 : Int32) < p1
    · show Steps p.tables e below (s₁.setTop (mkF m 89 #[.val (.int p1)] [(.int (893 : Int32)), (.int p1)])) _
      refine XS.icmpNo X0.here hx rfl (hb hby d1_89) rfl (tlt hb85).2.2.2 ?_
      exact J92 (by rw [show own_f85 p1 = own_f92 p1 from if_pos hb85] at hr; exact hr)
    · show Steps p.tables e below (s₁.setTop (mkF m 89 #[.val (.int p1)] [(.int (893 : Int32)), (.int p1)])) _
      refine XS.icmpYes X0.here hx rfl (pc0 := 89) (pc' := 204) rfl (hb hby d1_89) rfl (flt hb85).2.2.2 (by decide) (by decide) ?_
      exact J204 (by rw [show own_f85 p1 = own_f204 p1 from if_neg hb85] at hr; exact hr)
  have J78 : (∀ (f : JFrame) (acts : List Action), f.method = m → f.locked = none → f.entered = [] → (doReturn e (s₁.setTop f) acts (some (.int (own_f78 p1)))).1 = s₁.setFrames fs) → Steps p.tables e below (s₁.setTop (mkF m 78 #[.val (.int p1)] [])) (s₁.setFrames fs) := fun hr => by
    show Steps p.tables e below (s₁.setTop (mkF m 78 #[.val (.int p1)] [])) _
    refine XS.iloadN X0.here hx rfl (hb hby d1_78) rfl ?_
    show Steps p.tables e below (s₁.setTop (mkF m 79 #[.val (.int p1)] [(.int p1)])) _
    refine XS.sipush X0.here hx rfl (hb hby d1_79) ?_
    by_cases hb78 : p1 < (880 : Int32)
    · show Steps p.tables e below (s₁.setTop (mkF m 82 #[.val (.int p1)] [(.int (880 : Int32)), (.int p1)])) _
      refine XS.icmpYes X0.here hx rfl (pc0 := 82) (pc' := 92) rfl (hb hby d1_82) rfl (tlt hb78).1 (by decide) (by decide) ?_
      exact J92 (by rw [show own_f78 p1 = own_f92 p1 from if_pos hb78] at hr; exact hr)
    · show Steps p.tables e below (s₁.setTop (mkF m 82 #[.val (.int p1)] [(.int (880 : Int32)), (.int p1)])) _
      refine XS.icmpNo X0.here hx rfl (hb hby d1_82) rfl (flt hb78).1 ?_
      exact J85 (by rw [show own_f78 p1 = own_f85 p1 from if_neg hb78] at hr; exact hr)
  have J71 : (∀ (f : JFrame) (acts : List Action), f.method = m → f.locked = none → f.entered = [] → (doReturn e (s₁.setTop f) acts (some (.int (own_f71 p1)))).1 = s₁.setFrames fs) → Steps p.tables e below (s₁.setTop (mkF m 71 #[.val (.int p1)] [])) (s₁.setFrames fs) := fun hr => by
    show Steps p.tables e below (s₁.setTop (mkF m 71 #[.val (.int p1)] [])) _
    refine XS.iloadN X0.here hx rfl (hb hby d1_71) rfl ?_
    show Steps p.tables e below (s₁.setTop (mkF m 72 #[.val (.int p1)] [(.int p1)])) _
    refine XS.sipush X0.here hx rfl (hb hby d1_72) ?_
    by_cases hb71 : (767 : Int32) < p1
    · show Steps p.tables e below (s₁.setTop (mkF m 75 #[.val (.int p1)] [(.int (767 : Int32)), (.int p1)])) _
      refine XS.icmpNo X0.here hx rfl (hb hby d1_75) rfl (tlt hb71).2.2.2 ?_
      exact J78 (by rw [show own_f71 p1 = own_f78 p1 from if_pos hb71] at hr; exact hr)
    · show Steps p.tables e below (s₁.setTop (mkF m 75 #[.val (.int p1)] [(.int (767 : Int32)), (.int p1)])) _
      refine XS.icmpYes X0.here hx rfl (pc0 := 75) (pc' := 204) rfl (hb hby d1_75) rfl (flt hb71).2.2.2 (by decide) (by decide) ?_
      exact J204 (by rw [show own_f71 p1 = own_f204 p1 from if_neg hb71] at hr; exact hr)
  have J64 : (∀ (f : JFrame) (acts : List Action), f.method = m → f.locked = none → f.entered = [] → (doReturn e (s₁.setTop f) acts (some (.int (own_f64 p1)))).1 = s₁.setFrames fs) → Steps p.tables e below (s₁.setTop (mkF m 64 #[.val (.int p1)] [])) (s₁.setFrames fs) := fun hr => by
    show Steps p.tables e below (s₁.setTop (mkF m 64 #[.val (.int p1)] [])) _
    refine XS.iloadN X0.here hx rfl (hb hby d1_64) rfl ?_
    show Steps p.tables e below (s₁.setTop (mkF m 65 #[.val (.int p1)] [(.int p1)])) _
    refine XS.sipush X0.here hx rfl (hb hby d1_65) ?_
    by_cases hb64 : p1 < (248 : Int32)
    · show Steps p.tables e below (s₁.setTop (mkF m 68 #[.val (.int p1)] [(.int (248 : Int32)), (.int p1)])) _
      refine XS.icmpYes X0.here hx rfl (pc0 := 68) (pc' := 78) rfl (hb hby d1_68) rfl (tlt hb64).1 (by decide) (by decide) ?_
      exact J78 (by rw [show own_f64 p1 = own_f78 p1 from if_pos hb64] at hr; exact hr)
    · show Steps p.tables e below (s₁.setTop (mkF m 68 #[.val (.int p1)] [(.int (248 : Int32)), (.int p1)])) _
      refine XS.icmpNo X0.here hx rfl (hb hby d1_68) rfl (flt hb64).1 ?_
      exact J71 (by rw [show own_f64 p1 = own_f71 p1 from if_neg hb64] at hr; exact hr)
  have J57 : (∀ (f : JFrame) (acts : List Action), f.method = m → f.locked = none → f.entered = [] → (doReturn e (s₁.setTop f) acts (some (.int (own_f57 p1)))).1 = s₁.setFrames fs) → Steps p.tables e below (s₁.setTop (mkF m 57 #[.val (.int p1)] [])) (s₁.setFrames fs) := fun hr => by
    show Steps p.tables e below (s₁.setTop (mkF m 57 #[.val (.int p1)] [])) _
    refine XS.iloadN X0.here hx rfl (hb hby d1_57) rfl ?_
    show Steps p.tables e below (s₁.setTop (mkF m 58 #[.val (.int p1)] [(.int p1)])) _
    refine XS.sipush X0.here hx rfl (hb hby d1_58) ?_
    by_cases hb57 : (246 : Int32) < p1
    · show Steps p.tables e below (s₁.setTop (mkF m 61 #[.val (.int p1)] [(.int (246 : Int32)), (.int p1)])) _
      refine XS.icmpNo X0.here hx rfl (hb hby d1_61) rfl (tlt hb57).2.2.2 ?_
      exact J64 (by rw [show own_f57 p1 = own_f64 p1 from if_pos hb57] at hr; exact hr)
    · show Steps p.tables e below (s₁.setTop (mkF m 61 #[.val (.int p1)] [(.int (246 : Int32)), (.int p1)])) _
      refine XS.icmpYes X0.here hx rfl (pc0 := 61) (pc' := 204) rfl (hb hby d1_61) rfl (flt hb57).2.2.2 (by decide) (by decide) ?_
      exact J204 (by rw [show own_f57 p1 = own_f204 p1 from if_neg hb57] at hr; exact hr)
  have J50 : (∀ (f : JFrame) (acts : List Action), f.method = m → f.locked = none → f.entered = [] → (doReturn e (s₁.setTop f) acts (some (.int (own_f50 p1)))).1 = s₁.setFrames fs) → Steps p.tables e below (s₁.setTop (mkF m 50 #[.val (.int p1)] [])) (s₁.setFrames fs) := fun hr => by
    show Steps p.tables e below (s₁.setTop (mkF m 50 #[.val (.int p1)] [])) _
    refine XS.iloadN X0.here hx rfl (hb hby d1_50) rfl ?_
    show Steps p.tables e below (s₁.setTop (mkF m 51 #[.val (.int p1)] [(.int p1)])) _
    refine XS.sipush X0.here hx rfl (hb hby d1_51) ?_
    by_cases hb50 : p1 < (216 : Int32)
    · show Steps p.tables e below (s₁.setTop (mkF m 54 #[.val (.int p1)] [(.int (216 : Int32)), (.int p1)])) _
      refine XS.icmpYes X0.here hx rfl (pc0 := 54) (pc' := 64) rfl (hb hby d1_54) rfl (tlt hb50).1 (by decide) (by decide) ?_
      exact J64 (by rw [show own_f50 p1 = own_f64 p1 from if_pos hb50] at hr; exact hr)
    · show Steps p.tables e below (s₁.setTop (mkF m 54 #[.val (.int p1)] [(.int (216 : Int32)), (.int p1)])) _
      refine XS.icmpNo X0.here hx rfl (hb hby d1_54) rfl (flt hb50).1 ?_
      exact J57 (by rw [show own_f50 p1 = own_f57 p1 from if_neg hb50] at hr; exact hr)
  have J43 : (∀ (f : JFrame) (acts : List Action), f.method = m → f.locked = none → f.entered = [] → (doReturn e (s₁.setTop f) acts (some (.int (own_f43 p1)))).1 = s₁.setFrames fs) → Steps p.tables e below (s₁.setTop (mkF m 43 #[.val (.int p1)] [])) (s₁.setFrames fs) := fun hr => by
    show Steps p.tables e below (s₁.setTop (mkF m 43 #[.val (.int p1)] [])) _
    refine XS.iloadN X0.here hx rfl (hb hby d1_43) rfl ?_
    show Steps p.tables e below (s₁.setTop (mkF m 44 #[.val (.int p1)] [(.int p1)])) _
    refine XS.sipush X0.here hx rfl (hb hby d1_44) ?_
    by_cases hb43 : (214 : Int32) < p1
    · show Steps p.tables e below (s₁.setTop (mkF m 47 #[.val (.int p1)] [(.int (214 : Int32)), (.int p1)])) _
      refine XS.icmpNo X0.here hx rfl (hb hby d1_47) rfl (tlt hb43).2.2.2 ?_
      exact J50 (by rw [show own_f43 p1 = own_f50 p1 from if_pos hb43] at hr; exact hr)
    · show Steps p.tables e below (s₁.setTop (mkF m 47 #[.val (.int p1)] [(.int (214 : Int32)), (.int p1)])) _
      refine XS.icmpYes X0.here hx rfl (pc0 := 47) (pc' := 204) rfl (hb hby d1_47) rfl (flt hb43).2.2.2 (by decide) (by decide) ?_
      exact J204 (by rw [show own_f43 p1 = own_f204 p1 from if_neg hb43] at hr; exact hr)
  have J36 : (∀ (f : JFrame) (acts : List Action), f.method = m → f.locked = none → f.entered = [] → (doReturn e (s₁.setTop f) acts (some (.int (own_f36 p1)))).1 = s₁.setFrames fs) → Steps p.tables e below (s₁.setTop (mkF m 36 #[.val (.int p1)] [])) (s₁.setFrames fs) := fun hr => by
    show Steps p.tables e below (s₁.setTop (mkF m 36 #[.val (.int p1)] [])) _
    refine XS.iloadN X0.here hx rfl (hb hby d1_36) rfl ?_
    show Steps p.tables e below (s₁.setTop (mkF m 37 #[.val (.int p1)] [(.int p1)])) _
    refine XS.sipush X0.here hx rfl (hb hby d1_37) ?_
    by_cases hb36 : p1 < (192 : Int32)
    · show Steps p.tables e below (s₁.setTop (mkF m 40 #[.val (.int p1)] [(.int (192 : Int32)), (.int p1)])) _
      refine XS.icmpYes X0.here hx rfl (pc0 := 40) (pc' := 50) rfl (hb hby d1_40) rfl (tlt hb36).1 (by decide) (by decide) ?_
      exact J50 (by rw [show own_f36 p1 = own_f50 p1 from if_pos hb36] at hr; exact hr)
    · show Steps p.tables e below (s₁.setTop (mkF m 40 #[.val (.int p1)] [(.int (192 : Int32)), (.int p1)])) _
      refine XS.icmpNo X0.here hx rfl (hb hby d1_40) rfl (flt hb36).1 ?_
      exact J43 (by rw [show own_f36 p1 = own_f43 p1 from if_neg hb36] at hr; exact hr)
  have J30 : (∀ (f : JFrame) (acts : List Action), f.method = m → f.locked = none → f.entered = [] → (doReturn e (s₁.setTop f) acts (some (.int (own_f30 p1)))).1 = s₁.setFrames fs) → Steps p.tables e below (s₁.setTop (mkF m 30 #[.val (.int p1)] [])) (s₁.setFrames fs) := fun hr => by
    show Steps p.tables e below (s₁.setTop (mkF m 30 #[.val (.int p1)] [])) _
    refine XS.iloadN X0.here hx rfl (hb hby d1_30) rfl ?_
    show Steps p.tables e below (s₁.setTop (mkF m 31 #[.val (.int p1)] [(.int p1)])) _
    refine XS.bipush X0.here hx rfl (hb hby d1_31) ?_
    by_cases hb30 : (122 : Int32) < p1
    · show Steps p.tables e below (s₁.setTop (mkF m 33 #[.val (.int p1)] [(.int (122 : Int32)), (.int p1)])) _
      refine XS.icmpNo X0.here hx rfl (hb hby d1_33) rfl (tlt hb30).2.2.2 ?_
      exact J36 (by rw [show own_f30 p1 = own_f36 p1 from if_pos hb30] at hr; exact hr)
    · show Steps p.tables e below (s₁.setTop (mkF m 33 #[.val (.int p1)] [(.int (122 : Int32)), (.int p1)])) _
      refine XS.icmpYes X0.here hx rfl (pc0 := 33) (pc' := 204) rfl (hb hby d1_33) rfl (flt hb30).2.2.2 (by decide) (by decide) ?_
      exact J204 (by rw [show own_f30 p1 = own_f204 p1 from if_neg hb30] at hr; exact hr)
  have J24 : (∀ (f : JFrame) (acts : List Action), f.method = m → f.locked = none → f.entered = [] → (doReturn e (s₁.setTop f) acts (some (.int (own_f24 p1)))).1 = s₁.setFrames fs) → Steps p.tables e below (s₁.setTop (mkF m 24 #[.val (.int p1)] [])) (s₁.setFrames fs) := fun hr => by
    show Steps p.tables e below (s₁.setTop (mkF m 24 #[.val (.int p1)] [])) _
    refine XS.iloadN X0.here hx rfl (hb hby d1_24) rfl ?_
    show Steps p.tables e below (s₁.setTop (mkF m 25 #[.val (.int p1)] [(.int p1)])) _
    refine XS.bipush X0.here hx rfl (hb hby d1_25) ?_
    by_cases hb24 : p1 < (97 : Int32)
    · show Steps p.tables e below (s₁.setTop (mkF m 27 #[.val (.int p1)] [(.int (97 : Int32)), (.int p1)])) _
      refine XS.icmpYes X0.here hx rfl (pc0 := 27) (pc' := 36) rfl (hb hby d1_27) rfl (tlt hb24).1 (by decide) (by decide) ?_
      exact J36 (by rw [show own_f24 p1 = own_f36 p1 from if_pos hb24] at hr; exact hr)
    · show Steps p.tables e below (s₁.setTop (mkF m 27 #[.val (.int p1)] [(.int (97 : Int32)), (.int p1)])) _
      refine XS.icmpNo X0.here hx rfl (hb hby d1_27) rfl (flt hb24).1 ?_
      exact J30 (by rw [show own_f24 p1 = own_f30 p1 from if_neg hb24] at hr; exact hr)
  have J18 : (∀ (f : JFrame) (acts : List Action), f.method = m → f.locked = none → f.entered = [] → (doReturn e (s₁.setTop f) acts (some (.int (own_f18 p1)))).1 = s₁.setFrames fs) → Steps p.tables e below (s₁.setTop (mkF m 18 #[.val (.int p1)] [])) (s₁.setFrames fs) := fun hr => by
    show Steps p.tables e below (s₁.setTop (mkF m 18 #[.val (.int p1)] [])) _
    refine XS.iloadN X0.here hx rfl (hb hby d1_18) rfl ?_
    show Steps p.tables e below (s₁.setTop (mkF m 19 #[.val (.int p1)] [(.int p1)])) _
    refine XS.bipush X0.here hx rfl (hb hby d1_19) ?_
    by_cases hb18 : p1 = (95 : Int32)
    · show Steps p.tables e below (s₁.setTop (mkF m 21 #[.val (.int p1)] [(.int (95 : Int32)), (.int p1)])) _
      refine XS.icmpYes X0.here hx rfl (pc0 := 21) (pc' := 204) rfl (hb hby d1_21) rfl (teq hb18).1 (by decide) (by decide) ?_
      exact J204 (by rw [show own_f18 p1 = own_f204 p1 from if_pos hb18] at hr; exact hr)
    · show Steps p.tables e below (s₁.setTop (mkF m 21 #[.val (.int p1)] [(.int (95 : Int32)), (.int p1)])) _
      refine XS.icmpNo X0.here hx rfl (hb hby d1_21) rfl (feq hb18).1 ?_
      exact J24 (by rw [show own_f18 p1 = own_f24 p1 from if_neg hb18] at hr; exact hr)
  have J12 : (∀ (f : JFrame) (acts : List Action), f.method = m → f.locked = none → f.entered = [] → (doReturn e (s₁.setTop f) acts (some (.int (own_f12 p1)))).1 = s₁.setFrames fs) → Steps p.tables e below (s₁.setTop (mkF m 12 #[.val (.int p1)] [])) (s₁.setFrames fs) := fun hr => by
    show Steps p.tables e below (s₁.setTop (mkF m 12 #[.val (.int p1)] [])) _
    refine XS.iloadN X0.here hx rfl (hb hby d1_12) rfl ?_
    show Steps p.tables e below (s₁.setTop (mkF m 13 #[.val (.int p1)] [(.int p1)])) _
    refine XS.bipush X0.here hx rfl (hb hby d1_13) ?_
    by_cases hb12 : (90 : Int32) < p1
    · show Steps p.tables e below (s₁.setTop (mkF m 15 #[.val (.int p1)] [(.int (90 : Int32)), (.int p1)])) _
      refine XS.icmpNo X0.here hx rfl (hb hby d1_15) rfl (tlt hb12).2.2.2 ?_
      exact J18 (by rw [show own_f12 p1 = own_f18 p1 from if_pos hb12] at hr; exact hr)
    · show Steps p.tables e below (s₁.setTop (mkF m 15 #[.val (.int p1)] [(.int (90 : Int32)), (.int p1)])) _
      refine XS.icmpYes X0.here hx rfl (pc0 := 15) (pc' := 204) rfl (hb hby d1_15) rfl (flt hb12).2.2.2 (by decide) (by decide) ?_
      exact J204 (by rw [show own_f12 p1 = own_f204 p1 from if_neg hb12] at hr; exact hr)
  have J6 : (∀ (f : JFrame) (acts : List Action), f.method = m → f.locked = none → f.entered = [] → (doReturn e (s₁.setTop f) acts (some (.int (own_f6 p1)))).1 = s₁.setFrames fs) → Steps p.tables e below (s₁.setTop (mkF m 6 #[.val (.int p1)] [])) (s₁.setFrames fs) := fun hr => by
    show Steps p.tables e below (s₁.setTop (mkF m 6 #[.val (.int p1)] [])) _
    refine XS.iloadN X0.here hx rfl (hb hby d1_6) rfl ?_
    show Steps p.tables e below (s₁.setTop (mkF m 7 #[.val (.int p1)] [(.int p1)])) _
    refine XS.bipush X0.here hx rfl (hb hby d1_7) ?_
    by_cases hb6 : p1 < (65 : Int32)
    · show Steps p.tables e below (s₁.setTop (mkF m 9 #[.val (.int p1)] [(.int (65 : Int32)), (.int p1)])) _
      refine XS.icmpYes X0.here hx rfl (pc0 := 9) (pc' := 18) rfl (hb hby d1_9) rfl (tlt hb6).1 (by decide) (by decide) ?_
      exact J18 (by rw [show own_f6 p1 = own_f18 p1 from if_pos hb6] at hr; exact hr)
    · show Steps p.tables e below (s₁.setTop (mkF m 9 #[.val (.int p1)] [(.int (65 : Int32)), (.int p1)])) _
      refine XS.icmpNo X0.here hx rfl (hb hby d1_9) rfl (flt hb6).1 ?_
      exact J12 (by rw [show own_f6 p1 = own_f12 p1 from if_neg hb6] at hr; exact hr)
  have J0 : (∀ (f : JFrame) (acts : List Action), f.method = m → f.locked = none → f.entered = [] → (doReturn e (s₁.setTop f) acts (some (.int (own_f0 p1)))).1 = s₁.setFrames fs) → Steps p.tables e below (s₁.setTop (mkF m 0 #[.val (.int p1)] [])) (s₁.setFrames fs) := fun hr => by
    show Steps p.tables e below (s₁.setTop (mkF m 0 #[.val (.int p1)] [])) _
    refine XS.iloadN X0.here hx rfl (hb hby d1_0) rfl ?_
    show Steps p.tables e below (s₁.setTop (mkF m 1 #[.val (.int p1)] [(.int p1)])) _
    refine XS.bipush X0.here hx rfl (hb hby d1_1) ?_
    by_cases hb0 : p1 = (58 : Int32)
    · show Steps p.tables e below (s₁.setTop (mkF m 3 #[.val (.int p1)] [(.int (58 : Int32)), (.int p1)])) _
      refine XS.icmpYes X0.here hx rfl (pc0 := 3) (pc' := 204) rfl (hb hby d1_3) rfl (teq hb0).1 (by decide) (by decide) ?_
      exact J204 (by rw [show own_f0 p1 = own_f204 p1 from if_pos hb0] at hr; exact hr)
    · show Steps p.tables e below (s₁.setTop (mkF m 3 #[.val (.int p1)] [(.int (58 : Int32)), (.int p1)])) _
      refine XS.icmpNo X0.here hx rfl (hb hby d1_3) rfl (feq hb0).1 ?_
      exact J6 (by rw [show own_f0 p1 = own_f6 p1 from if_neg hb0] at hr; exact hr)
  refine ⟨_, _, pre0 _ ?_, hrun, hended, _, _, rfl, ?_, ⟨_, rfl⟩, hW, hsame.mono (by decide) (by decide)⟩
  · exact J0 hr
  · exact ⟨rfl, N0, e0⟩
theorem ef_rmR (m : MethodId) (x0 : Int32) : entryFrame m #[(.int x0)] 1 = mkF m 0 #[.val (.int x0)] [] := by first | (simp [entryFrame, mkF, argsToLocals, Value.category]; done) | rfl
theorem pn_com_example_yarkon_yarkon_document_DocumentCharactersIsNameStartCharPinLaw : plainName "com/example/yarkon/yarkon/document/DocumentCharactersIsNameStartCharPinLaw" = true := by first | (simp [plainName, overriddenIn]; done) | decide +kernel
theorem d2_0 : decode method_2_code 0 = .ok (.iload_n 0, 1) := by decide +kernel
theorem d2_1 : decode method_2_code 1 = .ok (.bipush 58, 2) := by decide +kernel
theorem d2_3 : decode method_2_code 3 = .ok (.if_icmp .lt 9, 3) := by decide +kernel
theorem d2_6 : decode method_2_code 6 = .ok (.iload_n 0, 1) := by decide +kernel
theorem d2_7 : decode method_2_code 7 = .ok (.ldc 7, 2) := by decide +kernel
theorem d2_9 : decode method_2_code 9 = .ok (.if_icmp .le 5, 3) := by decide +kernel
theorem d2_14 : decode method_2_code 14 = .ok (.iload_n 0, 1) := by decide +kernel
theorem d2_15 : decode method_2_code 15 = .ok (.bipush 59, 2) := by decide +kernel
theorem d2_17 : decode method_2_code 17 = .ok (.if_icmp .lt 11, 3) := by decide +kernel
theorem d2_20 : decode method_2_code 20 = .ok (.iload_n 0, 1) := by decide +kernel
theorem d2_21 : decode method_2_code 21 = .ok (.bipush 64, 2) := by decide +kernel
theorem d2_23 : decode method_2_code 23 = .ok (.if_icmp .gt 5, 3) := by decide +kernel
theorem d2_26 : decode method_2_code 26 = .ok (.iconst 0, 1) := by decide +kernel
theorem d2_28 : decode method_2_code 28 = .ok (.iload_n 0, 1) := by decide +kernel
theorem d2_29 : decode method_2_code 29 = .ok (.bipush 91, 2) := by decide +kernel
theorem d2_31 : decode method_2_code 31 = .ok (.if_icmp .lt 11, 3) := by decide +kernel
theorem d2_34 : decode method_2_code 34 = .ok (.iload_n 0, 1) := by decide +kernel
theorem d2_35 : decode method_2_code 35 = .ok (.bipush 94, 2) := by decide +kernel
theorem d2_37 : decode method_2_code 37 = .ok (.if_icmp .gt 5, 3) := by decide +kernel
theorem d2_40 : decode method_2_code 40 = .ok (.iconst 0, 1) := by decide +kernel
theorem d2_42 : decode method_2_code 42 = .ok (.iload_n 0, 1) := by decide +kernel
theorem d2_43 : decode method_2_code 43 = .ok (.bipush 96, 2) := by decide +kernel
theorem d2_45 : decode method_2_code 45 = .ok (.if_icmp .ne 5, 3) := by decide +kernel
theorem d2_50 : decode method_2_code 50 = .ok (.iload_n 0, 1) := by decide +kernel
theorem d2_51 : decode method_2_code 51 = .ok (.bipush 123, 2) := by decide +kernel
theorem d2_53 : decode method_2_code 53 = .ok (.if_icmp .lt 12, 3) := by decide +kernel
theorem d2_56 : decode method_2_code 56 = .ok (.iload_n 0, 1) := by decide +kernel
theorem d2_57 : decode method_2_code 57 = .ok (.sipush 191, 3) := by decide +kernel
theorem d2_60 : decode method_2_code 60 = .ok (.if_icmp .gt 5, 3) := by decide +kernel
theorem d2_63 : decode method_2_code 63 = .ok (.iconst 0, 1) := by decide +kernel
theorem d2_65 : decode method_2_code 65 = .ok (.iload_n 0, 1) := by decide +kernel
theorem d2_66 : decode method_2_code 66 = .ok (.sipush 215, 3) := by decide +kernel
theorem d2_69 : decode method_2_code 69 = .ok (.if_icmp .eq 10, 3) := by decide +kernel
theorem d2_72 : decode method_2_code 72 = .ok (.iload_n 0, 1) := by decide +kernel
theorem d2_73 : decode method_2_code 73 = .ok (.sipush 247, 3) := by decide +kernel
theorem d2_76 : decode method_2_code 76 = .ok (.if_icmp .ne 5, 3) := by decide +kernel
theorem d2_81 : decode method_2_code 81 = .ok (.iload_n 0, 1) := by decide +kernel
theorem d2_82 : decode method_2_code 82 = .ok (.sipush 768, 3) := by decide +kernel
theorem d2_85 : decode method_2_code 85 = .ok (.if_icmp .lt 12, 3) := by decide +kernel
theorem d2_88 : decode method_2_code 88 = .ok (.iload_n 0, 1) := by decide +kernel
theorem d2_89 : decode method_2_code 89 = .ok (.sipush 879, 3) := by decide +kernel
theorem d2_92 : decode method_2_code 92 = .ok (.if_icmp .gt 5, 3) := by decide +kernel
theorem d2_95 : decode method_2_code 95 = .ok (.iconst 0, 1) := by decide +kernel
theorem d2_97 : decode method_2_code 97 = .ok (.iload_n 0, 1) := by decide +kernel
theorem d2_98 : decode method_2_code 98 = .ok (.sipush 894, 3) := by decide +kernel
theorem d2_101 : decode method_2_code 101 = .ok (.if_icmp .ne 5, 3) := by decide +kernel
theorem d2_106 : decode method_2_code 106 = .ok (.iload_n 0, 1) := by decide +kernel
theorem d2_107 : decode method_2_code 107 = .ok (.sipush 8192, 3) := by decide +kernel
theorem d2_110 : decode method_2_code 110 = .ok (.if_icmp .lt 12, 3) := by decide +kernel
theorem d2_113 : decode method_2_code 113 = .ok (.iload_n 0, 1) := by decide +kernel
theorem d2_114 : decode method_2_code 114 = .ok (.sipush 8203, 3) := by decide +kernel
theorem d2_117 : decode method_2_code 117 = .ok (.if_icmp .gt 5, 3) := by decide +kernel
theorem d2_120 : decode method_2_code 120 = .ok (.iconst 0, 1) := by decide +kernel
theorem d2_122 : decode method_2_code 122 = .ok (.iload_n 0, 1) := by decide +kernel
theorem d2_123 : decode method_2_code 123 = .ok (.sipush 8206, 3) := by decide +kernel
theorem d2_126 : decode method_2_code 126 = .ok (.if_icmp .lt 12, 3) := by decide +kernel
theorem d2_129 : decode method_2_code 129 = .ok (.iload_n 0, 1) := by decide +kernel
theorem d2_130 : decode method_2_code 130 = .ok (.sipush 8303, 3) := by decide +kernel
theorem d2_133 : decode method_2_code 133 = .ok (.if_icmp .gt 5, 3) := by decide +kernel
theorem d2_136 : decode method_2_code 136 = .ok (.iconst 0, 1) := by decide +kernel
theorem d2_138 : decode method_2_code 138 = .ok (.iload_n 0, 1) := by decide +kernel
theorem d2_139 : decode method_2_code 139 = .ok (.sipush 8592, 3) := by decide +kernel
theorem d2_142 : decode method_2_code 142 = .ok (.if_icmp .lt 12, 3) := by decide +kernel
theorem d2_145 : decode method_2_code 145 = .ok (.iload_n 0, 1) := by decide +kernel
theorem d2_146 : decode method_2_code 146 = .ok (.sipush 11263, 3) := by decide +kernel
theorem d2_149 : decode method_2_code 149 = .ok (.if_icmp .gt 5, 3) := by decide +kernel
theorem d2_152 : decode method_2_code 152 = .ok (.iconst 0, 1) := by decide +kernel
theorem d2_154 : decode method_2_code 154 = .ok (.iload_n 0, 1) := by decide +kernel
theorem d2_155 : decode method_2_code 155 = .ok (.sipush 12272, 3) := by decide +kernel
theorem d2_158 : decode method_2_code 158 = .ok (.if_icmp .lt 12, 3) := by decide +kernel
theorem d2_161 : decode method_2_code 161 = .ok (.iload_n 0, 1) := by decide +kernel
theorem d2_162 : decode method_2_code 162 = .ok (.sipush 12288, 3) := by decide +kernel
theorem d2_165 : decode method_2_code 165 = .ok (.if_icmp .gt 5, 3) := by decide +kernel
theorem d2_168 : decode method_2_code 168 = .ok (.iconst 0, 1) := by decide +kernel
theorem d2_170 : decode method_2_code 170 = .ok (.iload_n 0, 1) := by decide +kernel
theorem d2_171 : decode method_2_code 171 = .ok (.ldc 8, 2) := by decide +kernel
theorem d2_173 : decode method_2_code 173 = .ok (.if_icmp .lt 11, 3) := by decide +kernel
theorem d2_176 : decode method_2_code 176 = .ok (.iload_n 0, 1) := by decide +kernel
theorem d2_177 : decode method_2_code 177 = .ok (.ldc 9, 2) := by decide +kernel
theorem d2_179 : decode method_2_code 179 = .ok (.if_icmp .gt 5, 3) := by decide +kernel
theorem d2_182 : decode method_2_code 182 = .ok (.iconst 0, 1) := by decide +kernel
theorem d2_184 : decode method_2_code 184 = .ok (.iload_n 0, 1) := by decide +kernel
theorem d2_185 : decode method_2_code 185 = .ok (.ldc 10, 2) := by decide +kernel
theorem d2_187 : decode method_2_code 187 = .ok (.if_icmp .lt 11, 3) := by decide +kernel
theorem d2_190 : decode method_2_code 190 = .ok (.iload_n 0, 1) := by decide +kernel
theorem d2_191 : decode method_2_code 191 = .ok (.ldc 11, 2) := by decide +kernel
theorem d2_193 : decode method_2_code 193 = .ok (.if_icmp .gt 5, 3) := by decide +kernel
theorem d2_196 : decode method_2_code 196 = .ok (.iconst 0, 1) := by decide +kernel
theorem d2_198 : decode method_2_code 198 = .ok (.iload_n 0, 1) := by decide +kernel
theorem d2_199 : decode method_2_code 199 = .ok (.ldc 12, 2) := by decide +kernel
theorem d2_201 : decode method_2_code 201 = .ok (.if_icmp .lt 11, 3) := by decide +kernel
theorem d2_204 : decode method_2_code 204 = .ok (.iload_n 0, 1) := by decide +kernel
theorem d2_205 : decode method_2_code 205 = .ok (.ldc 13, 2) := by decide +kernel
theorem d2_207 : decode method_2_code 207 = .ok (.if_icmp .gt 5, 3) := by decide +kernel
theorem d2_210 : decode method_2_code 210 = .ok (.iconst 0, 1) := by decide +kernel
theorem d2_212 : decode method_2_code 212 = .ok (.iconst 1, 1) := by decide +kernel
theorem d2_104 : decode method_2_code 104 = .ok (.iconst 0, 1) := by decide +kernel
theorem d2_79 : decode method_2_code 79 = .ok (.iconst 0, 1) := by decide +kernel
theorem d2_48 : decode method_2_code 48 = .ok (.iconst 0, 1) := by decide +kernel
theorem d2_12 : decode method_2_code 12 = .ok (.iconst 0, 1) := by decide +kernel
def own_g212 (p1 : Int32) : Int32 := (1 : Int32)
def own_g210 (p1 : Int32) : Int32 := (0 : Int32)
def own_g204 (p1 : Int32) : Int32 := if (65535 : Int32) < p1 then own_g212 p1 else own_g210 p1
def own_g198 (p1 : Int32) : Int32 := if p1 < (65534 : Int32) then own_g212 p1 else own_g204 p1
def own_g196 (p1 : Int32) : Int32 := (0 : Int32)
def own_g190 (p1 : Int32) : Int32 := if (65007 : Int32) < p1 then own_g198 p1 else own_g196 p1
def own_g184 (p1 : Int32) : Int32 := if p1 < (64976 : Int32) then own_g198 p1 else own_g190 p1
def own_g182 (p1 : Int32) : Int32 := (0 : Int32)
def own_g176 (p1 : Int32) : Int32 := if (63743 : Int32) < p1 then own_g184 p1 else own_g182 p1
def own_g170 (p1 : Int32) : Int32 := if p1 < (55296 : Int32) then own_g184 p1 else own_g176 p1
def own_g168 (p1 : Int32) : Int32 := (0 : Int32)
def own_g161 (p1 : Int32) : Int32 := if (12288 : Int32) < p1 then own_g170 p1 else own_g168 p1
def own_g154 (p1 : Int32) : Int32 := if p1 < (12272 : Int32) then own_g170 p1 else own_g161 p1
def own_g152 (p1 : Int32) : Int32 := (0 : Int32)
def own_g145 (p1 : Int32) : Int32 := if (11263 : Int32) < p1 then own_g154 p1 else own_g152 p1
def own_g138 (p1 : Int32) : Int32 := if p1 < (8592 : Int32) then own_g154 p1 else own_g145 p1
def own_g136 (p1 : Int32) : Int32 := (0 : Int32)
def own_g129 (p1 : Int32) : Int32 := if (8303 : Int32) < p1 then own_g138 p1 else own_g136 p1
def own_g122 (p1 : Int32) : Int32 := if p1 < (8206 : Int32) then own_g138 p1 else own_g129 p1
def own_g120 (p1 : Int32) : Int32 := (0 : Int32)
def own_g113 (p1 : Int32) : Int32 := if (8203 : Int32) < p1 then own_g122 p1 else own_g120 p1
def own_g106 (p1 : Int32) : Int32 := if p1 < (8192 : Int32) then own_g122 p1 else own_g113 p1
def own_g104 (p1 : Int32) : Int32 := (0 : Int32)
def own_g97 (p1 : Int32) : Int32 := if p1 = (894 : Int32) then own_g104 p1 else own_g106 p1
def own_g95 (p1 : Int32) : Int32 := (0 : Int32)
def own_g88 (p1 : Int32) : Int32 := if (879 : Int32) < p1 then own_g97 p1 else own_g95 p1
def own_g81 (p1 : Int32) : Int32 := if p1 < (768 : Int32) then own_g97 p1 else own_g88 p1
def own_g79 (p1 : Int32) : Int32 := (0 : Int32)
def own_g72 (p1 : Int32) : Int32 := if p1 = (247 : Int32) then own_g79 p1 else own_g81 p1
def own_g65 (p1 : Int32) : Int32 := if p1 = (215 : Int32) then own_g79 p1 else own_g72 p1
def own_g63 (p1 : Int32) : Int32 := (0 : Int32)
def own_g56 (p1 : Int32) : Int32 := if (191 : Int32) < p1 then own_g65 p1 else own_g63 p1
def own_g50 (p1 : Int32) : Int32 := if p1 < (123 : Int32) then own_g65 p1 else own_g56 p1
def own_g48 (p1 : Int32) : Int32 := (0 : Int32)
def own_g42 (p1 : Int32) : Int32 := if p1 = (96 : Int32) then own_g48 p1 else own_g50 p1
def own_g40 (p1 : Int32) : Int32 := (0 : Int32)
def own_g34 (p1 : Int32) : Int32 := if (94 : Int32) < p1 then own_g42 p1 else own_g40 p1
def own_g28 (p1 : Int32) : Int32 := if p1 < (91 : Int32) then own_g42 p1 else own_g34 p1
def own_g26 (p1 : Int32) : Int32 := (0 : Int32)
def own_g20 (p1 : Int32) : Int32 := if (64 : Int32) < p1 then own_g28 p1 else own_g26 p1
def own_g14 (p1 : Int32) : Int32 := if p1 < (59 : Int32) then own_g28 p1 else own_g20 p1
def own_g12 (p1 : Int32) : Int32 := (0 : Int32)
def own_g6 (p1 : Int32) : Int32 := if (983039 : Int32) < p1 then own_g12 p1 else own_g14 p1
def own_g0 (p1 : Int32) : Int32 := if p1 < (58 : Int32) then own_g12 p1 else own_g6 p1
theorem d2_213 : decode method_2_code 213 = .ok (.ireturn, 1) := by decide +kernel
theorem d2_211 : decode method_2_code 211 = .ok (.ireturn, 1) := by decide +kernel
theorem d2_197 : decode method_2_code 197 = .ok (.ireturn, 1) := by decide +kernel
theorem d2_183 : decode method_2_code 183 = .ok (.ireturn, 1) := by decide +kernel
theorem d2_169 : decode method_2_code 169 = .ok (.ireturn, 1) := by decide +kernel
theorem d2_153 : decode method_2_code 153 = .ok (.ireturn, 1) := by decide +kernel
theorem d2_137 : decode method_2_code 137 = .ok (.ireturn, 1) := by decide +kernel
theorem d2_121 : decode method_2_code 121 = .ok (.ireturn, 1) := by decide +kernel
theorem d2_105 : decode method_2_code 105 = .ok (.ireturn, 1) := by decide +kernel
theorem d2_96 : decode method_2_code 96 = .ok (.ireturn, 1) := by decide +kernel
theorem d2_80 : decode method_2_code 80 = .ok (.ireturn, 1) := by decide +kernel
theorem d2_64 : decode method_2_code 64 = .ok (.ireturn, 1) := by decide +kernel
theorem d2_49 : decode method_2_code 49 = .ok (.ireturn, 1) := by decide +kernel
theorem d2_41 : decode method_2_code 41 = .ok (.ireturn, 1) := by decide +kernel
theorem d2_27 : decode method_2_code 27 = .ok (.ireturn, 1) := by decide +kernel
theorem d2_13 : decode method_2_code 13 = .ok (.ireturn, 1) := by decide +kernel
def Q_rmR (Z : State) (p1 : Int32) (h0 : Heap) (n0 : Nat) (v : Option Value) (h : Heap) (L : List Loc) : Prop := v = some (.int (own_g0 p1)) ∧ Fr n0 L ∧ h = h0
set_option maxRecDepth 65536 in
set_option maxHeartbeats 40000000 in
theorem rmR (l : Launch) (Z : State) (a0 : Array Value) (hw : ∀ d ∈ tables_1, d.before a0 Z = true) (ws : List Jvm.Cond) (p1 : Int32) (h0 : Heap) (n0 : Nat) (Z0 : n0 ≤ h0.size) :
    MetFree l (⟨"com/example/yarkon/yarkon/document/DocumentCharactersIsNameStartCharPinLaw", "reference", "(I)Z"⟩ : MethodName) (head1 (Jvm.Cond.code (⟨"com/example/yarkon/yarkon/document/DocumentCharactersIsNameStartCharPinLaw", "reference", "(I)Z"⟩ : MethodName) method_2_code 1 (some .boolean) :: ws) ({ frames := 0, cells := 0, slots := 0, locals := 0 } : Room)) (fun a U => a = #[(.int p1)] ∧ Z.Warmed39 U.vm ∧ U.heap = h0) (fun _ _ _ _ _ => True) (fun _ U o U' => ∃ v L, o = .returned v ∧ Q_rmR Z p1 h0 n0 v U'.heap L ∧ FrameEnd U o U' L ({ frames := 0, cells := 0, slots := 0, locals := 0 } : Room).cells ({ frames := 0, cells := 0, slots := 0, locals := 0 } : Room).slots) := by
  refine MetFree.of_bodySF (plainFor_of_name pn_com_example_yarkon_yarkon_document_DocumentCharactersIsNameStartCharPinLaw) hisR ?_
  intro p e s m args below meth c s₁ Bd hml0 hP hK
  obtain ⟨rfl, hZ, hh⟩ := hP
  have hx := Bd.exec
  have hby := Bd.bytes
  have hml : c.maxLocals = 1 := hml0
  have hown : s.vm.findClass "com/example/yarkon/yarkon/document/DocumentCharactersIsNameStartCharPinLaw" = some m.cls := findClass_of_methodNamed Bd.named
  have hnm := (name_of_methodNamed Bd.named Bd.method).1
  have X0 : Stand p l e ({ frames := 0, cells := 0, slots := 0, locals := 0 } : Room) s m #[(.int p1)] below meth c s₁ [] 0 0 := Stand.of_body Bd
  have e0 : s₁.heap = h0 := by rw [← hh, Bd.state]; rfl
  have N0 := Fr.nil n0
  have pre0 : ∀ t, Steps p.tables e below (s₁.setTop (mkF m 0 #[.val (.int p1)] [])) t → Steps p.tables e below (s₁.setTop (entryFrame m #[(.int p1)] 1)) t := fun t kT => castTop (ef_rmR m p1) kT
  obtain ⟨fs, hr, hrun, hended, hW, hsame⟩ := X0.leave (v := some (.int (own_g0 p1))) (fun h => by rw [Bd.returns] at h; cases h)
  have J212 : (∀ (f : JFrame) (acts : List Action), f.method = m → f.locked = none → f.entered = [] → (doReturn e (s₁.setTop f) acts (some (.int (own_g212 p1)))).1 = s₁.setFrames fs) → Steps p.tables e below (s₁.setTop (mkF m 212 #[.val (.int p1)] [])) (s₁.setFrames fs) := fun hr => by
    show Steps p.tables e below (s₁.setTop (mkF m 212 #[.val (.int p1)] [])) _
    refine XS.iconst X0.here hx rfl (hb hby d2_212) ?_
    show Steps p.tables e below (s₁.setTop (mkF m 213 #[.val (.int p1)] [(.int (1 : Int32))])) _
    have q : own_g212 p1 = nar .boolean (1 : Int32) := (show own_g212 p1 = (1 : Int32) from rfl).trans (by decide)
    rw [q] at hr
    exact retN X0 hx (t := .boolean) Bd.returns (by simp) (hb hby d2_213) hr
  have J210 : (∀ (f : JFrame) (acts : List Action), f.method = m → f.locked = none → f.entered = [] → (doReturn e (s₁.setTop f) acts (some (.int (own_g210 p1)))).1 = s₁.setFrames fs) → Steps p.tables e below (s₁.setTop (mkF m 210 #[.val (.int p1)] [])) (s₁.setFrames fs) := fun hr => by
    show Steps p.tables e below (s₁.setTop (mkF m 210 #[.val (.int p1)] [])) _
    refine XS.iconst X0.here hx rfl (hb hby d2_210) ?_
    show Steps p.tables e below (s₁.setTop (mkF m 211 #[.val (.int p1)] [(.int (0 : Int32))])) _
    have q : own_g210 p1 = nar .boolean (0 : Int32) := (show own_g210 p1 = (0 : Int32) from rfl).trans (by decide)
    rw [q] at hr
    exact retN X0 hx (t := .boolean) Bd.returns (by simp) (hb hby d2_211) hr
  have J204 : (∀ (f : JFrame) (acts : List Action), f.method = m → f.locked = none → f.entered = [] → (doReturn e (s₁.setTop f) acts (some (.int (own_g204 p1)))).1 = s₁.setFrames fs) → Steps p.tables e below (s₁.setTop (mkF m 204 #[.val (.int p1)] [])) (s₁.setFrames fs) := fun hr => by
    show Steps p.tables e below (s₁.setTop (mkF m 204 #[.val (.int p1)] [])) _
    refine XS.iloadN X0.here hx rfl (hb hby d2_204) rfl ?_
    show Steps p.tables e below (s₁.setTop (mkF m 205 #[.val (.int p1)] [(.int p1)])) _
    refine X0.ldcI hx hown (mvT hZ (hw _ (List.mem_of_getElem? (i := 33) rfl))) rfl (hb hby d2_205) ?_
    by_cases hb204 : (65535 : Int32) < p1
    · show Steps p.tables e below (s₁.setTop (mkF m 207 #[.val (.int p1)] [(.int (65535 : Int32)), (.int p1)])) _
      refine XS.icmpYes X0.here hx rfl (pc0 := 207) (pc' := 212) rfl (hb hby d2_207) rfl (tlt hb204).2.2.1 (by decide) (by decide) ?_
      exact J212 (by rw [show own_g204 p1 = own_g212 p1 from if_pos hb204] at hr; exact hr)
    · show Steps p.tables e below (s₁.setTop (mkF m 207 #[.val (.int p1)] [(.int (65535 : Int32)), (.int p1)])) _
      refine XS.icmpNo X0.here hx rfl (hb hby d2_207) rfl (flt hb204).2.2.1 ?_
      exact J210 (by rw [show own_g204 p1 = own_g210 p1 from if_neg hb204] at hr; exact hr)
  have J198 : (∀ (f : JFrame) (acts : List Action), f.method = m → f.locked = none → f.entered = [] → (doReturn e (s₁.setTop f) acts (some (.int (own_g198 p1)))).1 = s₁.setFrames fs) → Steps p.tables e below (s₁.setTop (mkF m 198 #[.val (.int p1)] [])) (s₁.setFrames fs) := fun hr => by
    show Steps p.tables e below (s₁.setTop (mkF m 198 #[.val (.int p1)] [])) _
    refine XS.iloadN X0.here hx rfl (hb hby d2_198) rfl ?_
    show Steps p.tables e below (s₁.setTop (mkF m 199 #[.val (.int p1)] [(.int p1)])) _
    refine X0.ldcI hx hown (mvT hZ (hw _ (List.mem_of_getElem? (i := 26) rfl))) rfl (hb hby d2_199) ?_
    by_cases hb198 : p1 < (65534 : Int32)
    · show Steps p.tables e below (s₁.setTop (mkF m 201 #[.val (.int p1)] [(.int (65534 : Int32)), (.int p1)])) _
      refine XS.icmpYes X0.here hx rfl (pc0 := 201) (pc' := 212) rfl (hb hby d2_201) rfl (tlt hb198).1 (by decide) (by decide) ?_
      exact J212 (by rw [show own_g198 p1 = own_g212 p1 from if_pos hb198] at hr; exact hr)
    · show Steps p.tables e below (s₁.setTop (mkF m 201 #[.val (.int p1)] [(.int (65534 : Int32)), (.int p1)])) _
      refine XS.icmpNo X0.here hx rfl (hb hby d2_201) rfl (flt hb198).1 ?_
      exact J204 (by rw [show own_g198 p1 = own_g204 p1 from if_neg hb198] at hr; exact hr)
  have J196 : (∀ (f : JFrame) (acts : List Action), f.method = m → f.locked = none → f.entered = [] → (doReturn e (s₁.setTop f) acts (some (.int (own_g196 p1)))).1 = s₁.setFrames fs) → Steps p.tables e below (s₁.setTop (mkF m 196 #[.val (.int p1)] [])) (s₁.setFrames fs) := fun hr => by
    show Steps p.tables e below (s₁.setTop (mkF m 196 #[.val (.int p1)] [])) _
    refine XS.iconst X0.here hx rfl (hb hby d2_196) ?_
    show Steps p.tables e below (s₁.setTop (mkF m 197 #[.val (.int p1)] [(.int (0 : Int32))])) _
    have q : own_g196 p1 = nar .boolean (0 : Int32) := (show own_g196 p1 = (0 : Int32) from rfl).trans (by decide)
    rw [q] at hr
    exact retN X0 hx (t := .boolean) Bd.returns (by simp) (hb hby d2_197) hr
  have J190 : (∀ (f : JFrame) (acts : List Action), f.method = m → f.locked = none → f.entered = [] → (doReturn e (s₁.setTop f) acts (some (.int (own_g190 p1)))).1 = s₁.setFrames fs) → Steps p.tables e below (s₁.setTop (mkF m 190 #[.val (.int p1)] [])) (s₁.setFrames fs) := fun hr => by
    show Steps p.tables e below (s₁.setTop (mkF m 190 #[.val (.int p1)] [])) _
    refine XS.iloadN X0.here hx rfl (hb hby d2_190) rfl ?_
    show Steps p.tables e below (s₁.setTop (mkF m 191 #[.val (.int p1)] [(.int p1)])) _
    refine X0.ldcI hx hown (mvT hZ (hw _ (List.mem_of_getElem? (i := 32) rfl))) rfl (hb hby d2_191) ?_
    by_cases hb190 : (65007 : Int32) < p1
    · show Steps p.tables e below (s₁.setTop (mkF m 193 #[.val (.int p1)] [(.int (65007 : Int32)), (.int p1)])) _
      refine XS.icmpYes X0.here hx rfl (pc0 := 193) (pc' := 198) rfl (hb hby d2_193) rfl (tlt hb190).2.2.1 (by decide) (by decide) ?_
      exact J198 (by rw [show own_g190 p1 = own_g198 p1 from if_pos hb190] at hr; exact hr)
    · show Steps p.tables e below (s₁.setTop (mkF m 193 #[.val (.int p1)] [(.int (65007 : Int32)), (.int p1)])) _
      refine XS.icmpNo X0.here hx rfl (hb hby d2_193) rfl (flt hb190).2.2.1 ?_
      exact J196 (by rw [show own_g190 p1 = own_g196 p1 from if_neg hb190] at hr; exact hr)
  have J184 : (∀ (f : JFrame) (acts : List Action), f.method = m → f.locked = none → f.entered = [] → (doReturn e (s₁.setTop f) acts (some (.int (own_g184 p1)))).1 = s₁.setFrames fs) → Steps p.tables e below (s₁.setTop (mkF m 184 #[.val (.int p1)] [])) (s₁.setFrames fs) := fun hr => by
    show Steps p.tables e below (s₁.setTop (mkF m 184 #[.val (.int p1)] [])) _
    refine XS.iloadN X0.here hx rfl (hb hby d2_184) rfl ?_
    show Steps p.tables e below (s₁.setTop (mkF m 185 #[.val (.int p1)] [(.int p1)])) _
    refine X0.ldcI hx hown (mvT hZ (hw _ (List.mem_of_getElem? (i := 25) rfl))) rfl (hb hby d2_185) ?_
    by_cases hb184 : p1 < (64976 : Int32)
    · show Steps p.tables e below (s₁.setTop (mkF m 187 #[.val (.int p1)] [(.int (64976 : Int32)), (.int p1)])) _
      refine XS.icmpYes X0.here hx rfl (pc0 := 187) (pc' := 198) rfl (hb hby d2_187) rfl (tlt hb184).1 (by decide) (by decide) ?_
      exact J198 (by rw [show own_g184 p1 = own_g198 p1 from if_pos hb184] at hr; exact hr)
    · show Steps p.tables e below (s₁.setTop (mkF m 187 #[.val (.int p1)] [(.int (64976 : Int32)), (.int p1)])) _
      refine XS.icmpNo X0.here hx rfl (hb hby d2_187) rfl (flt hb184).1 ?_
      exact J190 (by rw [show own_g184 p1 = own_g190 p1 from if_neg hb184] at hr; exact hr)
  have J182 : (∀ (f : JFrame) (acts : List Action), f.method = m → f.locked = none → f.entered = [] → (doReturn e (s₁.setTop f) acts (some (.int (own_g182 p1)))).1 = s₁.setFrames fs) → Steps p.tables e below (s₁.setTop (mkF m 182 #[.val (.int p1)] [])) (s₁.setFrames fs) := fun hr => by
    show Steps p.tables e below (s₁.setTop (mkF m 182 #[.val (.int p1)] [])) _
    refine XS.iconst X0.here hx rfl (hb hby d2_182) ?_
    show Steps p.tables e below (s₁.setTop (mkF m 183 #[.val (.int p1)] [(.int (0 : Int32))])) _
    have q : own_g182 p1 = nar .boolean (0 : Int32) := (show own_g182 p1 = (0 : Int32) from rfl).trans (by decide)
    rw [q] at hr
    exact retN X0 hx (t := .boolean) Bd.returns (by simp) (hb hby d2_183) hr
  have J176 : (∀ (f : JFrame) (acts : List Action), f.method = m → f.locked = none → f.entered = [] → (doReturn e (s₁.setTop f) acts (some (.int (own_g176 p1)))).1 = s₁.setFrames fs) → Steps p.tables e below (s₁.setTop (mkF m 176 #[.val (.int p1)] [])) (s₁.setFrames fs) := fun hr => by
    show Steps p.tables e below (s₁.setTop (mkF m 176 #[.val (.int p1)] [])) _
    refine XS.iloadN X0.here hx rfl (hb hby d2_176) rfl ?_
    show Steps p.tables e below (s₁.setTop (mkF m 177 #[.val (.int p1)] [(.int p1)])) _
    refine X0.ldcI hx hown (mvT hZ (hw _ (List.mem_of_getElem? (i := 31) rfl))) rfl (hb hby d2_177) ?_
    by_cases hb176 : (63743 : Int32) < p1
    · show Steps p.tables e below (s₁.setTop (mkF m 179 #[.val (.int p1)] [(.int (63743 : Int32)), (.int p1)])) _
      refine XS.icmpYes X0.here hx rfl (pc0 := 179) (pc' := 184) rfl (hb hby d2_179) rfl (tlt hb176).2.2.1 (by decide) (by decide) ?_
      exact J184 (by rw [show own_g176 p1 = own_g184 p1 from if_pos hb176] at hr; exact hr)
    · show Steps p.tables e below (s₁.setTop (mkF m 179 #[.val (.int p1)] [(.int (63743 : Int32)), (.int p1)])) _
      refine XS.icmpNo X0.here hx rfl (hb hby d2_179) rfl (flt hb176).2.2.1 ?_
      exact J182 (by rw [show own_g176 p1 = own_g182 p1 from if_neg hb176] at hr; exact hr)
  have J170 : (∀ (f : JFrame) (acts : List Action), f.method = m → f.locked = none → f.entered = [] → (doReturn e (s₁.setTop f) acts (some (.int (own_g170 p1)))).1 = s₁.setFrames fs) → Steps p.tables e below (s₁.setTop (mkF m 170 #[.val (.int p1)] [])) (s₁.setFrames fs) := fun hr => by
    show Steps p.tables e below (s₁.setTop (mkF m 170 #[.val (.int p1)] [])) _
    refine XS.iloadN X0.here hx rfl (hb hby d2_170) rfl ?_
    show Steps p.tables e below (s₁.setTop (mkF m 171 #[.val (.int p1)] [(.int p1)])) _
    refine X0.ldcI hx hown (mvT hZ (hw _ (List.mem_of_getElem? (i := 24) rfl))) rfl (hb hby d2_171) ?_
    by_cases hb170 : p1 < (55296 : Int32)
    · show Steps p.tables e below (s₁.setTop (mkF m 173 #[.val (.int p1)] [(.int (55296 : Int32)), (.int p1)])) _
      refine XS.icmpYes X0.here hx rfl (pc0 := 173) (pc' := 184) rfl (hb hby d2_173) rfl (tlt hb170).1 (by decide) (by decide) ?_
      exact J184 (by rw [show own_g170 p1 = own_g184 p1 from if_pos hb170] at hr; exact hr)
    · show Steps p.tables e below (s₁.setTop (mkF m 173 #[.val (.int p1)] [(.int (55296 : Int32)), (.int p1)])) _
      refine XS.icmpNo X0.here hx rfl (hb hby d2_173) rfl (flt hb170).1 ?_
      exact J176 (by rw [show own_g170 p1 = own_g176 p1 from if_neg hb170] at hr; exact hr)
  have J168 : (∀ (f : JFrame) (acts : List Action), f.method = m → f.locked = none → f.entered = [] → (doReturn e (s₁.setTop f) acts (some (.int (own_g168 p1)))).1 = s₁.setFrames fs) → Steps p.tables e below (s₁.setTop (mkF m 168 #[.val (.int p1)] [])) (s₁.setFrames fs) := fun hr => by
    show Steps p.tables e below (s₁.setTop (mkF m 168 #[.val (.int p1)] [])) _
    refine XS.iconst X0.here hx rfl (hb hby d2_168) ?_
    show Steps p.tables e below (s₁.setTop (mkF m 169 #[.val (.int p1)] [(.int (0 : Int32))])) _
    have q : own_g168 p1 = nar .boolean (0 : Int32) := (show own_g168 p1 = (0 : Int32) from rfl).trans (by decide)
    rw [q] at hr
    exact retN X0 hx (t := .boolean) Bd.returns (by simp) (hb hby d2_169) hr
  have J161 : (∀ (f : JFrame) (acts : List Action), f.method = m → f.locked = none → f.entered = [] → (doReturn e (s₁.setTop f) acts (some (.int (own_g161 p1)))).1 = s₁.setFrames fs) → Steps p.tables e below (s₁.setTop (mkF m 161 #[.val (.int p1)] [])) (s₁.setFrames fs) := fun hr => by
    show Steps p.tables e below (s₁.setTop (mkF m 161 #[.val (.int p1)] [])) _
    refine XS.iloadN X0.here hx rfl (hb hby d2_161) rfl ?_
    show Steps p.tables e below (s₁.setTop (mkF m 162 #[.val (.int p1)] [(.int p1)])) _
    refine XS.sipush X0.here hx rfl (hb hby d2_162) ?_
    by_cases hb161 : (12288 : Int32) < p1
    · show Steps p.tables e below (s₁.setTop (mkF m 165 #[.val (.int p1)] [(.int (12288 : Int32)), (.int p1)])) _
      refine XS.icmpYes X0.here hx rfl (pc0 := 165) (pc' := 170) rfl (hb hby d2_165) rfl (tlt hb161).2.2.1 (by decide) (by decide) ?_
      exact J170 (by rw [show own_g161 p1 = own_g170 p1 from if_pos hb161] at hr; exact hr)
    · show Steps p.tables e below (s₁.setTop (mkF m 165 #[.val (.int p1)] [(.int (12288 : Int32)), (.int p1)])) _
      refine XS.icmpNo X0.here hx rfl (hb hby d2_165) rfl (flt hb161).2.2.1 ?_
      exact J168 (by rw [show own_g161 p1 = own_g168 p1 from if_neg hb161] at hr; exact hr)
  have J154 : (∀ (f : JFrame) (acts : List Action), f.method = m → f.locked = none → f.entered = [] → (doReturn e (s₁.setTop f) acts (some (.int (own_g154 p1)))).1 = s₁.setFrames fs) → Steps p.tables e below (s₁.setTop (mkF m 154 #[.val (.int p1)] [])) (s₁.setFrames fs) := fun hr => by
    show Steps p.tables e below (s₁.setTop (mkF m 154 #[.val (.int p1)] [])) _
    refine XS.iloadN X0.here hx rfl (hb hby d2_154) rfl ?_
    show Steps p.tables e below (s₁.setTop (mkF m 155 #[.val (.int p1)] [(.int p1)])) _
    refine XS.sipush X0.here hx rfl (hb hby d2_155) ?_
    by_cases hb154 : p1 < (12272 : Int32)
    · show Steps p.tables e below (s₁.setTop (mkF m 158 #[.val (.int p1)] [(.int (12272 : Int32)), (.int p1)])) _
      refine XS.icmpYes X0.here hx rfl (pc0 := 158) (pc' := 170) rfl (hb hby d2_158) rfl (tlt hb154).1 (by decide) (by decide) ?_
      exact J170 (by rw [show own_g154 p1 = own_g170 p1 from if_pos hb154] at hr; exact hr)
    · show Steps p.tables e below (s₁.setTop (mkF m 158 #[.val (.int p1)] [(.int (12272 : Int32)), (.int p1)])) _
      refine XS.icmpNo X0.here hx rfl (hb hby d2_158) rfl (flt hb154).1 ?_
      exact J161 (by rw [show own_g154 p1 = own_g161 p1 from if_neg hb154] at hr; exact hr)
  have J152 : (∀ (f : JFrame) (acts : List Action), f.method = m → f.locked = none → f.entered = [] → (doReturn e (s₁.setTop f) acts (some (.int (own_g152 p1)))).1 = s₁.setFrames fs) → Steps p.tables e below (s₁.setTop (mkF m 152 #[.val (.int p1)] [])) (s₁.setFrames fs) := fun hr => by
    show Steps p.tables e below (s₁.setTop (mkF m 152 #[.val (.int p1)] [])) _
    refine XS.iconst X0.here hx rfl (hb hby d2_152) ?_
    show Steps p.tables e below (s₁.setTop (mkF m 153 #[.val (.int p1)] [(.int (0 : Int32))])) _
    have q : own_g152 p1 = nar .boolean (0 : Int32) := (show own_g152 p1 = (0 : Int32) from rfl).trans (by decide)
    rw [q] at hr
    exact retN X0 hx (t := .boolean) Bd.returns (by simp) (hb hby d2_153) hr
  have J145 : (∀ (f : JFrame) (acts : List Action), f.method = m → f.locked = none → f.entered = [] → (doReturn e (s₁.setTop f) acts (some (.int (own_g145 p1)))).1 = s₁.setFrames fs) → Steps p.tables e below (s₁.setTop (mkF m 145 #[.val (.int p1)] [])) (s₁.setFrames fs) := fun hr => by
    show Steps p.tables e below (s₁.setTop (mkF m 145 #[.val (.int p1)] [])) _
    refine XS.iloadN X0.here hx rfl (hb hby d2_145) rfl ?_
    show Steps p.tables e below (s₁.setTop (mkF m 146 #[.val (.int p1)] [(.int p1)])) _
    refine XS.sipush X0.here hx rfl (hb hby d2_146) ?_
    by_cases hb145 : (11263 : Int32) < p1
    · show Steps p.tables e below (s₁.setTop (mkF m 149 #[.val (.int p1)] [(.int (11263 : Int32)), (.int p1)])) _
      refine XS.icmpYes X0.here hx rfl (pc0 := 149) (pc' := 154) rfl (hb hby d2_149) rfl (tlt hb145).2.2.1 (by decide) (by decide) ?_
      exact J154 (by rw [show own_g145 p1 = own_g154 p1 from if_pos hb145] at hr; exact hr)
    · show Steps p.tables e below (s₁.setTop (mkF m 149 #[.val (.int p1)] [(.int (11263 : Int32)), (.int p1)])) _
      refine XS.icmpNo X0.here hx rfl (hb hby d2_149) rfl (flt hb145).2.2.1 ?_
      exact J152 (by rw [show own_g145 p1 = own_g152 p1 from if_neg hb145] at hr; exact hr)
  have J138 : (∀ (f : JFrame) (acts : List Action), f.method = m → f.locked = none → f.entered = [] → (doReturn e (s₁.setTop f) acts (some (.int (own_g138 p1)))).1 = s₁.setFrames fs) → Steps p.tables e below (s₁.setTop (mkF m 138 #[.val (.int p1)] [])) (s₁.setFrames fs) := fun hr => by
    show Steps p.tables e below (s₁.setTop (mkF m 138 #[.val (.int p1)] [])) _
    refine XS.iloadN X0.here hx rfl (hb hby d2_138) rfl ?_
    show Steps p.tables e below (s₁.setTop (mkF m 139 #[.val (.int p1)] [(.int p1)])) _
    refine XS.sipush X0.here hx rfl (hb hby d2_139) ?_
    by_cases hb138 : p1 < (8592 : Int32)
    · show Steps p.tables e below (s₁.setTop (mkF m 142 #[.val (.int p1)] [(.int (8592 : Int32)), (.int p1)])) _
      refine XS.icmpYes X0.here hx rfl (pc0 := 142) (pc' := 154) rfl (hb hby d2_142) rfl (tlt hb138).1 (by decide) (by decide) ?_
      exact J154 (by rw [show own_g138 p1 = own_g154 p1 from if_pos hb138] at hr; exact hr)
    · show Steps p.tables e below (s₁.setTop (mkF m 142 #[.val (.int p1)] [(.int (8592 : Int32)), (.int p1)])) _
      refine XS.icmpNo X0.here hx rfl (hb hby d2_142) rfl (flt hb138).1 ?_
      exact J145 (by rw [show own_g138 p1 = own_g145 p1 from if_neg hb138] at hr; exact hr)
  have J136 : (∀ (f : JFrame) (acts : List Action), f.method = m → f.locked = none → f.entered = [] → (doReturn e (s₁.setTop f) acts (some (.int (own_g136 p1)))).1 = s₁.setFrames fs) → Steps p.tables e below (s₁.setTop (mkF m 136 #[.val (.int p1)] [])) (s₁.setFrames fs) := fun hr => by
    show Steps p.tables e below (s₁.setTop (mkF m 136 #[.val (.int p1)] [])) _
    refine XS.iconst X0.here hx rfl (hb hby d2_136) ?_
    show Steps p.tables e below (s₁.setTop (mkF m 137 #[.val (.int p1)] [(.int (0 : Int32))])) _
    have q : own_g136 p1 = nar .boolean (0 : Int32) := (show own_g136 p1 = (0 : Int32) from rfl).trans (by decide)
    rw [q] at hr
    exact retN X0 hx (t := .boolean) Bd.returns (by simp) (hb hby d2_137) hr
  have J129 : (∀ (f : JFrame) (acts : List Action), f.method = m → f.locked = none → f.entered = [] → (doReturn e (s₁.setTop f) acts (some (.int (own_g129 p1)))).1 = s₁.setFrames fs) → Steps p.tables e below (s₁.setTop (mkF m 129 #[.val (.int p1)] [])) (s₁.setFrames fs) := fun hr => by
    show Steps p.tables e below (s₁.setTop (mkF m 129 #[.val (.int p1)] [])) _
    refine XS.iloadN X0.here hx rfl (hb hby d2_129) rfl ?_
    show Steps p.tables e below (s₁.setTop (mkF m 130 #[.val (.int p1)] [(.int p1)])) _
    refine XS.sipush X0.here hx rfl (hb hby d2_130) ?_
    by_cases hb129 : (8303 : Int32) < p1
    · show Steps p.tables e below (s₁.setTop (mkF m 133 #[.val (.int p1)] [(.int (8303 : Int32)), (.int p1)])) _
      refine XS.icmpYes X0.here hx rfl (pc0 := 133) (pc' := 138) rfl (hb hby d2_133) rfl (tlt hb129).2.2.1 (by decide) (by decide) ?_
      exact J138 (by rw [show own_g129 p1 = own_g138 p1 from if_pos hb129] at hr; exact hr)
    · show Steps p.tables e below (s₁.setTop (mkF m 133 #[.val (.int p1)] [(.int (8303 : Int32)), (.int p1)])) _
      refine XS.icmpNo X0.here hx rfl (hb hby d2_133) rfl (flt hb129).2.2.1 ?_
      exact J136 (by rw [show own_g129 p1 = own_g136 p1 from if_neg hb129] at hr; exact hr)
  have J122 : (∀ (f : JFrame) (acts : List Action), f.method = m → f.locked = none → f.entered = [] → (doReturn e (s₁.setTop f) acts (some (.int (own_g122 p1)))).1 = s₁.setFrames fs) → Steps p.tables e below (s₁.setTop (mkF m 122 #[.val (.int p1)] [])) (s₁.setFrames fs) := fun hr => by
    show Steps p.tables e below (s₁.setTop (mkF m 122 #[.val (.int p1)] [])) _
    refine XS.iloadN X0.here hx rfl (hb hby d2_122) rfl ?_
    show Steps p.tables e below (s₁.setTop (mkF m 123 #[.val (.int p1)] [(.int p1)])) _
    refine XS.sipush X0.here hx rfl (hb hby d2_123) ?_
    by_cases hb122 : p1 < (8206 : Int32)
    · show Steps p.tables e below (s₁.setTop (mkF m 126 #[.val (.int p1)] [(.int (8206 : Int32)), (.int p1)])) _
      refine XS.icmpYes X0.here hx rfl (pc0 := 126) (pc' := 138) rfl (hb hby d2_126) rfl (tlt hb122).1 (by decide) (by decide) ?_
      exact J138 (by rw [show own_g122 p1 = own_g138 p1 from if_pos hb122] at hr; exact hr)
    · show Steps p.tables e below (s₁.setTop (mkF m 126 #[.val (.int p1)] [(.int (8206 : Int32)), (.int p1)])) _
      refine XS.icmpNo X0.here hx rfl (hb hby d2_126) rfl (flt hb122).1 ?_
      exact J129 (by rw [show own_g122 p1 = own_g129 p1 from if_neg hb122] at hr; exact hr)
  have J120 : (∀ (f : JFrame) (acts : List Action), f.method = m → f.locked = none → f.entered = [] → (doReturn e (s₁.setTop f) acts (some (.int (own_g120 p1)))).1 = s₁.setFrames fs) → Steps p.tables e below (s₁.setTop (mkF m 120 #[.val (.int p1)] [])) (s₁.setFrames fs) := fun hr => by
    show Steps p.tables e below (s₁.setTop (mkF m 120 #[.val (.int p1)] [])) _
    refine XS.iconst X0.here hx rfl (hb hby d2_120) ?_
    show Steps p.tables e below (s₁.setTop (mkF m 121 #[.val (.int p1)] [(.int (0 : Int32))])) _
    have q : own_g120 p1 = nar .boolean (0 : Int32) := (show own_g120 p1 = (0 : Int32) from rfl).trans (by decide)
    rw [q] at hr
    exact retN X0 hx (t := .boolean) Bd.returns (by simp) (hb hby d2_121) hr
  have J113 : (∀ (f : JFrame) (acts : List Action), f.method = m → f.locked = none → f.entered = [] → (doReturn e (s₁.setTop f) acts (some (.int (own_g113 p1)))).1 = s₁.setFrames fs) → Steps p.tables e below (s₁.setTop (mkF m 113 #[.val (.int p1)] [])) (s₁.setFrames fs) := fun hr => by
    show Steps p.tables e below (s₁.setTop (mkF m 113 #[.val (.int p1)] [])) _
    refine XS.iloadN X0.here hx rfl (hb hby d2_113) rfl ?_
    show Steps p.tables e below (s₁.setTop (mkF m 114 #[.val (.int p1)] [(.int p1)])) _
    refine XS.sipush X0.here hx rfl (hb hby d2_114) ?_
    by_cases hb113 : (8203 : Int32) < p1
    · show Steps p.tables e below (s₁.setTop (mkF m 117 #[.val (.int p1)] [(.int (8203 : Int32)), (.int p1)])) _
      refine XS.icmpYes X0.here hx rfl (pc0 := 117) (pc' := 122) rfl (hb hby d2_117) rfl (tlt hb113).2.2.1 (by decide) (by decide) ?_
      exact J122 (by rw [show own_g113 p1 = own_g122 p1 from if_pos hb113] at hr; exact hr)
    · show Steps p.tables e below (s₁.setTop (mkF m 117 #[.val (.int p1)] [(.int (8203 : Int32)), (.int p1)])) _
      refine XS.icmpNo X0.here hx rfl (hb hby d2_117) rfl (flt hb113).2.2.1 ?_
      exact J120 (by rw [show own_g113 p1 = own_g120 p1 from if_neg hb113] at hr; exact hr)
  have J106 : (∀ (f : JFrame) (acts : List Action), f.method = m → f.locked = none → f.entered = [] → (doReturn e (s₁.setTop f) acts (some (.int (own_g106 p1)))).1 = s₁.setFrames fs) → Steps p.tables e below (s₁.setTop (mkF m 106 #[.val (.int p1)] [])) (s₁.setFrames fs) := fun hr => by
    show Steps p.tables e below (s₁.setTop (mkF m 106 #[.val (.int p1)] [])) _
    refine XS.iloadN X0.here hx rfl (hb hby d2_106) rfl ?_
    show Steps p.tables e below (s₁.setTop (mkF m 107 #[.val (.int p1)] [(.int p1)])) _
    refine XS.sipush X0.here hx rfl (hb hby d2_107) ?_
    by_cases hb106 : p1 < (8192 : Int32)
    · show Steps p.tables e below (s₁.setTop (mkF m 110 #[.val (.int p1)] [(.int (8192 : Int32)), (.int p1)])) _
      refine XS.icmpYes X0.here hx rfl (pc0 := 110) (pc' := 122) rfl (hb hby d2_110) rfl (tlt hb106).1 (by decide) (by decide) ?_
      exact J122 (by rw [show own_g106 p1 = own_g122 p1 from if_pos hb106] at hr; exact hr)
    · show Steps p.tables e below (s₁.setTop (mkF m 110 #[.val (.int p1)] [(.int (8192 : Int32)), (.int p1)])) _
      refine XS.icmpNo X0.here hx rfl (hb hby d2_110) rfl (flt hb106).1 ?_
      exact J113 (by rw [show own_g106 p1 = own_g113 p1 from if_neg hb106] at hr; exact hr)
  have J104 : (∀ (f : JFrame) (acts : List Action), f.method = m → f.locked = none → f.entered = [] → (doReturn e (s₁.setTop f) acts (some (.int (own_g104 p1)))).1 = s₁.setFrames fs) → Steps p.tables e below (s₁.setTop (mkF m 104 #[.val (.int p1)] [])) (s₁.setFrames fs) := fun hr => by
    show Steps p.tables e below (s₁.setTop (mkF m 104 #[.val (.int p1)] [])) _
    refine XS.iconst X0.here hx rfl (hb hby d2_104) ?_
    show Steps p.tables e below (s₁.setTop (mkF m 105 #[.val (.int p1)] [(.int (0 : Int32))])) _
    have q : own_g104 p1 = nar .boolean (0 : Int32) := (show own_g104 p1 = (0 : Int32) from rfl).trans (by decide)
    rw [q] at hr
    exact retN X0 hx (t := .boolean) Bd.returns (by simp) (hb hby d2_105) hr
  have J97 : (∀ (f : JFrame) (acts : List Action), f.method = m → f.locked = none → f.entered = [] → (doReturn e (s₁.setTop f) acts (some (.int (own_g97 p1)))).1 = s₁.setFrames fs) → Steps p.tables e below (s₁.setTop (mkF m 97 #[.val (.int p1)] [])) (s₁.setFrames fs) := fun hr => by
    show Steps p.tables e below (s₁.setTop (mkF m 97 #[.val (.int p1)] [])) _
    refine XS.iloadN X0.here hx rfl (hb hby d2_97) rfl ?_
    show Steps p.tables e below (s₁.setTop (mkF m 98 #[.val (.int p1)] [(.int p1)])) _
    refine XS.sipush X0.here hx rfl (hb hby d2_98) ?_
    by_cases hb97 : p1 = (894 : Int32)
    · show Steps p.tables e below (s₁.setTop (mkF m 101 #[.val (.int p1)] [(.int (894 : Int32)), (.int p1)])) _
      refine XS.icmpNo X0.here hx rfl (hb hby d2_101) rfl (teq hb97).2 ?_
      exact J104 (by rw [show own_g97 p1 = own_g104 p1 from if_pos hb97] at hr; exact hr)
    · show Steps p.tables e below (s₁.setTop (mkF m 101 #[.val (.int p1)] [(.int (894 : Int32)), (.int p1)])) _
      refine XS.icmpYes X0.here hx rfl (pc0 := 101) (pc' := 106) rfl (hb hby d2_101) rfl (feq hb97).2 (by decide) (by decide) ?_
      exact J106 (by rw [show own_g97 p1 = own_g106 p1 from if_neg hb97] at hr; exact hr)
  have J95 : (∀ (f : JFrame) (acts : List Action), f.method = m → f.locked = none → f.entered = [] → (doReturn e (s₁.setTop f) acts (some (.int (own_g95 p1)))).1 = s₁.setFrames fs) → Steps p.tables e below (s₁.setTop (mkF m 95 #[.val (.int p1)] [])) (s₁.setFrames fs) := fun hr => by
    show Steps p.tables e below (s₁.setTop (mkF m 95 #[.val (.int p1)] [])) _
    refine XS.iconst X0.here hx rfl (hb hby d2_95) ?_
    show Steps p.tables e below (s₁.setTop (mkF m 96 #[.val (.int p1)] [(.int (0 : Int32))])) _
    have q : own_g95 p1 = nar .boolean (0 : Int32) := (show own_g95 p1 = (0 : Int32) from rfl).trans (by decide)
    rw [q] at hr
    exact retN X0 hx (t := .boolean) Bd.returns (by simp) (hb hby d2_96) hr
  have J88 : (∀ (f : JFrame) (acts : List Action), f.method = m → f.locked = none → f.entered = [] → (doReturn e (s₁.setTop f) acts (some (.int (own_g88 p1)))).1 = s₁.setFrames fs) → Steps p.tables e below (s₁.setTop (mkF m 88 #[.val (.int p1)] [])) (s₁.setFrames fs) := fun hr => by
    show Steps p.tables e below (s₁.setTop (mkF m 88 #[.val (.int p1)] [])) _
    refine XS.iloadN X0.here hx rfl (hb hby d2_88) rfl ?_
    show Steps p.tables e below (s₁.setTop (mkF m 89 #[.val (.int p1)] [(.int p1)])) _
    refine XS.sipush X0.here hx rfl (hb hby d2_89) ?_
    by_cases hb88 : (879 : Int32) < p1
    · show Steps p.tables e below (s₁.setTop (mkF m 92 #[.val (.int p1)] [(.int (879 : Int32)), (.int p1)])) _
      refine XS.icmpYes X0.here hx rfl (pc0 := 92) (pc' := 97) rfl (hb hby d2_92) rfl (tlt hb88).2.2.1 (by decide) (by decide) ?_
      exact J97 (by rw [show own_g88 p1 = own_g97 p1 from if_pos hb88] at hr; exact hr)
    · show Steps p.tables e below (s₁.setTop (mkF m 92 #[.val (.int p1)] [(.int (879 : Int32)), (.int p1)])) _
      refine XS.icmpNo X0.here hx rfl (hb hby d2_92) rfl (flt hb88).2.2.1 ?_
      exact J95 (by rw [show own_g88 p1 = own_g95 p1 from if_neg hb88] at hr; exact hr)
  have J81 : (∀ (f : JFrame) (acts : List Action), f.method = m → f.locked = none → f.entered = [] → (doReturn e (s₁.setTop f) acts (some (.int (own_g81 p1)))).1 = s₁.setFrames fs) → Steps p.tables e below (s₁.setTop (mkF m 81 #[.val (.int p1)] [])) (s₁.setFrames fs) := fun hr => by
    show Steps p.tables e below (s₁.setTop (mkF m 81 #[.val (.int p1)] [])) _
    refine XS.iloadN X0.here hx rfl (hb hby d2_81) rfl ?_
    show Steps p.tables e below (s₁.setTop (mkF m 82 #[.val (.int p1)] [(.int p1)])) _
    refine XS.sipush X0.here hx rfl (hb hby d2_82) ?_
    by_cases hb81 : p1 < (768 : Int32)
    · show Steps p.tables e below (s₁.setTop (mkF m 85 #[.val (.int p1)] [(.int (768 : Int32)), (.int p1)])) _
      refine XS.icmpYes X0.here hx rfl (pc0 := 85) (pc' := 97) rfl (hb hby d2_85) rfl (tlt hb81).1 (by decide) (by decide) ?_
      exact J97 (by rw [show own_g81 p1 = own_g97 p1 from if_pos hb81] at hr; exact hr)
    · show Steps p.tables e below (s₁.setTop (mkF m 85 #[.val (.int p1)] [(.int (768 : Int32)), (.int p1)])) _
      refine XS.icmpNo X0.here hx rfl (hb hby d2_85) rfl (flt hb81).1 ?_
      exact J88 (by rw [show own_g81 p1 = own_g88 p1 from if_neg hb81] at hr; exact hr)
  have J79 : (∀ (f : JFrame) (acts : List Action), f.method = m → f.locked = none → f.entered = [] → (doReturn e (s₁.setTop f) acts (some (.int (own_g79 p1)))).1 = s₁.setFrames fs) → Steps p.tables e below (s₁.setTop (mkF m 79 #[.val (.int p1)] [])) (s₁.setFrames fs) := fun hr => by
    show Steps p.tables e below (s₁.setTop (mkF m 79 #[.val (.int p1)] [])) _
    refine XS.iconst X0.here hx rfl (hb hby d2_79) ?_
    show Steps p.tables e below (s₁.setTop (mkF m 80 #[.val (.int p1)] [(.int (0 : Int32))])) _
    have q : own_g79 p1 = nar .boolean (0 : Int32) := (show own_g79 p1 = (0 : Int32) from rfl).trans (by decide)
    rw [q] at hr
    exact retN X0 hx (t := .boolean) Bd.returns (by simp) (hb hby d2_80) hr
  have J72 : (∀ (f : JFrame) (acts : List Action), f.method = m → f.locked = none → f.entered = [] → (doReturn e (s₁.setTop f) acts (some (.int (own_g72 p1)))).1 = s₁.setFrames fs) → Steps p.tables e below (s₁.setTop (mkF m 72 #[.val (.int p1)] [])) (s₁.setFrames fs) := fun hr => by
    show Steps p.tables e below (s₁.setTop (mkF m 72 #[.val (.int p1)] [])) _
    refine XS.iloadN X0.here hx rfl (hb hby d2_72) rfl ?_
    show Steps p.tables e below (s₁.setTop (mkF m 73 #[.val (.int p1)] [(.int p1)])) _
    refine XS.sipush X0.here hx rfl (hb hby d2_73) ?_
    by_cases hb72 : p1 = (247 : Int32)
    · show Steps p.tables e below (s₁.setTop (mkF m 76 #[.val (.int p1)] [(.int (247 : Int32)), (.int p1)])) _
      refine XS.icmpNo X0.here hx rfl (hb hby d2_76) rfl (teq hb72).2 ?_
      exact J79 (by rw [show own_g72 p1 = own_g79 p1 from if_pos hb72] at hr; exact hr)
    · show Steps p.tables e below (s₁.setTop (mkF m 76 #[.val (.int p1)] [(.int (247 : Int32)), (.int p1)])) _
      refine XS.icmpYes X0.here hx rfl (pc0 := 76) (pc' := 81) rfl (hb hby d2_76) rfl (feq hb72).2 (by decide) (by decide) ?_
      exact J81 (by rw [show own_g72 p1 = own_g81 p1 from if_neg hb72] at hr; exact hr)
  have J65 : (∀ (f : JFrame) (acts : List Action), f.method = m → f.locked = none → f.entered = [] → (doReturn e (s₁.setTop f) acts (some (.int (own_g65 p1)))).1 = s₁.setFrames fs) → Steps p.tables e below (s₁.setTop (mkF m 65 #[.val (.int p1)] [])) (s₁.setFrames fs) := fun hr => by
    show Steps p.tables e below (s₁.setTop (mkF m 65 #[.val (.int p1)] [])) _
    refine XS.iloadN X0.here hx rfl (hb hby d2_65) rfl ?_
    show Steps p.tables e below (s₁.setTop (mkF m 66 #[.val (.int p1)] [(.int p1)])) _
    refine XS.sipush X0.here hx rfl (hb hby d2_66) ?_
    by_cases hb65 : p1 = (215 : Int32)
    · show Steps p.tables e below (s₁.setTop (mkF m 69 #[.val (.int p1)] [(.int (215 : Int32)), (.int p1)])) _
      refine XS.icmpYes X0.here hx rfl (pc0 := 69) (pc' := 79) rfl (hb hby d2_69) rfl (teq hb65).1 (by decide) (by decide) ?_
      exact J79 (by rw [show own_g65 p1 = own_g79 p1 from if_pos hb65] at hr; exact hr)
    · show Steps p.tables e below (s₁.setTop (mkF m 69 #[.val (.int p1)] [(.int (215 : Int32)), (.int p1)])) _
      refine XS.icmpNo X0.here hx rfl (hb hby d2_69) rfl (feq hb65).1 ?_
      exact J72 (by rw [show own_g65 p1 = own_g72 p1 from if_neg hb65] at hr; exact hr)
  have J63 : (∀ (f : JFrame) (acts : List Action), f.method = m → f.locked = none → f.entered = [] → (doReturn e (s₁.setTop f) acts (some (.int (own_g63 p1)))).1 = s₁.setFrames fs) → Steps p.tables e below (s₁.setTop (mkF m 63 #[.val (.int p1)] [])) (s₁.setFrames fs) := fun hr => by
    show Steps p.tables e below (s₁.setTop (mkF m 63 #[.val (.int p1)] [])) _
    refine XS.iconst X0.here hx rfl (hb hby d2_63) ?_
    show Steps p.tables e below (s₁.setTop (mkF m 64 #[.val (.int p1)] [(.int (0 : Int32))])) _
    have q : own_g63 p1 = nar .boolean (0 : Int32) := (show own_g63 p1 = (0 : Int32) from rfl).trans (by decide)
    rw [q] at hr
    exact retN X0 hx (t := .boolean) Bd.returns (by simp) (hb hby d2_64) hr
  have J56 : (∀ (f : JFrame) (acts : List Action), f.method = m → f.locked = none → f.entered = [] → (doReturn e (s₁.setTop f) acts (some (.int (own_g56 p1)))).1 = s₁.setFrames fs) → Steps p.tables e below (s₁.setTop (mkF m 56 #[.val (.int p1)] [])) (s₁.setFrames fs) := fun hr => by
    show Steps p.tables e below (s₁.setTop (mkF m 56 #[.val (.int p1)] [])) _
    refine XS.iloadN X0.here hx rfl (hb hby d2_56) rfl ?_
    show Steps p.tables e below (s₁.setTop (mkF m 57 #[.val (.int p1)] [(.int p1)])) _
    refine XS.sipush X0.here hx rfl (hb hby d2_57) ?_
    by_cases hb56 : (191 : Int32) < p1
    · show Steps p.tables e below (s₁.setTop (mkF m 60 #[.val (.int p1)] [(.int (191 : Int32)), (.int p1)])) _
      refine XS.icmpYes X0.here hx rfl (pc0 := 60) (pc' := 65) rfl (hb hby d2_60) rfl (tlt hb56).2.2.1 (by decide) (by decide) ?_
      exact J65 (by rw [show own_g56 p1 = own_g65 p1 from if_pos hb56] at hr; exact hr)
    · show Steps p.tables e below (s₁.setTop (mkF m 60 #[.val (.int p1)] [(.int (191 : Int32)), (.int p1)])) _
      refine XS.icmpNo X0.here hx rfl (hb hby d2_60) rfl (flt hb56).2.2.1 ?_
      exact J63 (by rw [show own_g56 p1 = own_g63 p1 from if_neg hb56] at hr; exact hr)
  have J50 : (∀ (f : JFrame) (acts : List Action), f.method = m → f.locked = none → f.entered = [] → (doReturn e (s₁.setTop f) acts (some (.int (own_g50 p1)))).1 = s₁.setFrames fs) → Steps p.tables e below (s₁.setTop (mkF m 50 #[.val (.int p1)] [])) (s₁.setFrames fs) := fun hr => by
    show Steps p.tables e below (s₁.setTop (mkF m 50 #[.val (.int p1)] [])) _
    refine XS.iloadN X0.here hx rfl (hb hby d2_50) rfl ?_
    show Steps p.tables e below (s₁.setTop (mkF m 51 #[.val (.int p1)] [(.int p1)])) _
    refine XS.bipush X0.here hx rfl (hb hby d2_51) ?_
    by_cases hb50 : p1 < (123 : Int32)
    · show Steps p.tables e below (s₁.setTop (mkF m 53 #[.val (.int p1)] [(.int (123 : Int32)), (.int p1)])) _
      refine XS.icmpYes X0.here hx rfl (pc0 := 53) (pc' := 65) rfl (hb hby d2_53) rfl (tlt hb50).1 (by decide) (by decide) ?_
      exact J65 (by rw [show own_g50 p1 = own_g65 p1 from if_pos hb50] at hr; exact hr)
    · show Steps p.tables e below (s₁.setTop (mkF m 53 #[.val (.int p1)] [(.int (123 : Int32)), (.int p1)])) _
      refine XS.icmpNo X0.here hx rfl (hb hby d2_53) rfl (flt hb50).1 ?_
      exact J56 (by rw [show own_g50 p1 = own_g56 p1 from if_neg hb50] at hr; exact hr)
  have J48 : (∀ (f : JFrame) (acts : List Action), f.method = m → f.locked = none → f.entered = [] → (doReturn e (s₁.setTop f) acts (some (.int (own_g48 p1)))).1 = s₁.setFrames fs) → Steps p.tables e below (s₁.setTop (mkF m 48 #[.val (.int p1)] [])) (s₁.setFrames fs) := fun hr => by
    show Steps p.tables e below (s₁.setTop (mkF m 48 #[.val (.int p1)] [])) _
    refine XS.iconst X0.here hx rfl (hb hby d2_48) ?_
    show Steps p.tables e below (s₁.setTop (mkF m 49 #[.val (.int p1)] [(.int (0 : Int32))])) _
    have q : own_g48 p1 = nar .boolean (0 : Int32) := (show own_g48 p1 = (0 : Int32) from rfl).trans (by decide)
    rw [q] at hr
    exact retN X0 hx (t := .boolean) Bd.returns (by simp) (hb hby d2_49) hr
  have J42 : (∀ (f : JFrame) (acts : List Action), f.method = m → f.locked = none → f.entered = [] → (doReturn e (s₁.setTop f) acts (some (.int (own_g42 p1)))).1 = s₁.setFrames fs) → Steps p.tables e below (s₁.setTop (mkF m 42 #[.val (.int p1)] [])) (s₁.setFrames fs) := fun hr => by
    show Steps p.tables e below (s₁.setTop (mkF m 42 #[.val (.int p1)] [])) _
    refine XS.iloadN X0.here hx rfl (hb hby d2_42) rfl ?_
    show Steps p.tables e below (s₁.setTop (mkF m 43 #[.val (.int p1)] [(.int p1)])) _
    refine XS.bipush X0.here hx rfl (hb hby d2_43) ?_
    by_cases hb42 : p1 = (96 : Int32)
    · show Steps p.tables e below (s₁.setTop (mkF m 45 #[.val (.int p1)] [(.int (96 : Int32)), (.int p1)])) _
      refine XS.icmpNo X0.here hx rfl (hb hby d2_45) rfl (teq hb42).2 ?_
      exact J48 (by rw [show own_g42 p1 = own_g48 p1 from if_pos hb42] at hr; exact hr)
    · show Steps p.tables e below (s₁.setTop (mkF m 45 #[.val (.int p1)] [(.int (96 : Int32)), (.int p1)])) _
      refine XS.icmpYes X0.here hx rfl (pc0 := 45) (pc' := 50) rfl (hb hby d2_45) rfl (feq hb42).2 (by decide) (by decide) ?_
      exact J50 (by rw [show own_g42 p1 = own_g50 p1 from if_neg hb42] at hr; exact hr)
  have J40 : (∀ (f : JFrame) (acts : List Action), f.method = m → f.locked = none → f.entered = [] → (doReturn e (s₁.setTop f) acts (some (.int (own_g40 p1)))).1 = s₁.setFrames fs) → Steps p.tables e below (s₁.setTop (mkF m 40 #[.val (.int p1)] [])) (s₁.setFrames fs) := fun hr => by
    show Steps p.tables e below (s₁.setTop (mkF m 40 #[.val (.int p1)] [])) _
    refine XS.iconst X0.here hx rfl (hb hby d2_40) ?_
    show Steps p.tables e below (s₁.setTop (mkF m 41 #[.val (.int p1)] [(.int (0 : Int32))])) _
    have q : own_g40 p1 = nar .boolean (0 : Int32) := (show own_g40 p1 = (0 : Int32) from rfl).trans (by decide)
    rw [q] at hr
    exact retN X0 hx (t := .boolean) Bd.returns (by simp) (hb hby d2_41) hr
  have J34 : (∀ (f : JFrame) (acts : List Action), f.method = m → f.locked = none → f.entered = [] → (doReturn e (s₁.setTop f) acts (some (.int (own_g34 p1)))).1 = s₁.setFrames fs) → Steps p.tables e below (s₁.setTop (mkF m 34 #[.val (.int p1)] [])) (s₁.setFrames fs) := fun hr => by
    show Steps p.tables e below (s₁.setTop (mkF m 34 #[.val (.int p1)] [])) _
    refine XS.iloadN X0.here hx rfl (hb hby d2_34) rfl ?_
    show Steps p.tables e below (s₁.setTop (mkF m 35 #[.val (.int p1)] [(.int p1)])) _
    refine XS.bipush X0.here hx rfl (hb hby d2_35) ?_
    by_cases hb34 : (94 : Int32) < p1
    · show Steps p.tables e below (s₁.setTop (mkF m 37 #[.val (.int p1)] [(.int (94 : Int32)), (.int p1)])) _
      refine XS.icmpYes X0.here hx rfl (pc0 := 37) (pc' := 42) rfl (hb hby d2_37) rfl (tlt hb34).2.2.1 (by decide) (by decide) ?_
      exact J42 (by rw [show own_g34 p1 = own_g42 p1 from if_pos hb34] at hr; exact hr)
    · show Steps p.tables e below (s₁.setTop (mkF m 37 #[.val (.int p1)] [(.int (94 : Int32)), (.int p1)])) _
      refine XS.icmpNo X0.here hx rfl (hb hby d2_37) rfl (flt hb34).2.2.1 ?_
      exact J40 (by rw [show own_g34 p1 = own_g40 p1 from if_neg hb34] at hr; exact hr)
  have J28 : (∀ (f : JFrame) (acts : List Action), f.method = m → f.locked = none → f.entered = [] → (doReturn e (s₁.setTop f) acts (some (.int (own_g28 p1)))).1 = s₁.setFrames fs) → Steps p.tables e below (s₁.setTop (mkF m 28 #[.val (.int p1)] [])) (s₁.setFrames fs) := fun hr => by
    show Steps p.tables e below (s₁.setTop (mkF m 28 #[.val (.int p1)] [])) _
    refine XS.iloadN X0.here hx rfl (hb hby d2_28) rfl ?_
    show Steps p.tables e below (s₁.setTop (mkF m 29 #[.val (.int p1)] [(.int p1)])) _
    refine XS.bipush X0.here hx rfl (hb hby d2_29) ?_
    by_cases hb28 : p1 < (91 : Int32)
    · show Steps p.tables e below (s₁.setTop (mkF m 31 #[.val (.int p1)] [(.int (91 : Int32)), (.int p1)])) _
      refine XS.icmpYes X0.here hx rfl (pc0 := 31) (pc' := 42) rfl (hb hby d2_31) rfl (tlt hb28).1 (by decide) (by decide) ?_
      exact J42 (by rw [show own_g28 p1 = own_g42 p1 from if_pos hb28] at hr; exact hr)
    · show Steps p.tables e below (s₁.setTop (mkF m 31 #[.val (.int p1)] [(.int (91 : Int32)), (.int p1)])) _
      refine XS.icmpNo X0.here hx rfl (hb hby d2_31) rfl (flt hb28).1 ?_
      exact J34 (by rw [show own_g28 p1 = own_g34 p1 from if_neg hb28] at hr; exact hr)
  have J26 : (∀ (f : JFrame) (acts : List Action), f.method = m → f.locked = none → f.entered = [] → (doReturn e (s₁.setTop f) acts (some (.int (own_g26 p1)))).1 = s₁.setFrames fs) → Steps p.tables e below (s₁.setTop (mkF m 26 #[.val (.int p1)] [])) (s₁.setFrames fs) := fun hr => by
    show Steps p.tables e below (s₁.setTop (mkF m 26 #[.val (.int p1)] [])) _
    refine XS.iconst X0.here hx rfl (hb hby d2_26) ?_
    show Steps p.tables e below (s₁.setTop (mkF m 27 #[.val (.int p1)] [(.int (0 : Int32))])) _
    have q : own_g26 p1 = nar .boolean (0 : Int32) := (show own_g26 p1 = (0 : Int32) from rfl).trans (by decide)
    rw [q] at hr
    exact retN X0 hx (t := .boolean) Bd.returns (by simp) (hb hby d2_27) hr
  have J20 : (∀ (f : JFrame) (acts : List Action), f.method = m → f.locked = none → f.entered = [] → (doReturn e (s₁.setTop f) acts (some (.int (own_g20 p1)))).1 = s₁.setFrames fs) → Steps p.tables e below (s₁.setTop (mkF m 20 #[.val (.int p1)] [])) (s₁.setFrames fs) := fun hr => by
    show Steps p.tables e below (s₁.setTop (mkF m 20 #[.val (.int p1)] [])) _
    refine XS.iloadN X0.here hx rfl (hb hby d2_20) rfl ?_
    show Steps p.tables e below (s₁.setTop (mkF m 21 #[.val (.int p1)] [(.int p1)])) _
    refine XS.bipush X0.here hx rfl (hb hby d2_21) ?_
    by_cases hb20 : (64 : Int32) < p1
    · show Steps p.tables e below (s₁.setTop (mkF m 23 #[.val (.int p1)] [(.int (64 : Int32)), (.int p1)])) _
      refine XS.icmpYes X0.here hx rfl (pc0 := 23) (pc' := 28) rfl (hb hby d2_23) rfl (tlt hb20).2.2.1 (by decide) (by decide) ?_
      exact J28 (by rw [show own_g20 p1 = own_g28 p1 from if_pos hb20] at hr; exact hr)
    · show Steps p.tables e below (s₁.setTop (mkF m 23 #[.val (.int p1)] [(.int (64 : Int32)), (.int p1)])) _
      refine XS.icmpNo X0.here hx rfl (hb hby d2_23) rfl (flt hb20).2.2.1 ?_
      exact J26 (by rw [show own_g20 p1 = own_g26 p1 from if_neg hb20] at hr; exact hr)
  have J14 : (∀ (f : JFrame) (acts : List Action), f.method = m → f.locked = none → f.entered = [] → (doReturn e (s₁.setTop f) acts (some (.int (own_g14 p1)))).1 = s₁.setFrames fs) → Steps p.tables e below (s₁.setTop (mkF m 14 #[.val (.int p1)] [])) (s₁.setFrames fs) := fun hr => by
    show Steps p.tables e below (s₁.setTop (mkF m 14 #[.val (.int p1)] [])) _
    refine XS.iloadN X0.here hx rfl (hb hby d2_14) rfl ?_
    show Steps p.tables e below (s₁.setTop (mkF m 15 #[.val (.int p1)] [(.int p1)])) _
    refine XS.bipush X0.here hx rfl (hb hby d2_15) ?_
    by_cases hb14 : p1 < (59 : Int32)
    · show Steps p.tables e below (s₁.setTop (mkF m 17 #[.val (.int p1)] [(.int (59 : Int32)), (.int p1)])) _
      refine XS.icmpYes X0.here hx rfl (pc0 := 17) (pc' := 28) rfl (hb hby d2_17) rfl (tlt hb14).1 (by decide) (by decide) ?_
      exact J28 (by rw [show own_g14 p1 = own_g28 p1 from if_pos hb14] at hr; exact hr)
    · show Steps p.tables e below (s₁.setTop (mkF m 17 #[.val (.int p1)] [(.int (59 : Int32)), (.int p1)])) _
      refine XS.icmpNo X0.here hx rfl (hb hby d2_17) rfl (flt hb14).1 ?_
      exact J20 (by rw [show own_g14 p1 = own_g20 p1 from if_neg hb14] at hr; exact hr)
  have J12 : (∀ (f : JFrame) (acts : List Action), f.method = m → f.locked = none → f.entered = [] → (doReturn e (s₁.setTop f) acts (some (.int (own_g12 p1)))).1 = s₁.setFrames fs) → Steps p.tables e below (s₁.setTop (mkF m 12 #[.val (.int p1)] [])) (s₁.setFrames fs) := fun hr => by
    show Steps p.tables e below (s₁.setTop (mkF m 12 #[.val (.int p1)] [])) _
    refine XS.iconst X0.here hx rfl (hb hby d2_12) ?_
    show Steps p.tables e below (s₁.setTop (mkF m 13 #[.val (.int p1)] [(.int (0 : Int32))])) _
    have q : own_g12 p1 = nar .boolean (0 : Int32) := (show own_g12 p1 = (0 : Int32) from rfl).trans (by decide)
    rw [q] at hr
    exact retN X0 hx (t := .boolean) Bd.returns (by simp) (hb hby d2_13) hr
  have J6 : (∀ (f : JFrame) (acts : List Action), f.method = m → f.locked = none → f.entered = [] → (doReturn e (s₁.setTop f) acts (some (.int (own_g6 p1)))).1 = s₁.setFrames fs) → Steps p.tables e below (s₁.setTop (mkF m 6 #[.val (.int p1)] [])) (s₁.setFrames fs) := fun hr => by
    show Steps p.tables e below (s₁.setTop (mkF m 6 #[.val (.int p1)] [])) _
    refine XS.iloadN X0.here hx rfl (hb hby d2_6) rfl ?_
    show Steps p.tables e below (s₁.setTop (mkF m 7 #[.val (.int p1)] [(.int p1)])) _
    refine X0.ldcI hx hown (mvT hZ (hw _ (List.mem_of_getElem? (i := 7) rfl))) rfl (hb hby d2_7) ?_
    by_cases hb6 : (983039 : Int32) < p1
    · show Steps p.tables e below (s₁.setTop (mkF m 9 #[.val (.int p1)] [(.int (983039 : Int32)), (.int p1)])) _
      refine XS.icmpNo X0.here hx rfl (hb hby d2_9) rfl (tlt hb6).2.2.2 ?_
      exact J12 (by rw [show own_g6 p1 = own_g12 p1 from if_pos hb6] at hr; exact hr)
    · show Steps p.tables e below (s₁.setTop (mkF m 9 #[.val (.int p1)] [(.int (983039 : Int32)), (.int p1)])) _
      refine XS.icmpYes X0.here hx rfl (pc0 := 9) (pc' := 14) rfl (hb hby d2_9) rfl (flt hb6).2.2.2 (by decide) (by decide) ?_
      exact J14 (by rw [show own_g6 p1 = own_g14 p1 from if_neg hb6] at hr; exact hr)
  have J0 : (∀ (f : JFrame) (acts : List Action), f.method = m → f.locked = none → f.entered = [] → (doReturn e (s₁.setTop f) acts (some (.int (own_g0 p1)))).1 = s₁.setFrames fs) → Steps p.tables e below (s₁.setTop (mkF m 0 #[.val (.int p1)] [])) (s₁.setFrames fs) := fun hr => by
    show Steps p.tables e below (s₁.setTop (mkF m 0 #[.val (.int p1)] [])) _
    refine XS.iloadN X0.here hx rfl (hb hby d2_0) rfl ?_
    show Steps p.tables e below (s₁.setTop (mkF m 1 #[.val (.int p1)] [(.int p1)])) _
    refine XS.bipush X0.here hx rfl (hb hby d2_1) ?_
    by_cases hb0 : p1 < (58 : Int32)
    · show Steps p.tables e below (s₁.setTop (mkF m 3 #[.val (.int p1)] [(.int (58 : Int32)), (.int p1)])) _
      refine XS.icmpYes X0.here hx rfl (pc0 := 3) (pc' := 12) rfl (hb hby d2_3) rfl (tlt hb0).1 (by decide) (by decide) ?_
      exact J12 (by rw [show own_g0 p1 = own_g12 p1 from if_pos hb0] at hr; exact hr)
    · show Steps p.tables e below (s₁.setTop (mkF m 3 #[.val (.int p1)] [(.int (58 : Int32)), (.int p1)])) _
      refine XS.icmpNo X0.here hx rfl (hb hby d2_3) rfl (flt hb0).1 ?_
      exact J6 (by rw [show own_g0 p1 = own_g6 p1 from if_neg hb0] at hr; exact hr)
  refine ⟨_, _, pre0 _ ?_, hrun, hended, _, _, rfl, ?_, ⟨_, rfl⟩, hW, hsame.mono (by decide) (by decide)⟩
  · exact J0 hr
  · exact ⟨rfl, N0, e0⟩
theorem own_ltT {a b : Int32} {x y : Int} (ha : a.toInt = x) (hb : b.toInt = y) (h : x < y) : a < b := by rw [Int32.lt_iff_toInt_lt, ha, hb]; exact h
theorem own_ltF {a b : Int32} {x y : Int} (ha : a.toInt = x) (hb : b.toInt = y) (h : ¬ x < y) : ¬ a < b := by rw [Int32.lt_iff_toInt_lt, ha, hb]; exact h
theorem own_eqT {a b : Int32} {x y : Int} (ha : a.toInt = x) (hb : b.toInt = y) (h : x = y) : a = b := Int32.toInt_inj.mp (by rw [ha, hb]; exact h)
theorem own_eqF {a b : Int32} {x y : Int} (ha : a.toInt = x) (hb : b.toInt = y) (h : ¬ x = y) : ¬ a = b := fun q => h (by rw [← ha, ← hb, q])
set_option maxRecDepth 65536 in
set_option maxHeartbeats 40000000 in
theorem own_eq (p1 : Int32) : own_f0 p1 = own_g0 p1 := by
  have rg := rng32 p1
  by_cases k0 : p1.toInt < 58
  · have e1 : own_f0 p1 = (0 : Int32) := (if_neg (own_eqF (x := p1.toInt) (y := (58)) rfl rfl (by omega))).trans ((if_pos (own_ltT (x := p1.toInt) (y := (65)) rfl rfl (by omega))).trans ((if_neg (own_eqF (x := p1.toInt) (y := (95)) rfl rfl (by omega))).trans ((if_pos (own_ltT (x := p1.toInt) (y := (97)) rfl rfl (by omega))).trans ((if_pos (own_ltT (x := p1.toInt) (y := (192)) rfl rfl (by omega))).trans ((if_pos (own_ltT (x := p1.toInt) (y := (216)) rfl rfl (by omega))).trans ((if_pos (own_ltT (x := p1.toInt) (y := (248)) rfl rfl (by omega))).trans ((if_pos (own_ltT (x := p1.toInt) (y := (880)) rfl rfl (by omega))).trans ((if_pos (own_ltT (x := p1.toInt) (y := (895)) rfl rfl (by omega))).trans ((if_pos (own_ltT (x := p1.toInt) (y := (8204)) rfl rfl (by omega))).trans ((if_pos (own_ltT (x := p1.toInt) (y := (8304)) rfl rfl (by omega))).trans ((if_pos (own_ltT (x := p1.toInt) (y := (11264)) rfl rfl (by omega))).trans ((if_pos (own_ltT (x := p1.toInt) (y := (12289)) rfl rfl (by omega))).trans ((if_pos (own_ltT (x := p1.toInt) (y := (63744)) rfl rfl (by omega))).trans ((if_pos (own_ltT (x := p1.toInt) (y := (65008)) rfl rfl (by omega))).trans ((if_pos (own_ltT (x := p1.toInt) (y := (65536)) rfl rfl (by omega))).trans (rfl))))))))))))))))
    have e2 : own_g0 p1 = (0 : Int32) := (if_pos (own_ltT (x := p1.toInt) (y := (58)) rfl rfl (by omega))).trans (rfl)
    exact e1.trans e2.symm
  by_cases k1 : p1.toInt < 59
  · have e1 : own_f0 p1 = (1 : Int32) := (if_pos (own_eqT (x := p1.toInt) (y := (58)) rfl rfl (by omega))).trans (rfl)
    have e2 : own_g0 p1 = (1 : Int32) := (if_neg (own_ltF (x := p1.toInt) (y := (58)) rfl rfl (by omega))).trans ((if_neg (own_ltF (x := (983039)) (y := p1.toInt) rfl rfl (by omega))).trans ((if_pos (own_ltT (x := p1.toInt) (y := (59)) rfl rfl (by omega))).trans ((if_pos (own_ltT (x := p1.toInt) (y := (91)) rfl rfl (by omega))).trans ((if_neg (own_eqF (x := p1.toInt) (y := (96)) rfl rfl (by omega))).trans ((if_pos (own_ltT (x := p1.toInt) (y := (123)) rfl rfl (by omega))).trans ((if_neg (own_eqF (x := p1.toInt) (y := (215)) rfl rfl (by omega))).trans ((if_neg (own_eqF (x := p1.toInt) (y := (247)) rfl rfl (by omega))).trans ((if_pos (own_ltT (x := p1.toInt) (y := (768)) rfl rfl (by omega))).trans ((if_neg (own_eqF (x := p1.toInt) (y := (894)) rfl rfl (by omega))).trans ((if_pos (own_ltT (x := p1.toInt) (y := (8192)) rfl rfl (by omega))).trans ((if_pos (own_ltT (x := p1.toInt) (y := (8206)) rfl rfl (by omega))).trans ((if_pos (own_ltT (x := p1.toInt) (y := (8592)) rfl rfl (by omega))).trans ((if_pos (own_ltT (x := p1.toInt) (y := (12272)) rfl rfl (by omega))).trans ((if_pos (own_ltT (x := p1.toInt) (y := (55296)) rfl rfl (by omega))).trans ((if_pos (own_ltT (x := p1.toInt) (y := (64976)) rfl rfl (by omega))).trans ((if_pos (own_ltT (x := p1.toInt) (y := (65534)) rfl rfl (by omega))).trans (rfl)))))))))))))))))
    exact e1.trans e2.symm
  by_cases k2 : p1.toInt < 60
  · have e1 : own_f0 p1 = (0 : Int32) := (if_neg (own_eqF (x := p1.toInt) (y := (58)) rfl rfl (by omega))).trans ((if_pos (own_ltT (x := p1.toInt) (y := (65)) rfl rfl (by omega))).trans ((if_neg (own_eqF (x := p1.toInt) (y := (95)) rfl rfl (by omega))).trans ((if_pos (own_ltT (x := p1.toInt) (y := (97)) rfl rfl (by omega))).trans ((if_pos (own_ltT (x := p1.toInt) (y := (192)) rfl rfl (by omega))).trans ((if_pos (own_ltT (x := p1.toInt) (y := (216)) rfl rfl (by omega))).trans ((if_pos (own_ltT (x := p1.toInt) (y := (248)) rfl rfl (by omega))).trans ((if_pos (own_ltT (x := p1.toInt) (y := (880)) rfl rfl (by omega))).trans ((if_pos (own_ltT (x := p1.toInt) (y := (895)) rfl rfl (by omega))).trans ((if_pos (own_ltT (x := p1.toInt) (y := (8204)) rfl rfl (by omega))).trans ((if_pos (own_ltT (x := p1.toInt) (y := (8304)) rfl rfl (by omega))).trans ((if_pos (own_ltT (x := p1.toInt) (y := (11264)) rfl rfl (by omega))).trans ((if_pos (own_ltT (x := p1.toInt) (y := (12289)) rfl rfl (by omega))).trans ((if_pos (own_ltT (x := p1.toInt) (y := (63744)) rfl rfl (by omega))).trans ((if_pos (own_ltT (x := p1.toInt) (y := (65008)) rfl rfl (by omega))).trans ((if_pos (own_ltT (x := p1.toInt) (y := (65536)) rfl rfl (by omega))).trans (rfl))))))))))))))))
    have e2 : own_g0 p1 = (0 : Int32) := (if_neg (own_ltF (x := p1.toInt) (y := (58)) rfl rfl (by omega))).trans ((if_neg (own_ltF (x := (983039)) (y := p1.toInt) rfl rfl (by omega))).trans ((if_neg (own_ltF (x := p1.toInt) (y := (59)) rfl rfl (by omega))).trans ((if_neg (own_ltF (x := (64)) (y := p1.toInt) rfl rfl (by omega))).trans (rfl))))
    exact e1.trans e2.symm
  by_cases k3 : p1.toInt < 64
  · have e1 : own_f0 p1 = (0 : Int32) := (if_neg (own_eqF (x := p1.toInt) (y := (58)) rfl rfl (by omega))).trans ((if_pos (own_ltT (x := p1.toInt) (y := (65)) rfl rfl (by omega))).trans ((if_neg (own_eqF (x := p1.toInt) (y := (95)) rfl rfl (by omega))).trans ((if_pos (own_ltT (x := p1.toInt) (y := (97)) rfl rfl (by omega))).trans ((if_pos (own_ltT (x := p1.toInt) (y := (192)) rfl rfl (by omega))).trans ((if_pos (own_ltT (x := p1.toInt) (y := (216)) rfl rfl (by omega))).trans ((if_pos (own_ltT (x := p1.toInt) (y := (248)) rfl rfl (by omega))).trans ((if_pos (own_ltT (x := p1.toInt) (y := (880)) rfl rfl (by omega))).trans ((if_pos (own_ltT (x := p1.toInt) (y := (895)) rfl rfl (by omega))).trans ((if_pos (own_ltT (x := p1.toInt) (y := (8204)) rfl rfl (by omega))).trans ((if_pos (own_ltT (x := p1.toInt) (y := (8304)) rfl rfl (by omega))).trans ((if_pos (own_ltT (x := p1.toInt) (y := (11264)) rfl rfl (by omega))).trans ((if_pos (own_ltT (x := p1.toInt) (y := (12289)) rfl rfl (by omega))).trans ((if_pos (own_ltT (x := p1.toInt) (y := (63744)) rfl rfl (by omega))).trans ((if_pos (own_ltT (x := p1.toInt) (y := (65008)) rfl rfl (by omega))).trans ((if_pos (own_ltT (x := p1.toInt) (y := (65536)) rfl rfl (by omega))).trans (rfl))))))))))))))))
    have e2 : own_g0 p1 = (0 : Int32) := (if_neg (own_ltF (x := p1.toInt) (y := (58)) rfl rfl (by omega))).trans ((if_neg (own_ltF (x := (983039)) (y := p1.toInt) rfl rfl (by omega))).trans ((if_neg (own_ltF (x := p1.toInt) (y := (59)) rfl rfl (by omega))).trans ((if_neg (own_ltF (x := (64)) (y := p1.toInt) rfl rfl (by omega))).trans (rfl))))
    exact e1.trans e2.symm
  by_cases k4 : p1.toInt < 65
  · have e1 : own_f0 p1 = (0 : Int32) := (if_neg (own_eqF (x := p1.toInt) (y := (58)) rfl rfl (by omega))).trans ((if_pos (own_ltT (x := p1.toInt) (y := (65)) rfl rfl (by omega))).trans ((if_neg (own_eqF (x := p1.toInt) (y := (95)) rfl rfl (by omega))).trans ((if_pos (own_ltT (x := p1.toInt) (y := (97)) rfl rfl (by omega))).trans ((if_pos (own_ltT (x := p1.toInt) (y := (192)) rfl rfl (by omega))).trans ((if_pos (own_ltT (x := p1.toInt) (y := (216)) rfl rfl (by omega))).trans ((if_pos (own_ltT (x := p1.toInt) (y := (248)) rfl rfl (by omega))).trans ((if_pos (own_ltT (x := p1.toInt) (y := (880)) rfl rfl (by omega))).trans ((if_pos (own_ltT (x := p1.toInt) (y := (895)) rfl rfl (by omega))).trans ((if_pos (own_ltT (x := p1.toInt) (y := (8204)) rfl rfl (by omega))).trans ((if_pos (own_ltT (x := p1.toInt) (y := (8304)) rfl rfl (by omega))).trans ((if_pos (own_ltT (x := p1.toInt) (y := (11264)) rfl rfl (by omega))).trans ((if_pos (own_ltT (x := p1.toInt) (y := (12289)) rfl rfl (by omega))).trans ((if_pos (own_ltT (x := p1.toInt) (y := (63744)) rfl rfl (by omega))).trans ((if_pos (own_ltT (x := p1.toInt) (y := (65008)) rfl rfl (by omega))).trans ((if_pos (own_ltT (x := p1.toInt) (y := (65536)) rfl rfl (by omega))).trans (rfl))))))))))))))))
    have e2 : own_g0 p1 = (0 : Int32) := (if_neg (own_ltF (x := p1.toInt) (y := (58)) rfl rfl (by omega))).trans ((if_neg (own_ltF (x := (983039)) (y := p1.toInt) rfl rfl (by omega))).trans ((if_neg (own_ltF (x := p1.toInt) (y := (59)) rfl rfl (by omega))).trans ((if_neg (own_ltF (x := (64)) (y := p1.toInt) rfl rfl (by omega))).trans (rfl))))
    exact e1.trans e2.symm
  by_cases k5 : p1.toInt < 66
  · have e1 : own_f0 p1 = (1 : Int32) := (if_neg (own_eqF (x := p1.toInt) (y := (58)) rfl rfl (by omega))).trans ((if_neg (own_ltF (x := p1.toInt) (y := (65)) rfl rfl (by omega))).trans ((if_neg (own_ltF (x := (90)) (y := p1.toInt) rfl rfl (by omega))).trans (rfl)))
    have e2 : own_g0 p1 = (1 : Int32) := (if_neg (own_ltF (x := p1.toInt) (y := (58)) rfl rfl (by omega))).trans ((if_neg (own_ltF (x := (983039)) (y := p1.toInt) rfl rfl (by omega))).trans ((if_neg (own_ltF (x := p1.toInt) (y := (59)) rfl rfl (by omega))).trans ((if_pos (own_ltT (x := (64)) (y := p1.toInt) rfl rfl (by omega))).trans ((if_pos (own_ltT (x := p1.toInt) (y := (91)) rfl rfl (by omega))).trans ((if_neg (own_eqF (x := p1.toInt) (y := (96)) rfl rfl (by omega))).trans ((if_pos (own_ltT (x := p1.toInt) (y := (123)) rfl rfl (by omega))).trans ((if_neg (own_eqF (x := p1.toInt) (y := (215)) rfl rfl (by omega))).trans ((if_neg (own_eqF (x := p1.toInt) (y := (247)) rfl rfl (by omega))).trans ((if_pos (own_ltT (x := p1.toInt) (y := (768)) rfl rfl (by omega))).trans ((if_neg (own_eqF (x := p1.toInt) (y := (894)) rfl rfl (by omega))).trans ((if_pos (own_ltT (x := p1.toInt) (y := (8192)) rfl rfl (by omega))).trans ((if_pos (own_ltT (x := p1.toInt) (y := (8206)) rfl rfl (by omega))).trans ((if_pos (own_ltT (x := p1.toInt) (y := (8592)) rfl rfl (by omega))).trans ((if_pos (own_ltT (x := p1.toInt) (y := (12272)) rfl rfl (by omega))).trans ((if_pos (own_ltT (x := p1.toInt) (y := (55296)) rfl rfl (by omega))).trans ((if_pos (own_ltT (x := p1.toInt) (y := (64976)) rfl rfl (by omega))).trans ((if_pos (own_ltT (x := p1.toInt) (y := (65534)) rfl rfl (by omega))).trans (rfl))))))))))))))))))
    exact e1.trans e2.symm
  by_cases k6 : p1.toInt < 90
  · have e1 : own_f0 p1 = (1 : Int32) := (if_neg (own_eqF (x := p1.toInt) (y := (58)) rfl rfl (by omega))).trans ((if_neg (own_ltF (x := p1.toInt) (y := (65)) rfl rfl (by omega))).trans ((if_neg (own_ltF (x := (90)) (y := p1.toInt) rfl rfl (by omega))).trans (rfl)))
    have e2 : own_g0 p1 = (1 : Int32) := (if_neg (own_ltF (x := p1.toInt) (y := (58)) rfl rfl (by omega))).trans ((if_neg (own_ltF (x := (983039)) (y := p1.toInt) rfl rfl (by omega))).trans ((if_neg (own_ltF (x := p1.toInt) (y := (59)) rfl rfl (by omega))).trans ((if_pos (own_ltT (x := (64)) (y := p1.toInt) rfl rfl (by omega))).trans ((if_pos (own_ltT (x := p1.toInt) (y := (91)) rfl rfl (by omega))).trans ((if_neg (own_eqF (x := p1.toInt) (y := (96)) rfl rfl (by omega))).trans ((if_pos (own_ltT (x := p1.toInt) (y := (123)) rfl rfl (by omega))).trans ((if_neg (own_eqF (x := p1.toInt) (y := (215)) rfl rfl (by omega))).trans ((if_neg (own_eqF (x := p1.toInt) (y := (247)) rfl rfl (by omega))).trans ((if_pos (own_ltT (x := p1.toInt) (y := (768)) rfl rfl (by omega))).trans ((if_neg (own_eqF (x := p1.toInt) (y := (894)) rfl rfl (by omega))).trans ((if_pos (own_ltT (x := p1.toInt) (y := (8192)) rfl rfl (by omega))).trans ((if_pos (own_ltT (x := p1.toInt) (y := (8206)) rfl rfl (by omega))).trans ((if_pos (own_ltT (x := p1.toInt) (y := (8592)) rfl rfl (by omega))).trans ((if_pos (own_ltT (x := p1.toInt) (y := (12272)) rfl rfl (by omega))).trans ((if_pos (own_ltT (x := p1.toInt) (y := (55296)) rfl rfl (by omega))).trans ((if_pos (own_ltT (x := p1.toInt) (y := (64976)) rfl rfl (by omega))).trans ((if_pos (own_ltT (x := p1.toInt) (y := (65534)) rfl rfl (by omega))).trans (rfl))))))))))))))))))
    exact e1.trans e2.symm
  by_cases k7 : p1.toInt < 91
  · have e1 : own_f0 p1 = (1 : Int32) := (if_neg (own_eqF (x := p1.toInt) (y := (58)) rfl rfl (by omega))).trans ((if_neg (own_ltF (x := p1.toInt) (y := (65)) rfl rfl (by omega))).trans ((if_neg (own_ltF (x := (90)) (y := p1.toInt) rfl rfl (by omega))).trans (rfl)))
    have e2 : own_g0 p1 = (1 : Int32) := (if_neg (own_ltF (x := p1.toInt) (y := (58)) rfl rfl (by omega))).trans ((if_neg (own_ltF (x := (983039)) (y := p1.toInt) rfl rfl (by omega))).trans ((if_neg (own_ltF (x := p1.toInt) (y := (59)) rfl rfl (by omega))).trans ((if_pos (own_ltT (x := (64)) (y := p1.toInt) rfl rfl (by omega))).trans ((if_pos (own_ltT (x := p1.toInt) (y := (91)) rfl rfl (by omega))).trans ((if_neg (own_eqF (x := p1.toInt) (y := (96)) rfl rfl (by omega))).trans ((if_pos (own_ltT (x := p1.toInt) (y := (123)) rfl rfl (by omega))).trans ((if_neg (own_eqF (x := p1.toInt) (y := (215)) rfl rfl (by omega))).trans ((if_neg (own_eqF (x := p1.toInt) (y := (247)) rfl rfl (by omega))).trans ((if_pos (own_ltT (x := p1.toInt) (y := (768)) rfl rfl (by omega))).trans ((if_neg (own_eqF (x := p1.toInt) (y := (894)) rfl rfl (by omega))).trans ((if_pos (own_ltT (x := p1.toInt) (y := (8192)) rfl rfl (by omega))).trans ((if_pos (own_ltT (x := p1.toInt) (y := (8206)) rfl rfl (by omega))).trans ((if_pos (own_ltT (x := p1.toInt) (y := (8592)) rfl rfl (by omega))).trans ((if_pos (own_ltT (x := p1.toInt) (y := (12272)) rfl rfl (by omega))).trans ((if_pos (own_ltT (x := p1.toInt) (y := (55296)) rfl rfl (by omega))).trans ((if_pos (own_ltT (x := p1.toInt) (y := (64976)) rfl rfl (by omega))).trans ((if_pos (own_ltT (x := p1.toInt) (y := (65534)) rfl rfl (by omega))).trans (rfl))))))))))))))))))
    exact e1.trans e2.symm
  by_cases k8 : p1.toInt < 92
  · have e1 : own_f0 p1 = (0 : Int32) := (if_neg (own_eqF (x := p1.toInt) (y := (58)) rfl rfl (by omega))).trans ((if_neg (own_ltF (x := p1.toInt) (y := (65)) rfl rfl (by omega))).trans ((if_pos (own_ltT (x := (90)) (y := p1.toInt) rfl rfl (by omega))).trans ((if_neg (own_eqF (x := p1.toInt) (y := (95)) rfl rfl (by omega))).trans ((if_pos (own_ltT (x := p1.toInt) (y := (97)) rfl rfl (by omega))).trans ((if_pos (own_ltT (x := p1.toInt) (y := (192)) rfl rfl (by omega))).trans ((if_pos (own_ltT (x := p1.toInt) (y := (216)) rfl rfl (by omega))).trans ((if_pos (own_ltT (x := p1.toInt) (y := (248)) rfl rfl (by omega))).trans ((if_pos (own_ltT (x := p1.toInt) (y := (880)) rfl rfl (by omega))).trans ((if_pos (own_ltT (x := p1.toInt) (y := (895)) rfl rfl (by omega))).trans ((if_pos (own_ltT (x := p1.toInt) (y := (8204)) rfl rfl (by omega))).trans ((if_pos (own_ltT (x := p1.toInt) (y := (8304)) rfl rfl (by omega))).trans ((if_pos (own_ltT (x := p1.toInt) (y := (11264)) rfl rfl (by omega))).trans ((if_pos (own_ltT (x := p1.toInt) (y := (12289)) rfl rfl (by omega))).trans ((if_pos (own_ltT (x := p1.toInt) (y := (63744)) rfl rfl (by omega))).trans ((if_pos (own_ltT (x := p1.toInt) (y := (65008)) rfl rfl (by omega))).trans ((if_pos (own_ltT (x := p1.toInt) (y := (65536)) rfl rfl (by omega))).trans (rfl)))))))))))))))))
    have e2 : own_g0 p1 = (0 : Int32) := (if_neg (own_ltF (x := p1.toInt) (y := (58)) rfl rfl (by omega))).trans ((if_neg (own_ltF (x := (983039)) (y := p1.toInt) rfl rfl (by omega))).trans ((if_neg (own_ltF (x := p1.toInt) (y := (59)) rfl rfl (by omega))).trans ((if_pos (own_ltT (x := (64)) (y := p1.toInt) rfl rfl (by omega))).trans ((if_neg (own_ltF (x := p1.toInt) (y := (91)) rfl rfl (by omega))).trans ((if_neg (own_ltF (x := (94)) (y := p1.toInt) rfl rfl (by omega))).trans (rfl))))))
    exact e1.trans e2.symm
  by_cases k9 : p1.toInt < 94
  · have e1 : own_f0 p1 = (0 : Int32) := (if_neg (own_eqF (x := p1.toInt) (y := (58)) rfl rfl (by omega))).trans ((if_neg (own_ltF (x := p1.toInt) (y := (65)) rfl rfl (by omega))).trans ((if_pos (own_ltT (x := (90)) (y := p1.toInt) rfl rfl (by omega))).trans ((if_neg (own_eqF (x := p1.toInt) (y := (95)) rfl rfl (by omega))).trans ((if_pos (own_ltT (x := p1.toInt) (y := (97)) rfl rfl (by omega))).trans ((if_pos (own_ltT (x := p1.toInt) (y := (192)) rfl rfl (by omega))).trans ((if_pos (own_ltT (x := p1.toInt) (y := (216)) rfl rfl (by omega))).trans ((if_pos (own_ltT (x := p1.toInt) (y := (248)) rfl rfl (by omega))).trans ((if_pos (own_ltT (x := p1.toInt) (y := (880)) rfl rfl (by omega))).trans ((if_pos (own_ltT (x := p1.toInt) (y := (895)) rfl rfl (by omega))).trans ((if_pos (own_ltT (x := p1.toInt) (y := (8204)) rfl rfl (by omega))).trans ((if_pos (own_ltT (x := p1.toInt) (y := (8304)) rfl rfl (by omega))).trans ((if_pos (own_ltT (x := p1.toInt) (y := (11264)) rfl rfl (by omega))).trans ((if_pos (own_ltT (x := p1.toInt) (y := (12289)) rfl rfl (by omega))).trans ((if_pos (own_ltT (x := p1.toInt) (y := (63744)) rfl rfl (by omega))).trans ((if_pos (own_ltT (x := p1.toInt) (y := (65008)) rfl rfl (by omega))).trans ((if_pos (own_ltT (x := p1.toInt) (y := (65536)) rfl rfl (by omega))).trans (rfl)))))))))))))))))
    have e2 : own_g0 p1 = (0 : Int32) := (if_neg (own_ltF (x := p1.toInt) (y := (58)) rfl rfl (by omega))).trans ((if_neg (own_ltF (x := (983039)) (y := p1.toInt) rfl rfl (by omega))).trans ((if_neg (own_ltF (x := p1.toInt) (y := (59)) rfl rfl (by omega))).trans ((if_pos (own_ltT (x := (64)) (y := p1.toInt) rfl rfl (by omega))).trans ((if_neg (own_ltF (x := p1.toInt) (y := (91)) rfl rfl (by omega))).trans ((if_neg (own_ltF (x := (94)) (y := p1.toInt) rfl rfl (by omega))).trans (rfl))))))
    exact e1.trans e2.symm
  by_cases k10 : p1.toInt < 95
  · have e1 : own_f0 p1 = (0 : Int32) := (if_neg (own_eqF (x := p1.toInt) (y := (58)) rfl rfl (by omega))).trans ((if_neg (own_ltF (x := p1.toInt) (y := (65)) rfl rfl (by omega))).trans ((if_pos (own_ltT (x := (90)) (y := p1.toInt) rfl rfl (by omega))).trans ((if_neg (own_eqF (x := p1.toInt) (y := (95)) rfl rfl (by omega))).trans ((if_pos (own_ltT (x := p1.toInt) (y := (97)) rfl rfl (by omega))).trans ((if_pos (own_ltT (x := p1.toInt) (y := (192)) rfl rfl (by omega))).trans ((if_pos (own_ltT (x := p1.toInt) (y := (216)) rfl rfl (by omega))).trans ((if_pos (own_ltT (x := p1.toInt) (y := (248)) rfl rfl (by omega))).trans ((if_pos (own_ltT (x := p1.toInt) (y := (880)) rfl rfl (by omega))).trans ((if_pos (own_ltT (x := p1.toInt) (y := (895)) rfl rfl (by omega))).trans ((if_pos (own_ltT (x := p1.toInt) (y := (8204)) rfl rfl (by omega))).trans ((if_pos (own_ltT (x := p1.toInt) (y := (8304)) rfl rfl (by omega))).trans ((if_pos (own_ltT (x := p1.toInt) (y := (11264)) rfl rfl (by omega))).trans ((if_pos (own_ltT (x := p1.toInt) (y := (12289)) rfl rfl (by omega))).trans ((if_pos (own_ltT (x := p1.toInt) (y := (63744)) rfl rfl (by omega))).trans ((if_pos (own_ltT (x := p1.toInt) (y := (65008)) rfl rfl (by omega))).trans ((if_pos (own_ltT (x := p1.toInt) (y := (65536)) rfl rfl (by omega))).trans (rfl)))))))))))))))))
    have e2 : own_g0 p1 = (0 : Int32) := (if_neg (own_ltF (x := p1.toInt) (y := (58)) rfl rfl (by omega))).trans ((if_neg (own_ltF (x := (983039)) (y := p1.toInt) rfl rfl (by omega))).trans ((if_neg (own_ltF (x := p1.toInt) (y := (59)) rfl rfl (by omega))).trans ((if_pos (own_ltT (x := (64)) (y := p1.toInt) rfl rfl (by omega))).trans ((if_neg (own_ltF (x := p1.toInt) (y := (91)) rfl rfl (by omega))).trans ((if_neg (own_ltF (x := (94)) (y := p1.toInt) rfl rfl (by omega))).trans (rfl))))))
    exact e1.trans e2.symm
  by_cases k11 : p1.toInt < 96
  · have e1 : own_f0 p1 = (1 : Int32) := (if_neg (own_eqF (x := p1.toInt) (y := (58)) rfl rfl (by omega))).trans ((if_neg (own_ltF (x := p1.toInt) (y := (65)) rfl rfl (by omega))).trans ((if_pos (own_ltT (x := (90)) (y := p1.toInt) rfl rfl (by omega))).trans ((if_pos (own_eqT (x := p1.toInt) (y := (95)) rfl rfl (by omega))).trans (rfl))))
    have e2 : own_g0 p1 = (1 : Int32) := (if_neg (own_ltF (x := p1.toInt) (y := (58)) rfl rfl (by omega))).trans ((if_neg (own_ltF (x := (983039)) (y := p1.toInt) rfl rfl (by omega))).trans ((if_neg (own_ltF (x := p1.toInt) (y := (59)) rfl rfl (by omega))).trans ((if_pos (own_ltT (x := (64)) (y := p1.toInt) rfl rfl (by omega))).trans ((if_neg (own_ltF (x := p1.toInt) (y := (91)) rfl rfl (by omega))).trans ((if_pos (own_ltT (x := (94)) (y := p1.toInt) rfl rfl (by omega))).trans ((if_neg (own_eqF (x := p1.toInt) (y := (96)) rfl rfl (by omega))).trans ((if_pos (own_ltT (x := p1.toInt) (y := (123)) rfl rfl (by omega))).trans ((if_neg (own_eqF (x := p1.toInt) (y := (215)) rfl rfl (by omega))).trans ((if_neg (own_eqF (x := p1.toInt) (y := (247)) rfl rfl (by omega))).trans ((if_pos (own_ltT (x := p1.toInt) (y := (768)) rfl rfl (by omega))).trans ((if_neg (own_eqF (x := p1.toInt) (y := (894)) rfl rfl (by omega))).trans ((if_pos (own_ltT (x := p1.toInt) (y := (8192)) rfl rfl (by omega))).trans ((if_pos (own_ltT (x := p1.toInt) (y := (8206)) rfl rfl (by omega))).trans ((if_pos (own_ltT (x := p1.toInt) (y := (8592)) rfl rfl (by omega))).trans ((if_pos (own_ltT (x := p1.toInt) (y := (12272)) rfl rfl (by omega))).trans ((if_pos (own_ltT (x := p1.toInt) (y := (55296)) rfl rfl (by omega))).trans ((if_pos (own_ltT (x := p1.toInt) (y := (64976)) rfl rfl (by omega))).trans ((if_pos (own_ltT (x := p1.toInt) (y := (65534)) rfl rfl (by omega))).trans (rfl)))))))))))))))))))
    exact e1.trans e2.symm
  by_cases k12 : p1.toInt < 97
  · have e1 : own_f0 p1 = (0 : Int32) := (if_neg (own_eqF (x := p1.toInt) (y := (58)) rfl rfl (by omega))).trans ((if_neg (own_ltF (x := p1.toInt) (y := (65)) rfl rfl (by omega))).trans ((if_pos (own_ltT (x := (90)) (y := p1.toInt) rfl rfl (by omega))).trans ((if_neg (own_eqF (x := p1.toInt) (y := (95)) rfl rfl (by omega))).trans ((if_pos (own_ltT (x := p1.toInt) (y := (97)) rfl rfl (by omega))).trans ((if_pos (own_ltT (x := p1.toInt) (y := (192)) rfl rfl (by omega))).trans ((if_pos (own_ltT (x := p1.toInt) (y := (216)) rfl rfl (by omega))).trans ((if_pos (own_ltT (x := p1.toInt) (y := (248)) rfl rfl (by omega))).trans ((if_pos (own_ltT (x := p1.toInt) (y := (880)) rfl rfl (by omega))).trans ((if_pos (own_ltT (x := p1.toInt) (y := (895)) rfl rfl (by omega))).trans ((if_pos (own_ltT (x := p1.toInt) (y := (8204)) rfl rfl (by omega))).trans ((if_pos (own_ltT (x := p1.toInt) (y := (8304)) rfl rfl (by omega))).trans ((if_pos (own_ltT (x := p1.toInt) (y := (11264)) rfl rfl (by omega))).trans ((if_pos (own_ltT (x := p1.toInt) (y := (12289)) rfl rfl (by omega))).trans ((if_pos (own_ltT (x := p1.toInt) (y := (63744)) rfl rfl (by omega))).trans ((if_pos (own_ltT (x := p1.toInt) (y := (65008)) rfl rfl (by omega))).trans ((if_pos (own_ltT (x := p1.toInt) (y := (65536)) rfl rfl (by omega))).trans (rfl)))))))))))))))))
    have e2 : own_g0 p1 = (0 : Int32) := (if_neg (own_ltF (x := p1.toInt) (y := (58)) rfl rfl (by omega))).trans ((if_neg (own_ltF (x := (983039)) (y := p1.toInt) rfl rfl (by omega))).trans ((if_neg (own_ltF (x := p1.toInt) (y := (59)) rfl rfl (by omega))).trans ((if_pos (own_ltT (x := (64)) (y := p1.toInt) rfl rfl (by omega))).trans ((if_neg (own_ltF (x := p1.toInt) (y := (91)) rfl rfl (by omega))).trans ((if_pos (own_ltT (x := (94)) (y := p1.toInt) rfl rfl (by omega))).trans ((if_pos (own_eqT (x := p1.toInt) (y := (96)) rfl rfl (by omega))).trans (rfl)))))))
    exact e1.trans e2.symm
  by_cases k13 : p1.toInt < 98
  · have e1 : own_f0 p1 = (1 : Int32) := (if_neg (own_eqF (x := p1.toInt) (y := (58)) rfl rfl (by omega))).trans ((if_neg (own_ltF (x := p1.toInt) (y := (65)) rfl rfl (by omega))).trans ((if_pos (own_ltT (x := (90)) (y := p1.toInt) rfl rfl (by omega))).trans ((if_neg (own_eqF (x := p1.toInt) (y := (95)) rfl rfl (by omega))).trans ((if_neg (own_ltF (x := p1.toInt) (y := (97)) rfl rfl (by omega))).trans ((if_neg (own_ltF (x := (122)) (y := p1.toInt) rfl rfl (by omega))).trans (rfl))))))
    have e2 : own_g0 p1 = (1 : Int32) := (if_neg (own_ltF (x := p1.toInt) (y := (58)) rfl rfl (by omega))).trans ((if_neg (own_ltF (x := (983039)) (y := p1.toInt) rfl rfl (by omega))).trans ((if_neg (own_ltF (x := p1.toInt) (y := (59)) rfl rfl (by omega))).trans ((if_pos (own_ltT (x := (64)) (y := p1.toInt) rfl rfl (by omega))).trans ((if_neg (own_ltF (x := p1.toInt) (y := (91)) rfl rfl (by omega))).trans ((if_pos (own_ltT (x := (94)) (y := p1.toInt) rfl rfl (by omega))).trans ((if_neg (own_eqF (x := p1.toInt) (y := (96)) rfl rfl (by omega))).trans ((if_pos (own_ltT (x := p1.toInt) (y := (123)) rfl rfl (by omega))).trans ((if_neg (own_eqF (x := p1.toInt) (y := (215)) rfl rfl (by omega))).trans ((if_neg (own_eqF (x := p1.toInt) (y := (247)) rfl rfl (by omega))).trans ((if_pos (own_ltT (x := p1.toInt) (y := (768)) rfl rfl (by omega))).trans ((if_neg (own_eqF (x := p1.toInt) (y := (894)) rfl rfl (by omega))).trans ((if_pos (own_ltT (x := p1.toInt) (y := (8192)) rfl rfl (by omega))).trans ((if_pos (own_ltT (x := p1.toInt) (y := (8206)) rfl rfl (by omega))).trans ((if_pos (own_ltT (x := p1.toInt) (y := (8592)) rfl rfl (by omega))).trans ((if_pos (own_ltT (x := p1.toInt) (y := (12272)) rfl rfl (by omega))).trans ((if_pos (own_ltT (x := p1.toInt) (y := (55296)) rfl rfl (by omega))).trans ((if_pos (own_ltT (x := p1.toInt) (y := (64976)) rfl rfl (by omega))).trans ((if_pos (own_ltT (x := p1.toInt) (y := (65534)) rfl rfl (by omega))).trans (rfl)))))))))))))))))))
    exact e1.trans e2.symm
  by_cases k14 : p1.toInt < 122
  · have e1 : own_f0 p1 = (1 : Int32) := (if_neg (own_eqF (x := p1.toInt) (y := (58)) rfl rfl (by omega))).trans ((if_neg (own_ltF (x := p1.toInt) (y := (65)) rfl rfl (by omega))).trans ((if_pos (own_ltT (x := (90)) (y := p1.toInt) rfl rfl (by omega))).trans ((if_neg (own_eqF (x := p1.toInt) (y := (95)) rfl rfl (by omega))).trans ((if_neg (own_ltF (x := p1.toInt) (y := (97)) rfl rfl (by omega))).trans ((if_neg (own_ltF (x := (122)) (y := p1.toInt) rfl rfl (by omega))).trans (rfl))))))
    have e2 : own_g0 p1 = (1 : Int32) := (if_neg (own_ltF (x := p1.toInt) (y := (58)) rfl rfl (by omega))).trans ((if_neg (own_ltF (x := (983039)) (y := p1.toInt) rfl rfl (by omega))).trans ((if_neg (own_ltF (x := p1.toInt) (y := (59)) rfl rfl (by omega))).trans ((if_pos (own_ltT (x := (64)) (y := p1.toInt) rfl rfl (by omega))).trans ((if_neg (own_ltF (x := p1.toInt) (y := (91)) rfl rfl (by omega))).trans ((if_pos (own_ltT (x := (94)) (y := p1.toInt) rfl rfl (by omega))).trans ((if_neg (own_eqF (x := p1.toInt) (y := (96)) rfl rfl (by omega))).trans ((if_pos (own_ltT (x := p1.toInt) (y := (123)) rfl rfl (by omega))).trans ((if_neg (own_eqF (x := p1.toInt) (y := (215)) rfl rfl (by omega))).trans ((if_neg (own_eqF (x := p1.toInt) (y := (247)) rfl rfl (by omega))).trans ((if_pos (own_ltT (x := p1.toInt) (y := (768)) rfl rfl (by omega))).trans ((if_neg (own_eqF (x := p1.toInt) (y := (894)) rfl rfl (by omega))).trans ((if_pos (own_ltT (x := p1.toInt) (y := (8192)) rfl rfl (by omega))).trans ((if_pos (own_ltT (x := p1.toInt) (y := (8206)) rfl rfl (by omega))).trans ((if_pos (own_ltT (x := p1.toInt) (y := (8592)) rfl rfl (by omega))).trans ((if_pos (own_ltT (x := p1.toInt) (y := (12272)) rfl rfl (by omega))).trans ((if_pos (own_ltT (x := p1.toInt) (y := (55296)) rfl rfl (by omega))).trans ((if_pos (own_ltT (x := p1.toInt) (y := (64976)) rfl rfl (by omega))).trans ((if_pos (own_ltT (x := p1.toInt) (y := (65534)) rfl rfl (by omega))).trans (rfl)))))))))))))))))))
    exact e1.trans e2.symm
  by_cases k15 : p1.toInt < 123
  · have e1 : own_f0 p1 = (1 : Int32) := (if_neg (own_eqF (x := p1.toInt) (y := (58)) rfl rfl (by omega))).trans ((if_neg (own_ltF (x := p1.toInt) (y := (65)) rfl rfl (by omega))).trans ((if_pos (own_ltT (x := (90)) (y := p1.toInt) rfl rfl (by omega))).trans ((if_neg (own_eqF (x := p1.toInt) (y := (95)) rfl rfl (by omega))).trans ((if_neg (own_ltF (x := p1.toInt) (y := (97)) rfl rfl (by omega))).trans ((if_neg (own_ltF (x := (122)) (y := p1.toInt) rfl rfl (by omega))).trans (rfl))))))
    have e2 : own_g0 p1 = (1 : Int32) := (if_neg (own_ltF (x := p1.toInt) (y := (58)) rfl rfl (by omega))).trans ((if_neg (own_ltF (x := (983039)) (y := p1.toInt) rfl rfl (by omega))).trans ((if_neg (own_ltF (x := p1.toInt) (y := (59)) rfl rfl (by omega))).trans ((if_pos (own_ltT (x := (64)) (y := p1.toInt) rfl rfl (by omega))).trans ((if_neg (own_ltF (x := p1.toInt) (y := (91)) rfl rfl (by omega))).trans ((if_pos (own_ltT (x := (94)) (y := p1.toInt) rfl rfl (by omega))).trans ((if_neg (own_eqF (x := p1.toInt) (y := (96)) rfl rfl (by omega))).trans ((if_pos (own_ltT (x := p1.toInt) (y := (123)) rfl rfl (by omega))).trans ((if_neg (own_eqF (x := p1.toInt) (y := (215)) rfl rfl (by omega))).trans ((if_neg (own_eqF (x := p1.toInt) (y := (247)) rfl rfl (by omega))).trans ((if_pos (own_ltT (x := p1.toInt) (y := (768)) rfl rfl (by omega))).trans ((if_neg (own_eqF (x := p1.toInt) (y := (894)) rfl rfl (by omega))).trans ((if_pos (own_ltT (x := p1.toInt) (y := (8192)) rfl rfl (by omega))).trans ((if_pos (own_ltT (x := p1.toInt) (y := (8206)) rfl rfl (by omega))).trans ((if_pos (own_ltT (x := p1.toInt) (y := (8592)) rfl rfl (by omega))).trans ((if_pos (own_ltT (x := p1.toInt) (y := (12272)) rfl rfl (by omega))).trans ((if_pos (own_ltT (x := p1.toInt) (y := (55296)) rfl rfl (by omega))).trans ((if_pos (own_ltT (x := p1.toInt) (y := (64976)) rfl rfl (by omega))).trans ((if_pos (own_ltT (x := p1.toInt) (y := (65534)) rfl rfl (by omega))).trans (rfl)))))))))))))))))))
    exact e1.trans e2.symm
  by_cases k16 : p1.toInt < 124
  · have e1 : own_f0 p1 = (0 : Int32) := (if_neg (own_eqF (x := p1.toInt) (y := (58)) rfl rfl (by omega))).trans ((if_neg (own_ltF (x := p1.toInt) (y := (65)) rfl rfl (by omega))).trans ((if_pos (own_ltT (x := (90)) (y := p1.toInt) rfl rfl (by omega))).trans ((if_neg (own_eqF (x := p1.toInt) (y := (95)) rfl rfl (by omega))).trans ((if_neg (own_ltF (x := p1.toInt) (y := (97)) rfl rfl (by omega))).trans ((if_pos (own_ltT (x := (122)) (y := p1.toInt) rfl rfl (by omega))).trans ((if_pos (own_ltT (x := p1.toInt) (y := (192)) rfl rfl (by omega))).trans ((if_pos (own_ltT (x := p1.toInt) (y := (216)) rfl rfl (by omega))).trans ((if_pos (own_ltT (x := p1.toInt) (y := (248)) rfl rfl (by omega))).trans ((if_pos (own_ltT (x := p1.toInt) (y := (880)) rfl rfl (by omega))).trans ((if_pos (own_ltT (x := p1.toInt) (y := (895)) rfl rfl (by omega))).trans ((if_pos (own_ltT (x := p1.toInt) (y := (8204)) rfl rfl (by omega))).trans ((if_pos (own_ltT (x := p1.toInt) (y := (8304)) rfl rfl (by omega))).trans ((if_pos (own_ltT (x := p1.toInt) (y := (11264)) rfl rfl (by omega))).trans ((if_pos (own_ltT (x := p1.toInt) (y := (12289)) rfl rfl (by omega))).trans ((if_pos (own_ltT (x := p1.toInt) (y := (63744)) rfl rfl (by omega))).trans ((if_pos (own_ltT (x := p1.toInt) (y := (65008)) rfl rfl (by omega))).trans ((if_pos (own_ltT (x := p1.toInt) (y := (65536)) rfl rfl (by omega))).trans (rfl))))))))))))))))))
    have e2 : own_g0 p1 = (0 : Int32) := (if_neg (own_ltF (x := p1.toInt) (y := (58)) rfl rfl (by omega))).trans ((if_neg (own_ltF (x := (983039)) (y := p1.toInt) rfl rfl (by omega))).trans ((if_neg (own_ltF (x := p1.toInt) (y := (59)) rfl rfl (by omega))).trans ((if_pos (own_ltT (x := (64)) (y := p1.toInt) rfl rfl (by omega))).trans ((if_neg (own_ltF (x := p1.toInt) (y := (91)) rfl rfl (by omega))).trans ((if_pos (own_ltT (x := (94)) (y := p1.toInt) rfl rfl (by omega))).trans ((if_neg (own_eqF (x := p1.toInt) (y := (96)) rfl rfl (by omega))).trans ((if_neg (own_ltF (x := p1.toInt) (y := (123)) rfl rfl (by omega))).trans ((if_neg (own_ltF (x := (191)) (y := p1.toInt) rfl rfl (by omega))).trans (rfl)))))))))
    exact e1.trans e2.symm
  by_cases k17 : p1.toInt < 191
  · have e1 : own_f0 p1 = (0 : Int32) := (if_neg (own_eqF (x := p1.toInt) (y := (58)) rfl rfl (by omega))).trans ((if_neg (own_ltF (x := p1.toInt) (y := (65)) rfl rfl (by omega))).trans ((if_pos (own_ltT (x := (90)) (y := p1.toInt) rfl rfl (by omega))).trans ((if_neg (own_eqF (x := p1.toInt) (y := (95)) rfl rfl (by omega))).trans ((if_neg (own_ltF (x := p1.toInt) (y := (97)) rfl rfl (by omega))).trans ((if_pos (own_ltT (x := (122)) (y := p1.toInt) rfl rfl (by omega))).trans ((if_pos (own_ltT (x := p1.toInt) (y := (192)) rfl rfl (by omega))).trans ((if_pos (own_ltT (x := p1.toInt) (y := (216)) rfl rfl (by omega))).trans ((if_pos (own_ltT (x := p1.toInt) (y := (248)) rfl rfl (by omega))).trans ((if_pos (own_ltT (x := p1.toInt) (y := (880)) rfl rfl (by omega))).trans ((if_pos (own_ltT (x := p1.toInt) (y := (895)) rfl rfl (by omega))).trans ((if_pos (own_ltT (x := p1.toInt) (y := (8204)) rfl rfl (by omega))).trans ((if_pos (own_ltT (x := p1.toInt) (y := (8304)) rfl rfl (by omega))).trans ((if_pos (own_ltT (x := p1.toInt) (y := (11264)) rfl rfl (by omega))).trans ((if_pos (own_ltT (x := p1.toInt) (y := (12289)) rfl rfl (by omega))).trans ((if_pos (own_ltT (x := p1.toInt) (y := (63744)) rfl rfl (by omega))).trans ((if_pos (own_ltT (x := p1.toInt) (y := (65008)) rfl rfl (by omega))).trans ((if_pos (own_ltT (x := p1.toInt) (y := (65536)) rfl rfl (by omega))).trans (rfl))))))))))))))))))
    have e2 : own_g0 p1 = (0 : Int32) := (if_neg (own_ltF (x := p1.toInt) (y := (58)) rfl rfl (by omega))).trans ((if_neg (own_ltF (x := (983039)) (y := p1.toInt) rfl rfl (by omega))).trans ((if_neg (own_ltF (x := p1.toInt) (y := (59)) rfl rfl (by omega))).trans ((if_pos (own_ltT (x := (64)) (y := p1.toInt) rfl rfl (by omega))).trans ((if_neg (own_ltF (x := p1.toInt) (y := (91)) rfl rfl (by omega))).trans ((if_pos (own_ltT (x := (94)) (y := p1.toInt) rfl rfl (by omega))).trans ((if_neg (own_eqF (x := p1.toInt) (y := (96)) rfl rfl (by omega))).trans ((if_neg (own_ltF (x := p1.toInt) (y := (123)) rfl rfl (by omega))).trans ((if_neg (own_ltF (x := (191)) (y := p1.toInt) rfl rfl (by omega))).trans (rfl)))))))))
    exact e1.trans e2.symm
  by_cases k18 : p1.toInt < 192
  · have e1 : own_f0 p1 = (0 : Int32) := (if_neg (own_eqF (x := p1.toInt) (y := (58)) rfl rfl (by omega))).trans ((if_neg (own_ltF (x := p1.toInt) (y := (65)) rfl rfl (by omega))).trans ((if_pos (own_ltT (x := (90)) (y := p1.toInt) rfl rfl (by omega))).trans ((if_neg (own_eqF (x := p1.toInt) (y := (95)) rfl rfl (by omega))).trans ((if_neg (own_ltF (x := p1.toInt) (y := (97)) rfl rfl (by omega))).trans ((if_pos (own_ltT (x := (122)) (y := p1.toInt) rfl rfl (by omega))).trans ((if_pos (own_ltT (x := p1.toInt) (y := (192)) rfl rfl (by omega))).trans ((if_pos (own_ltT (x := p1.toInt) (y := (216)) rfl rfl (by omega))).trans ((if_pos (own_ltT (x := p1.toInt) (y := (248)) rfl rfl (by omega))).trans ((if_pos (own_ltT (x := p1.toInt) (y := (880)) rfl rfl (by omega))).trans ((if_pos (own_ltT (x := p1.toInt) (y := (895)) rfl rfl (by omega))).trans ((if_pos (own_ltT (x := p1.toInt) (y := (8204)) rfl rfl (by omega))).trans ((if_pos (own_ltT (x := p1.toInt) (y := (8304)) rfl rfl (by omega))).trans ((if_pos (own_ltT (x := p1.toInt) (y := (11264)) rfl rfl (by omega))).trans ((if_pos (own_ltT (x := p1.toInt) (y := (12289)) rfl rfl (by omega))).trans ((if_pos (own_ltT (x := p1.toInt) (y := (63744)) rfl rfl (by omega))).trans ((if_pos (own_ltT (x := p1.toInt) (y := (65008)) rfl rfl (by omega))).trans ((if_pos (own_ltT (x := p1.toInt) (y := (65536)) rfl rfl (by omega))).trans (rfl))))))))))))))))))
    have e2 : own_g0 p1 = (0 : Int32) := (if_neg (own_ltF (x := p1.toInt) (y := (58)) rfl rfl (by omega))).trans ((if_neg (own_ltF (x := (983039)) (y := p1.toInt) rfl rfl (by omega))).trans ((if_neg (own_ltF (x := p1.toInt) (y := (59)) rfl rfl (by omega))).trans ((if_pos (own_ltT (x := (64)) (y := p1.toInt) rfl rfl (by omega))).trans ((if_neg (own_ltF (x := p1.toInt) (y := (91)) rfl rfl (by omega))).trans ((if_pos (own_ltT (x := (94)) (y := p1.toInt) rfl rfl (by omega))).trans ((if_neg (own_eqF (x := p1.toInt) (y := (96)) rfl rfl (by omega))).trans ((if_neg (own_ltF (x := p1.toInt) (y := (123)) rfl rfl (by omega))).trans ((if_neg (own_ltF (x := (191)) (y := p1.toInt) rfl rfl (by omega))).trans (rfl)))))))))
    exact e1.trans e2.symm
  by_cases k19 : p1.toInt < 193
  · have e1 : own_f0 p1 = (1 : Int32) := (if_neg (own_eqF (x := p1.toInt) (y := (58)) rfl rfl (by omega))).trans ((if_neg (own_ltF (x := p1.toInt) (y := (65)) rfl rfl (by omega))).trans ((if_pos (own_ltT (x := (90)) (y := p1.toInt) rfl rfl (by omega))).trans ((if_neg (own_eqF (x := p1.toInt) (y := (95)) rfl rfl (by omega))).trans ((if_neg (own_ltF (x := p1.toInt) (y := (97)) rfl rfl (by omega))).trans ((if_pos (own_ltT (x := (122)) (y := p1.toInt) rfl rfl (by omega))).trans ((if_neg (own_ltF (x := p1.toInt) (y := (192)) rfl rfl (by omega))).trans ((if_neg (own_ltF (x := (214)) (y := p1.toInt) rfl rfl (by omega))).trans (rfl))))))))
    have e2 : own_g0 p1 = (1 : Int32) := (if_neg (own_ltF (x := p1.toInt) (y := (58)) rfl rfl (by omega))).trans ((if_neg (own_ltF (x := (983039)) (y := p1.toInt) rfl rfl (by omega))).trans ((if_neg (own_ltF (x := p1.toInt) (y := (59)) rfl rfl (by omega))).trans ((if_pos (own_ltT (x := (64)) (y := p1.toInt) rfl rfl (by omega))).trans ((if_neg (own_ltF (x := p1.toInt) (y := (91)) rfl rfl (by omega))).trans ((if_pos (own_ltT (x := (94)) (y := p1.toInt) rfl rfl (by omega))).trans ((if_neg (own_eqF (x := p1.toInt) (y := (96)) rfl rfl (by omega))).trans ((if_neg (own_ltF (x := p1.toInt) (y := (123)) rfl rfl (by omega))).trans ((if_pos (own_ltT (x := (191)) (y := p1.toInt) rfl rfl (by omega))).trans ((if_neg (own_eqF (x := p1.toInt) (y := (215)) rfl rfl (by omega))).trans ((if_neg (own_eqF (x := p1.toInt) (y := (247)) rfl rfl (by omega))).trans ((if_pos (own_ltT (x := p1.toInt) (y := (768)) rfl rfl (by omega))).trans ((if_neg (own_eqF (x := p1.toInt) (y := (894)) rfl rfl (by omega))).trans ((if_pos (own_ltT (x := p1.toInt) (y := (8192)) rfl rfl (by omega))).trans ((if_pos (own_ltT (x := p1.toInt) (y := (8206)) rfl rfl (by omega))).trans ((if_pos (own_ltT (x := p1.toInt) (y := (8592)) rfl rfl (by omega))).trans ((if_pos (own_ltT (x := p1.toInt) (y := (12272)) rfl rfl (by omega))).trans ((if_pos (own_ltT (x := p1.toInt) (y := (55296)) rfl rfl (by omega))).trans ((if_pos (own_ltT (x := p1.toInt) (y := (64976)) rfl rfl (by omega))).trans ((if_pos (own_ltT (x := p1.toInt) (y := (65534)) rfl rfl (by omega))).trans (rfl))))))))))))))))))))
    exact e1.trans e2.symm
  by_cases k20 : p1.toInt < 214
  · have e1 : own_f0 p1 = (1 : Int32) := (if_neg (own_eqF (x := p1.toInt) (y := (58)) rfl rfl (by omega))).trans ((if_neg (own_ltF (x := p1.toInt) (y := (65)) rfl rfl (by omega))).trans ((if_pos (own_ltT (x := (90)) (y := p1.toInt) rfl rfl (by omega))).trans ((if_neg (own_eqF (x := p1.toInt) (y := (95)) rfl rfl (by omega))).trans ((if_neg (own_ltF (x := p1.toInt) (y := (97)) rfl rfl (by omega))).trans ((if_pos (own_ltT (x := (122)) (y := p1.toInt) rfl rfl (by omega))).trans ((if_neg (own_ltF (x := p1.toInt) (y := (192)) rfl rfl (by omega))).trans ((if_neg (own_ltF (x := (214)) (y := p1.toInt) rfl rfl (by omega))).trans (rfl))))))))
    have e2 : own_g0 p1 = (1 : Int32) := (if_neg (own_ltF (x := p1.toInt) (y := (58)) rfl rfl (by omega))).trans ((if_neg (own_ltF (x := (983039)) (y := p1.toInt) rfl rfl (by omega))).trans ((if_neg (own_ltF (x := p1.toInt) (y := (59)) rfl rfl (by omega))).trans ((if_pos (own_ltT (x := (64)) (y := p1.toInt) rfl rfl (by omega))).trans ((if_neg (own_ltF (x := p1.toInt) (y := (91)) rfl rfl (by omega))).trans ((if_pos (own_ltT (x := (94)) (y := p1.toInt) rfl rfl (by omega))).trans ((if_neg (own_eqF (x := p1.toInt) (y := (96)) rfl rfl (by omega))).trans ((if_neg (own_ltF (x := p1.toInt) (y := (123)) rfl rfl (by omega))).trans ((if_pos (own_ltT (x := (191)) (y := p1.toInt) rfl rfl (by omega))).trans ((if_neg (own_eqF (x := p1.toInt) (y := (215)) rfl rfl (by omega))).trans ((if_neg (own_eqF (x := p1.toInt) (y := (247)) rfl rfl (by omega))).trans ((if_pos (own_ltT (x := p1.toInt) (y := (768)) rfl rfl (by omega))).trans ((if_neg (own_eqF (x := p1.toInt) (y := (894)) rfl rfl (by omega))).trans ((if_pos (own_ltT (x := p1.toInt) (y := (8192)) rfl rfl (by omega))).trans ((if_pos (own_ltT (x := p1.toInt) (y := (8206)) rfl rfl (by omega))).trans ((if_pos (own_ltT (x := p1.toInt) (y := (8592)) rfl rfl (by omega))).trans ((if_pos (own_ltT (x := p1.toInt) (y := (12272)) rfl rfl (by omega))).trans ((if_pos (own_ltT (x := p1.toInt) (y := (55296)) rfl rfl (by omega))).trans ((if_pos (own_ltT (x := p1.toInt) (y := (64976)) rfl rfl (by omega))).trans ((if_pos (own_ltT (x := p1.toInt) (y := (65534)) rfl rfl (by omega))).trans (rfl))))))))))))))))))))
    exact e1.trans e2.symm
  by_cases k21 : p1.toInt < 215
  · have e1 : own_f0 p1 = (1 : Int32) := (if_neg (own_eqF (x := p1.toInt) (y := (58)) rfl rfl (by omega))).trans ((if_neg (own_ltF (x := p1.toInt) (y := (65)) rfl rfl (by omega))).trans ((if_pos (own_ltT (x := (90)) (y := p1.toInt) rfl rfl (by omega))).trans ((if_neg (own_eqF (x := p1.toInt) (y := (95)) rfl rfl (by omega))).trans ((if_neg (own_ltF (x := p1.toInt) (y := (97)) rfl rfl (by omega))).trans ((if_pos (own_ltT (x := (122)) (y := p1.toInt) rfl rfl (by omega))).trans ((if_neg (own_ltF (x := p1.toInt) (y := (192)) rfl rfl (by omega))).trans ((if_neg (own_ltF (x := (214)) (y := p1.toInt) rfl rfl (by omega))).trans (rfl))))))))
    have e2 : own_g0 p1 = (1 : Int32) := (if_neg (own_ltF (x := p1.toInt) (y := (58)) rfl rfl (by omega))).trans ((if_neg (own_ltF (x := (983039)) (y := p1.toInt) rfl rfl (by omega))).trans ((if_neg (own_ltF (x := p1.toInt) (y := (59)) rfl rfl (by omega))).trans ((if_pos (own_ltT (x := (64)) (y := p1.toInt) rfl rfl (by omega))).trans ((if_neg (own_ltF (x := p1.toInt) (y := (91)) rfl rfl (by omega))).trans ((if_pos (own_ltT (x := (94)) (y := p1.toInt) rfl rfl (by omega))).trans ((if_neg (own_eqF (x := p1.toInt) (y := (96)) rfl rfl (by omega))).trans ((if_neg (own_ltF (x := p1.toInt) (y := (123)) rfl rfl (by omega))).trans ((if_pos (own_ltT (x := (191)) (y := p1.toInt) rfl rfl (by omega))).trans ((if_neg (own_eqF (x := p1.toInt) (y := (215)) rfl rfl (by omega))).trans ((if_neg (own_eqF (x := p1.toInt) (y := (247)) rfl rfl (by omega))).trans ((if_pos (own_ltT (x := p1.toInt) (y := (768)) rfl rfl (by omega))).trans ((if_neg (own_eqF (x := p1.toInt) (y := (894)) rfl rfl (by omega))).trans ((if_pos (own_ltT (x := p1.toInt) (y := (8192)) rfl rfl (by omega))).trans ((if_pos (own_ltT (x := p1.toInt) (y := (8206)) rfl rfl (by omega))).trans ((if_pos (own_ltT (x := p1.toInt) (y := (8592)) rfl rfl (by omega))).trans ((if_pos (own_ltT (x := p1.toInt) (y := (12272)) rfl rfl (by omega))).trans ((if_pos (own_ltT (x := p1.toInt) (y := (55296)) rfl rfl (by omega))).trans ((if_pos (own_ltT (x := p1.toInt) (y := (64976)) rfl rfl (by omega))).trans ((if_pos (own_ltT (x := p1.toInt) (y := (65534)) rfl rfl (by omega))).trans (rfl))))))))))))))))))))
    exact e1.trans e2.symm
  by_cases k22 : p1.toInt < 216
  · have e1 : own_f0 p1 = (0 : Int32) := (if_neg (own_eqF (x := p1.toInt) (y := (58)) rfl rfl (by omega))).trans ((if_neg (own_ltF (x := p1.toInt) (y := (65)) rfl rfl (by omega))).trans ((if_pos (own_ltT (x := (90)) (y := p1.toInt) rfl rfl (by omega))).trans ((if_neg (own_eqF (x := p1.toInt) (y := (95)) rfl rfl (by omega))).trans ((if_neg (own_ltF (x := p1.toInt) (y := (97)) rfl rfl (by omega))).trans ((if_pos (own_ltT (x := (122)) (y := p1.toInt) rfl rfl (by omega))).trans ((if_neg (own_ltF (x := p1.toInt) (y := (192)) rfl rfl (by omega))).trans ((if_pos (own_ltT (x := (214)) (y := p1.toInt) rfl rfl (by omega))).trans ((if_pos (own_ltT (x := p1.toInt) (y := (216)) rfl rfl (by omega))).trans ((if_pos (own_ltT (x := p1.toInt) (y := (248)) rfl rfl (by omega))).trans ((if_pos (own_ltT (x := p1.toInt) (y := (880)) rfl rfl (by omega))).trans ((if_pos (own_ltT (x := p1.toInt) (y := (895)) rfl rfl (by omega))).trans ((if_pos (own_ltT (x := p1.toInt) (y := (8204)) rfl rfl (by omega))).trans ((if_pos (own_ltT (x := p1.toInt) (y := (8304)) rfl rfl (by omega))).trans ((if_pos (own_ltT (x := p1.toInt) (y := (11264)) rfl rfl (by omega))).trans ((if_pos (own_ltT (x := p1.toInt) (y := (12289)) rfl rfl (by omega))).trans ((if_pos (own_ltT (x := p1.toInt) (y := (63744)) rfl rfl (by omega))).trans ((if_pos (own_ltT (x := p1.toInt) (y := (65008)) rfl rfl (by omega))).trans ((if_pos (own_ltT (x := p1.toInt) (y := (65536)) rfl rfl (by omega))).trans (rfl)))))))))))))))))))
    have e2 : own_g0 p1 = (0 : Int32) := (if_neg (own_ltF (x := p1.toInt) (y := (58)) rfl rfl (by omega))).trans ((if_neg (own_ltF (x := (983039)) (y := p1.toInt) rfl rfl (by omega))).trans ((if_neg (own_ltF (x := p1.toInt) (y := (59)) rfl rfl (by omega))).trans ((if_pos (own_ltT (x := (64)) (y := p1.toInt) rfl rfl (by omega))).trans ((if_neg (own_ltF (x := p1.toInt) (y := (91)) rfl rfl (by omega))).trans ((if_pos (own_ltT (x := (94)) (y := p1.toInt) rfl rfl (by omega))).trans ((if_neg (own_eqF (x := p1.toInt) (y := (96)) rfl rfl (by omega))).trans ((if_neg (own_ltF (x := p1.toInt) (y := (123)) rfl rfl (by omega))).trans ((if_pos (own_ltT (x := (191)) (y := p1.toInt) rfl rfl (by omega))).trans ((if_pos (own_eqT (x := p1.toInt) (y := (215)) rfl rfl (by omega))).trans (rfl))))))))))
    exact e1.trans e2.symm
  by_cases k23 : p1.toInt < 217
  · have e1 : own_f0 p1 = (1 : Int32) := (if_neg (own_eqF (x := p1.toInt) (y := (58)) rfl rfl (by omega))).trans ((if_neg (own_ltF (x := p1.toInt) (y := (65)) rfl rfl (by omega))).trans ((if_pos (own_ltT (x := (90)) (y := p1.toInt) rfl rfl (by omega))).trans ((if_neg (own_eqF (x := p1.toInt) (y := (95)) rfl rfl (by omega))).trans ((if_neg (own_ltF (x := p1.toInt) (y := (97)) rfl rfl (by omega))).trans ((if_pos (own_ltT (x := (122)) (y := p1.toInt) rfl rfl (by omega))).trans ((if_neg (own_ltF (x := p1.toInt) (y := (192)) rfl rfl (by omega))).trans ((if_pos (own_ltT (x := (214)) (y := p1.toInt) rfl rfl (by omega))).trans ((if_neg (own_ltF (x := p1.toInt) (y := (216)) rfl rfl (by omega))).trans ((if_neg (own_ltF (x := (246)) (y := p1.toInt) rfl rfl (by omega))).trans (rfl))))))))))
    have e2 : own_g0 p1 = (1 : Int32) := (if_neg (own_ltF (x := p1.toInt) (y := (58)) rfl rfl (by omega))).trans ((if_neg (own_ltF (x := (983039)) (y := p1.toInt) rfl rfl (by omega))).trans ((if_neg (own_ltF (x := p1.toInt) (y := (59)) rfl rfl (by omega))).trans ((if_pos (own_ltT (x := (64)) (y := p1.toInt) rfl rfl (by omega))).trans ((if_neg (own_ltF (x := p1.toInt) (y := (91)) rfl rfl (by omega))).trans ((if_pos (own_ltT (x := (94)) (y := p1.toInt) rfl rfl (by omega))).trans ((if_neg (own_eqF (x := p1.toInt) (y := (96)) rfl rfl (by omega))).trans ((if_neg (own_ltF (x := p1.toInt) (y := (123)) rfl rfl (by omega))).trans ((if_pos (own_ltT (x := (191)) (y := p1.toInt) rfl rfl (by omega))).trans ((if_neg (own_eqF (x := p1.toInt) (y := (215)) rfl rfl (by omega))).trans ((if_neg (own_eqF (x := p1.toInt) (y := (247)) rfl rfl (by omega))).trans ((if_pos (own_ltT (x := p1.toInt) (y := (768)) rfl rfl (by omega))).trans ((if_neg (own_eqF (x := p1.toInt) (y := (894)) rfl rfl (by omega))).trans ((if_pos (own_ltT (x := p1.toInt) (y := (8192)) rfl rfl (by omega))).trans ((if_pos (own_ltT (x := p1.toInt) (y := (8206)) rfl rfl (by omega))).trans ((if_pos (own_ltT (x := p1.toInt) (y := (8592)) rfl rfl (by omega))).trans ((if_pos (own_ltT (x := p1.toInt) (y := (12272)) rfl rfl (by omega))).trans ((if_pos (own_ltT (x := p1.toInt) (y := (55296)) rfl rfl (by omega))).trans ((if_pos (own_ltT (x := p1.toInt) (y := (64976)) rfl rfl (by omega))).trans ((if_pos (own_ltT (x := p1.toInt) (y := (65534)) rfl rfl (by omega))).trans (rfl))))))))))))))))))))
    exact e1.trans e2.symm
  by_cases k24 : p1.toInt < 246
  · have e1 : own_f0 p1 = (1 : Int32) := (if_neg (own_eqF (x := p1.toInt) (y := (58)) rfl rfl (by omega))).trans ((if_neg (own_ltF (x := p1.toInt) (y := (65)) rfl rfl (by omega))).trans ((if_pos (own_ltT (x := (90)) (y := p1.toInt) rfl rfl (by omega))).trans ((if_neg (own_eqF (x := p1.toInt) (y := (95)) rfl rfl (by omega))).trans ((if_neg (own_ltF (x := p1.toInt) (y := (97)) rfl rfl (by omega))).trans ((if_pos (own_ltT (x := (122)) (y := p1.toInt) rfl rfl (by omega))).trans ((if_neg (own_ltF (x := p1.toInt) (y := (192)) rfl rfl (by omega))).trans ((if_pos (own_ltT (x := (214)) (y := p1.toInt) rfl rfl (by omega))).trans ((if_neg (own_ltF (x := p1.toInt) (y := (216)) rfl rfl (by omega))).trans ((if_neg (own_ltF (x := (246)) (y := p1.toInt) rfl rfl (by omega))).trans (rfl))))))))))
    have e2 : own_g0 p1 = (1 : Int32) := (if_neg (own_ltF (x := p1.toInt) (y := (58)) rfl rfl (by omega))).trans ((if_neg (own_ltF (x := (983039)) (y := p1.toInt) rfl rfl (by omega))).trans ((if_neg (own_ltF (x := p1.toInt) (y := (59)) rfl rfl (by omega))).trans ((if_pos (own_ltT (x := (64)) (y := p1.toInt) rfl rfl (by omega))).trans ((if_neg (own_ltF (x := p1.toInt) (y := (91)) rfl rfl (by omega))).trans ((if_pos (own_ltT (x := (94)) (y := p1.toInt) rfl rfl (by omega))).trans ((if_neg (own_eqF (x := p1.toInt) (y := (96)) rfl rfl (by omega))).trans ((if_neg (own_ltF (x := p1.toInt) (y := (123)) rfl rfl (by omega))).trans ((if_pos (own_ltT (x := (191)) (y := p1.toInt) rfl rfl (by omega))).trans ((if_neg (own_eqF (x := p1.toInt) (y := (215)) rfl rfl (by omega))).trans ((if_neg (own_eqF (x := p1.toInt) (y := (247)) rfl rfl (by omega))).trans ((if_pos (own_ltT (x := p1.toInt) (y := (768)) rfl rfl (by omega))).trans ((if_neg (own_eqF (x := p1.toInt) (y := (894)) rfl rfl (by omega))).trans ((if_pos (own_ltT (x := p1.toInt) (y := (8192)) rfl rfl (by omega))).trans ((if_pos (own_ltT (x := p1.toInt) (y := (8206)) rfl rfl (by omega))).trans ((if_pos (own_ltT (x := p1.toInt) (y := (8592)) rfl rfl (by omega))).trans ((if_pos (own_ltT (x := p1.toInt) (y := (12272)) rfl rfl (by omega))).trans ((if_pos (own_ltT (x := p1.toInt) (y := (55296)) rfl rfl (by omega))).trans ((if_pos (own_ltT (x := p1.toInt) (y := (64976)) rfl rfl (by omega))).trans ((if_pos (own_ltT (x := p1.toInt) (y := (65534)) rfl rfl (by omega))).trans (rfl))))))))))))))))))))
    exact e1.trans e2.symm
  by_cases k25 : p1.toInt < 247
  · have e1 : own_f0 p1 = (1 : Int32) := (if_neg (own_eqF (x := p1.toInt) (y := (58)) rfl rfl (by omega))).trans ((if_neg (own_ltF (x := p1.toInt) (y := (65)) rfl rfl (by omega))).trans ((if_pos (own_ltT (x := (90)) (y := p1.toInt) rfl rfl (by omega))).trans ((if_neg (own_eqF (x := p1.toInt) (y := (95)) rfl rfl (by omega))).trans ((if_neg (own_ltF (x := p1.toInt) (y := (97)) rfl rfl (by omega))).trans ((if_pos (own_ltT (x := (122)) (y := p1.toInt) rfl rfl (by omega))).trans ((if_neg (own_ltF (x := p1.toInt) (y := (192)) rfl rfl (by omega))).trans ((if_pos (own_ltT (x := (214)) (y := p1.toInt) rfl rfl (by omega))).trans ((if_neg (own_ltF (x := p1.toInt) (y := (216)) rfl rfl (by omega))).trans ((if_neg (own_ltF (x := (246)) (y := p1.toInt) rfl rfl (by omega))).trans (rfl))))))))))
    have e2 : own_g0 p1 = (1 : Int32) := (if_neg (own_ltF (x := p1.toInt) (y := (58)) rfl rfl (by omega))).trans ((if_neg (own_ltF (x := (983039)) (y := p1.toInt) rfl rfl (by omega))).trans ((if_neg (own_ltF (x := p1.toInt) (y := (59)) rfl rfl (by omega))).trans ((if_pos (own_ltT (x := (64)) (y := p1.toInt) rfl rfl (by omega))).trans ((if_neg (own_ltF (x := p1.toInt) (y := (91)) rfl rfl (by omega))).trans ((if_pos (own_ltT (x := (94)) (y := p1.toInt) rfl rfl (by omega))).trans ((if_neg (own_eqF (x := p1.toInt) (y := (96)) rfl rfl (by omega))).trans ((if_neg (own_ltF (x := p1.toInt) (y := (123)) rfl rfl (by omega))).trans ((if_pos (own_ltT (x := (191)) (y := p1.toInt) rfl rfl (by omega))).trans ((if_neg (own_eqF (x := p1.toInt) (y := (215)) rfl rfl (by omega))).trans ((if_neg (own_eqF (x := p1.toInt) (y := (247)) rfl rfl (by omega))).trans ((if_pos (own_ltT (x := p1.toInt) (y := (768)) rfl rfl (by omega))).trans ((if_neg (own_eqF (x := p1.toInt) (y := (894)) rfl rfl (by omega))).trans ((if_pos (own_ltT (x := p1.toInt) (y := (8192)) rfl rfl (by omega))).trans ((if_pos (own_ltT (x := p1.toInt) (y := (8206)) rfl rfl (by omega))).trans ((if_pos (own_ltT (x := p1.toInt) (y := (8592)) rfl rfl (by omega))).trans ((if_pos (own_ltT (x := p1.toInt) (y := (12272)) rfl rfl (by omega))).trans ((if_pos (own_ltT (x := p1.toInt) (y := (55296)) rfl rfl (by omega))).trans ((if_pos (own_ltT (x := p1.toInt) (y := (64976)) rfl rfl (by omega))).trans ((if_pos (own_ltT (x := p1.toInt) (y := (65534)) rfl rfl (by omega))).trans (rfl))))))))))))))))))))
    exact e1.trans e2.symm
  by_cases k26 : p1.toInt < 248
  · have e1 : own_f0 p1 = (0 : Int32) := (if_neg (own_eqF (x := p1.toInt) (y := (58)) rfl rfl (by omega))).trans ((if_neg (own_ltF (x := p1.toInt) (y := (65)) rfl rfl (by omega))).trans ((if_pos (own_ltT (x := (90)) (y := p1.toInt) rfl rfl (by omega))).trans ((if_neg (own_eqF (x := p1.toInt) (y := (95)) rfl rfl (by omega))).trans ((if_neg (own_ltF (x := p1.toInt) (y := (97)) rfl rfl (by omega))).trans ((if_pos (own_ltT (x := (122)) (y := p1.toInt) rfl rfl (by omega))).trans ((if_neg (own_ltF (x := p1.toInt) (y := (192)) rfl rfl (by omega))).trans ((if_pos (own_ltT (x := (214)) (y := p1.toInt) rfl rfl (by omega))).trans ((if_neg (own_ltF (x := p1.toInt) (y := (216)) rfl rfl (by omega))).trans ((if_pos (own_ltT (x := (246)) (y := p1.toInt) rfl rfl (by omega))).trans ((if_pos (own_ltT (x := p1.toInt) (y := (248)) rfl rfl (by omega))).trans ((if_pos (own_ltT (x := p1.toInt) (y := (880)) rfl rfl (by omega))).trans ((if_pos (own_ltT (x := p1.toInt) (y := (895)) rfl rfl (by omega))).trans ((if_pos (own_ltT (x := p1.toInt) (y := (8204)) rfl rfl (by omega))).trans ((if_pos (own_ltT (x := p1.toInt) (y := (8304)) rfl rfl (by omega))).trans ((if_pos (own_ltT (x := p1.toInt) (y := (11264)) rfl rfl (by omega))).trans ((if_pos (own_ltT (x := p1.toInt) (y := (12289)) rfl rfl (by omega))).trans ((if_pos (own_ltT (x := p1.toInt) (y := (63744)) rfl rfl (by omega))).trans ((if_pos (own_ltT (x := p1.toInt) (y := (65008)) rfl rfl (by omega))).trans ((if_pos (own_ltT (x := p1.toInt) (y := (65536)) rfl rfl (by omega))).trans (rfl))))))))))))))))))))
    have e2 : own_g0 p1 = (0 : Int32) := (if_neg (own_ltF (x := p1.toInt) (y := (58)) rfl rfl (by omega))).trans ((if_neg (own_ltF (x := (983039)) (y := p1.toInt) rfl rfl (by omega))).trans ((if_neg (own_ltF (x := p1.toInt) (y := (59)) rfl rfl (by omega))).trans ((if_pos (own_ltT (x := (64)) (y := p1.toInt) rfl rfl (by omega))).trans ((if_neg (own_ltF (x := p1.toInt) (y := (91)) rfl rfl (by omega))).trans ((if_pos (own_ltT (x := (94)) (y := p1.toInt) rfl rfl (by omega))).trans ((if_neg (own_eqF (x := p1.toInt) (y := (96)) rfl rfl (by omega))).trans ((if_neg (own_ltF (x := p1.toInt) (y := (123)) rfl rfl (by omega))).trans ((if_pos (own_ltT (x := (191)) (y := p1.toInt) rfl rfl (by omega))).trans ((if_neg (own_eqF (x := p1.toInt) (y := (215)) rfl rfl (by omega))).trans ((if_pos (own_eqT (x := p1.toInt) (y := (247)) rfl rfl (by omega))).trans (rfl)))))))))))
    exact e1.trans e2.symm
  by_cases k27 : p1.toInt < 249
  · have e1 : own_f0 p1 = (1 : Int32) := (if_neg (own_eqF (x := p1.toInt) (y := (58)) rfl rfl (by omega))).trans ((if_neg (own_ltF (x := p1.toInt) (y := (65)) rfl rfl (by omega))).trans ((if_pos (own_ltT (x := (90)) (y := p1.toInt) rfl rfl (by omega))).trans ((if_neg (own_eqF (x := p1.toInt) (y := (95)) rfl rfl (by omega))).trans ((if_neg (own_ltF (x := p1.toInt) (y := (97)) rfl rfl (by omega))).trans ((if_pos (own_ltT (x := (122)) (y := p1.toInt) rfl rfl (by omega))).trans ((if_neg (own_ltF (x := p1.toInt) (y := (192)) rfl rfl (by omega))).trans ((if_pos (own_ltT (x := (214)) (y := p1.toInt) rfl rfl (by omega))).trans ((if_neg (own_ltF (x := p1.toInt) (y := (216)) rfl rfl (by omega))).trans ((if_pos (own_ltT (x := (246)) (y := p1.toInt) rfl rfl (by omega))).trans ((if_neg (own_ltF (x := p1.toInt) (y := (248)) rfl rfl (by omega))).trans ((if_neg (own_ltF (x := (767)) (y := p1.toInt) rfl rfl (by omega))).trans (rfl))))))))))))
    have e2 : own_g0 p1 = (1 : Int32) := (if_neg (own_ltF (x := p1.toInt) (y := (58)) rfl rfl (by omega))).trans ((if_neg (own_ltF (x := (983039)) (y := p1.toInt) rfl rfl (by omega))).trans ((if_neg (own_ltF (x := p1.toInt) (y := (59)) rfl rfl (by omega))).trans ((if_pos (own_ltT (x := (64)) (y := p1.toInt) rfl rfl (by omega))).trans ((if_neg (own_ltF (x := p1.toInt) (y := (91)) rfl rfl (by omega))).trans ((if_pos (own_ltT (x := (94)) (y := p1.toInt) rfl rfl (by omega))).trans ((if_neg (own_eqF (x := p1.toInt) (y := (96)) rfl rfl (by omega))).trans ((if_neg (own_ltF (x := p1.toInt) (y := (123)) rfl rfl (by omega))).trans ((if_pos (own_ltT (x := (191)) (y := p1.toInt) rfl rfl (by omega))).trans ((if_neg (own_eqF (x := p1.toInt) (y := (215)) rfl rfl (by omega))).trans ((if_neg (own_eqF (x := p1.toInt) (y := (247)) rfl rfl (by omega))).trans ((if_pos (own_ltT (x := p1.toInt) (y := (768)) rfl rfl (by omega))).trans ((if_neg (own_eqF (x := p1.toInt) (y := (894)) rfl rfl (by omega))).trans ((if_pos (own_ltT (x := p1.toInt) (y := (8192)) rfl rfl (by omega))).trans ((if_pos (own_ltT (x := p1.toInt) (y := (8206)) rfl rfl (by omega))).trans ((if_pos (own_ltT (x := p1.toInt) (y := (8592)) rfl rfl (by omega))).trans ((if_pos (own_ltT (x := p1.toInt) (y := (12272)) rfl rfl (by omega))).trans ((if_pos (own_ltT (x := p1.toInt) (y := (55296)) rfl rfl (by omega))).trans ((if_pos (own_ltT (x := p1.toInt) (y := (64976)) rfl rfl (by omega))).trans ((if_pos (own_ltT (x := p1.toInt) (y := (65534)) rfl rfl (by omega))).trans (rfl))))))))))))))))))))
    exact e1.trans e2.symm
  by_cases k28 : p1.toInt < 767
  · have e1 : own_f0 p1 = (1 : Int32) := (if_neg (own_eqF (x := p1.toInt) (y := (58)) rfl rfl (by omega))).trans ((if_neg (own_ltF (x := p1.toInt) (y := (65)) rfl rfl (by omega))).trans ((if_pos (own_ltT (x := (90)) (y := p1.toInt) rfl rfl (by omega))).trans ((if_neg (own_eqF (x := p1.toInt) (y := (95)) rfl rfl (by omega))).trans ((if_neg (own_ltF (x := p1.toInt) (y := (97)) rfl rfl (by omega))).trans ((if_pos (own_ltT (x := (122)) (y := p1.toInt) rfl rfl (by omega))).trans ((if_neg (own_ltF (x := p1.toInt) (y := (192)) rfl rfl (by omega))).trans ((if_pos (own_ltT (x := (214)) (y := p1.toInt) rfl rfl (by omega))).trans ((if_neg (own_ltF (x := p1.toInt) (y := (216)) rfl rfl (by omega))).trans ((if_pos (own_ltT (x := (246)) (y := p1.toInt) rfl rfl (by omega))).trans ((if_neg (own_ltF (x := p1.toInt) (y := (248)) rfl rfl (by omega))).trans ((if_neg (own_ltF (x := (767)) (y := p1.toInt) rfl rfl (by omega))).trans (rfl))))))))))))
    have e2 : own_g0 p1 = (1 : Int32) := (if_neg (own_ltF (x := p1.toInt) (y := (58)) rfl rfl (by omega))).trans ((if_neg (own_ltF (x := (983039)) (y := p1.toInt) rfl rfl (by omega))).trans ((if_neg (own_ltF (x := p1.toInt) (y := (59)) rfl rfl (by omega))).trans ((if_pos (own_ltT (x := (64)) (y := p1.toInt) rfl rfl (by omega))).trans ((if_neg (own_ltF (x := p1.toInt) (y := (91)) rfl rfl (by omega))).trans ((if_pos (own_ltT (x := (94)) (y := p1.toInt) rfl rfl (by omega))).trans ((if_neg (own_eqF (x := p1.toInt) (y := (96)) rfl rfl (by omega))).trans ((if_neg (own_ltF (x := p1.toInt) (y := (123)) rfl rfl (by omega))).trans ((if_pos (own_ltT (x := (191)) (y := p1.toInt) rfl rfl (by omega))).trans ((if_neg (own_eqF (x := p1.toInt) (y := (215)) rfl rfl (by omega))).trans ((if_neg (own_eqF (x := p1.toInt) (y := (247)) rfl rfl (by omega))).trans ((if_pos (own_ltT (x := p1.toInt) (y := (768)) rfl rfl (by omega))).trans ((if_neg (own_eqF (x := p1.toInt) (y := (894)) rfl rfl (by omega))).trans ((if_pos (own_ltT (x := p1.toInt) (y := (8192)) rfl rfl (by omega))).trans ((if_pos (own_ltT (x := p1.toInt) (y := (8206)) rfl rfl (by omega))).trans ((if_pos (own_ltT (x := p1.toInt) (y := (8592)) rfl rfl (by omega))).trans ((if_pos (own_ltT (x := p1.toInt) (y := (12272)) rfl rfl (by omega))).trans ((if_pos (own_ltT (x := p1.toInt) (y := (55296)) rfl rfl (by omega))).trans ((if_pos (own_ltT (x := p1.toInt) (y := (64976)) rfl rfl (by omega))).trans ((if_pos (own_ltT (x := p1.toInt) (y := (65534)) rfl rfl (by omega))).trans (rfl))))))))))))))))))))
    exact e1.trans e2.symm
  by_cases k29 : p1.toInt < 768
  · have e1 : own_f0 p1 = (1 : Int32) := (if_neg (own_eqF (x := p1.toInt) (y := (58)) rfl rfl (by omega))).trans ((if_neg (own_ltF (x := p1.toInt) (y := (65)) rfl rfl (by omega))).trans ((if_pos (own_ltT (x := (90)) (y := p1.toInt) rfl rfl (by omega))).trans ((if_neg (own_eqF (x := p1.toInt) (y := (95)) rfl rfl (by omega))).trans ((if_neg (own_ltF (x := p1.toInt) (y := (97)) rfl rfl (by omega))).trans ((if_pos (own_ltT (x := (122)) (y := p1.toInt) rfl rfl (by omega))).trans ((if_neg (own_ltF (x := p1.toInt) (y := (192)) rfl rfl (by omega))).trans ((if_pos (own_ltT (x := (214)) (y := p1.toInt) rfl rfl (by omega))).trans ((if_neg (own_ltF (x := p1.toInt) (y := (216)) rfl rfl (by omega))).trans ((if_pos (own_ltT (x := (246)) (y := p1.toInt) rfl rfl (by omega))).trans ((if_neg (own_ltF (x := p1.toInt) (y := (248)) rfl rfl (by omega))).trans ((if_neg (own_ltF (x := (767)) (y := p1.toInt) rfl rfl (by omega))).trans (rfl))))))))))))
    have e2 : own_g0 p1 = (1 : Int32) := (if_neg (own_ltF (x := p1.toInt) (y := (58)) rfl rfl (by omega))).trans ((if_neg (own_ltF (x := (983039)) (y := p1.toInt) rfl rfl (by omega))).trans ((if_neg (own_ltF (x := p1.toInt) (y := (59)) rfl rfl (by omega))).trans ((if_pos (own_ltT (x := (64)) (y := p1.toInt) rfl rfl (by omega))).trans ((if_neg (own_ltF (x := p1.toInt) (y := (91)) rfl rfl (by omega))).trans ((if_pos (own_ltT (x := (94)) (y := p1.toInt) rfl rfl (by omega))).trans ((if_neg (own_eqF (x := p1.toInt) (y := (96)) rfl rfl (by omega))).trans ((if_neg (own_ltF (x := p1.toInt) (y := (123)) rfl rfl (by omega))).trans ((if_pos (own_ltT (x := (191)) (y := p1.toInt) rfl rfl (by omega))).trans ((if_neg (own_eqF (x := p1.toInt) (y := (215)) rfl rfl (by omega))).trans ((if_neg (own_eqF (x := p1.toInt) (y := (247)) rfl rfl (by omega))).trans ((if_pos (own_ltT (x := p1.toInt) (y := (768)) rfl rfl (by omega))).trans ((if_neg (own_eqF (x := p1.toInt) (y := (894)) rfl rfl (by omega))).trans ((if_pos (own_ltT (x := p1.toInt) (y := (8192)) rfl rfl (by omega))).trans ((if_pos (own_ltT (x := p1.toInt) (y := (8206)) rfl rfl (by omega))).trans ((if_pos (own_ltT (x := p1.toInt) (y := (8592)) rfl rfl (by omega))).trans ((if_pos (own_ltT (x := p1.toInt) (y := (12272)) rfl rfl (by omega))).trans ((if_pos (own_ltT (x := p1.toInt) (y := (55296)) rfl rfl (by omega))).trans ((if_pos (own_ltT (x := p1.toInt) (y := (64976)) rfl rfl (by omega))).trans ((if_pos (own_ltT (x := p1.toInt) (y := (65534)) rfl rfl (by omega))).trans (rfl))))))))))))))))))))
    exact e1.trans e2.symm
  by_cases k30 : p1.toInt < 769
  · have e1 : own_f0 p1 = (0 : Int32) := (if_neg (own_eqF (x := p1.toInt) (y := (58)) rfl rfl (by omega))).trans ((if_neg (own_ltF (x := p1.toInt) (y := (65)) rfl rfl (by omega))).trans ((if_pos (own_ltT (x := (90)) (y := p1.toInt) rfl rfl (by omega))).trans ((if_neg (own_eqF (x := p1.toInt) (y := (95)) rfl rfl (by omega))).trans ((if_neg (own_ltF (x := p1.toInt) (y := (97)) rfl rfl (by omega))).trans ((if_pos (own_ltT (x := (122)) (y := p1.toInt) rfl rfl (by omega))).trans ((if_neg (own_ltF (x := p1.toInt) (y := (192)) rfl rfl (by omega))).trans ((if_pos (own_ltT (x := (214)) (y := p1.toInt) rfl rfl (by omega))).trans ((if_neg (own_ltF (x := p1.toInt) (y := (216)) rfl rfl (by omega))).trans ((if_pos (own_ltT (x := (246)) (y := p1.toInt) rfl rfl (by omega))).trans ((if_neg (own_ltF (x := p1.toInt) (y := (248)) rfl rfl (by omega))).trans ((if_pos (own_ltT (x := (767)) (y := p1.toInt) rfl rfl (by omega))).trans ((if_pos (own_ltT (x := p1.toInt) (y := (880)) rfl rfl (by omega))).trans ((if_pos (own_ltT (x := p1.toInt) (y := (895)) rfl rfl (by omega))).trans ((if_pos (own_ltT (x := p1.toInt) (y := (8204)) rfl rfl (by omega))).trans ((if_pos (own_ltT (x := p1.toInt) (y := (8304)) rfl rfl (by omega))).trans ((if_pos (own_ltT (x := p1.toInt) (y := (11264)) rfl rfl (by omega))).trans ((if_pos (own_ltT (x := p1.toInt) (y := (12289)) rfl rfl (by omega))).trans ((if_pos (own_ltT (x := p1.toInt) (y := (63744)) rfl rfl (by omega))).trans ((if_pos (own_ltT (x := p1.toInt) (y := (65008)) rfl rfl (by omega))).trans ((if_pos (own_ltT (x := p1.toInt) (y := (65536)) rfl rfl (by omega))).trans (rfl)))))))))))))))))))))
    have e2 : own_g0 p1 = (0 : Int32) := (if_neg (own_ltF (x := p1.toInt) (y := (58)) rfl rfl (by omega))).trans ((if_neg (own_ltF (x := (983039)) (y := p1.toInt) rfl rfl (by omega))).trans ((if_neg (own_ltF (x := p1.toInt) (y := (59)) rfl rfl (by omega))).trans ((if_pos (own_ltT (x := (64)) (y := p1.toInt) rfl rfl (by omega))).trans ((if_neg (own_ltF (x := p1.toInt) (y := (91)) rfl rfl (by omega))).trans ((if_pos (own_ltT (x := (94)) (y := p1.toInt) rfl rfl (by omega))).trans ((if_neg (own_eqF (x := p1.toInt) (y := (96)) rfl rfl (by omega))).trans ((if_neg (own_ltF (x := p1.toInt) (y := (123)) rfl rfl (by omega))).trans ((if_pos (own_ltT (x := (191)) (y := p1.toInt) rfl rfl (by omega))).trans ((if_neg (own_eqF (x := p1.toInt) (y := (215)) rfl rfl (by omega))).trans ((if_neg (own_eqF (x := p1.toInt) (y := (247)) rfl rfl (by omega))).trans ((if_neg (own_ltF (x := p1.toInt) (y := (768)) rfl rfl (by omega))).trans ((if_neg (own_ltF (x := (879)) (y := p1.toInt) rfl rfl (by omega))).trans (rfl)))))))))))))
    exact e1.trans e2.symm
  by_cases k31 : p1.toInt < 879
  · have e1 : own_f0 p1 = (0 : Int32) := (if_neg (own_eqF (x := p1.toInt) (y := (58)) rfl rfl (by omega))).trans ((if_neg (own_ltF (x := p1.toInt) (y := (65)) rfl rfl (by omega))).trans ((if_pos (own_ltT (x := (90)) (y := p1.toInt) rfl rfl (by omega))).trans ((if_neg (own_eqF (x := p1.toInt) (y := (95)) rfl rfl (by omega))).trans ((if_neg (own_ltF (x := p1.toInt) (y := (97)) rfl rfl (by omega))).trans ((if_pos (own_ltT (x := (122)) (y := p1.toInt) rfl rfl (by omega))).trans ((if_neg (own_ltF (x := p1.toInt) (y := (192)) rfl rfl (by omega))).trans ((if_pos (own_ltT (x := (214)) (y := p1.toInt) rfl rfl (by omega))).trans ((if_neg (own_ltF (x := p1.toInt) (y := (216)) rfl rfl (by omega))).trans ((if_pos (own_ltT (x := (246)) (y := p1.toInt) rfl rfl (by omega))).trans ((if_neg (own_ltF (x := p1.toInt) (y := (248)) rfl rfl (by omega))).trans ((if_pos (own_ltT (x := (767)) (y := p1.toInt) rfl rfl (by omega))).trans ((if_pos (own_ltT (x := p1.toInt) (y := (880)) rfl rfl (by omega))).trans ((if_pos (own_ltT (x := p1.toInt) (y := (895)) rfl rfl (by omega))).trans ((if_pos (own_ltT (x := p1.toInt) (y := (8204)) rfl rfl (by omega))).trans ((if_pos (own_ltT (x := p1.toInt) (y := (8304)) rfl rfl (by omega))).trans ((if_pos (own_ltT (x := p1.toInt) (y := (11264)) rfl rfl (by omega))).trans ((if_pos (own_ltT (x := p1.toInt) (y := (12289)) rfl rfl (by omega))).trans ((if_pos (own_ltT (x := p1.toInt) (y := (63744)) rfl rfl (by omega))).trans ((if_pos (own_ltT (x := p1.toInt) (y := (65008)) rfl rfl (by omega))).trans ((if_pos (own_ltT (x := p1.toInt) (y := (65536)) rfl rfl (by omega))).trans (rfl)))))))))))))))))))))
    have e2 : own_g0 p1 = (0 : Int32) := (if_neg (own_ltF (x := p1.toInt) (y := (58)) rfl rfl (by omega))).trans ((if_neg (own_ltF (x := (983039)) (y := p1.toInt) rfl rfl (by omega))).trans ((if_neg (own_ltF (x := p1.toInt) (y := (59)) rfl rfl (by omega))).trans ((if_pos (own_ltT (x := (64)) (y := p1.toInt) rfl rfl (by omega))).trans ((if_neg (own_ltF (x := p1.toInt) (y := (91)) rfl rfl (by omega))).trans ((if_pos (own_ltT (x := (94)) (y := p1.toInt) rfl rfl (by omega))).trans ((if_neg (own_eqF (x := p1.toInt) (y := (96)) rfl rfl (by omega))).trans ((if_neg (own_ltF (x := p1.toInt) (y := (123)) rfl rfl (by omega))).trans ((if_pos (own_ltT (x := (191)) (y := p1.toInt) rfl rfl (by omega))).trans ((if_neg (own_eqF (x := p1.toInt) (y := (215)) rfl rfl (by omega))).trans ((if_neg (own_eqF (x := p1.toInt) (y := (247)) rfl rfl (by omega))).trans ((if_neg (own_ltF (x := p1.toInt) (y := (768)) rfl rfl (by omega))).trans ((if_neg (own_ltF (x := (879)) (y := p1.toInt) rfl rfl (by omega))).trans (rfl)))))))))))))
    exact e1.trans e2.symm
  by_cases k32 : p1.toInt < 880
  · have e1 : own_f0 p1 = (0 : Int32) := (if_neg (own_eqF (x := p1.toInt) (y := (58)) rfl rfl (by omega))).trans ((if_neg (own_ltF (x := p1.toInt) (y := (65)) rfl rfl (by omega))).trans ((if_pos (own_ltT (x := (90)) (y := p1.toInt) rfl rfl (by omega))).trans ((if_neg (own_eqF (x := p1.toInt) (y := (95)) rfl rfl (by omega))).trans ((if_neg (own_ltF (x := p1.toInt) (y := (97)) rfl rfl (by omega))).trans ((if_pos (own_ltT (x := (122)) (y := p1.toInt) rfl rfl (by omega))).trans ((if_neg (own_ltF (x := p1.toInt) (y := (192)) rfl rfl (by omega))).trans ((if_pos (own_ltT (x := (214)) (y := p1.toInt) rfl rfl (by omega))).trans ((if_neg (own_ltF (x := p1.toInt) (y := (216)) rfl rfl (by omega))).trans ((if_pos (own_ltT (x := (246)) (y := p1.toInt) rfl rfl (by omega))).trans ((if_neg (own_ltF (x := p1.toInt) (y := (248)) rfl rfl (by omega))).trans ((if_pos (own_ltT (x := (767)) (y := p1.toInt) rfl rfl (by omega))).trans ((if_pos (own_ltT (x := p1.toInt) (y := (880)) rfl rfl (by omega))).trans ((if_pos (own_ltT (x := p1.toInt) (y := (895)) rfl rfl (by omega))).trans ((if_pos (own_ltT (x := p1.toInt) (y := (8204)) rfl rfl (by omega))).trans ((if_pos (own_ltT (x := p1.toInt) (y := (8304)) rfl rfl (by omega))).trans ((if_pos (own_ltT (x := p1.toInt) (y := (11264)) rfl rfl (by omega))).trans ((if_pos (own_ltT (x := p1.toInt) (y := (12289)) rfl rfl (by omega))).trans ((if_pos (own_ltT (x := p1.toInt) (y := (63744)) rfl rfl (by omega))).trans ((if_pos (own_ltT (x := p1.toInt) (y := (65008)) rfl rfl (by omega))).trans ((if_pos (own_ltT (x := p1.toInt) (y := (65536)) rfl rfl (by omega))).trans (rfl)))))))))))))))))))))
    have e2 : own_g0 p1 = (0 : Int32) := (if_neg (own_ltF (x := p1.toInt) (y := (58)) rfl rfl (by omega))).trans ((if_neg (own_ltF (x := (983039)) (y := p1.toInt) rfl rfl (by omega))).trans ((if_neg (own_ltF (x := p1.toInt) (y := (59)) rfl rfl (by omega))).trans ((if_pos (own_ltT (x := (64)) (y := p1.toInt) rfl rfl (by omega))).trans ((if_neg (own_ltF (x := p1.toInt) (y := (91)) rfl rfl (by omega))).trans ((if_pos (own_ltT (x := (94)) (y := p1.toInt) rfl rfl (by omega))).trans ((if_neg (own_eqF (x := p1.toInt) (y := (96)) rfl rfl (by omega))).trans ((if_neg (own_ltF (x := p1.toInt) (y := (123)) rfl rfl (by omega))).trans ((if_pos (own_ltT (x := (191)) (y := p1.toInt) rfl rfl (by omega))).trans ((if_neg (own_eqF (x := p1.toInt) (y := (215)) rfl rfl (by omega))).trans ((if_neg (own_eqF (x := p1.toInt) (y := (247)) rfl rfl (by omega))).trans ((if_neg (own_ltF (x := p1.toInt) (y := (768)) rfl rfl (by omega))).trans ((if_neg (own_ltF (x := (879)) (y := p1.toInt) rfl rfl (by omega))).trans (rfl)))))))))))))
    exact e1.trans e2.symm
  by_cases k33 : p1.toInt < 881
  · have e1 : own_f0 p1 = (1 : Int32) := (if_neg (own_eqF (x := p1.toInt) (y := (58)) rfl rfl (by omega))).trans ((if_neg (own_ltF (x := p1.toInt) (y := (65)) rfl rfl (by omega))).trans ((if_pos (own_ltT (x := (90)) (y := p1.toInt) rfl rfl (by omega))).trans ((if_neg (own_eqF (x := p1.toInt) (y := (95)) rfl rfl (by omega))).trans ((if_neg (own_ltF (x := p1.toInt) (y := (97)) rfl rfl (by omega))).trans ((if_pos (own_ltT (x := (122)) (y := p1.toInt) rfl rfl (by omega))).trans ((if_neg (own_ltF (x := p1.toInt) (y := (192)) rfl rfl (by omega))).trans ((if_pos (own_ltT (x := (214)) (y := p1.toInt) rfl rfl (by omega))).trans ((if_neg (own_ltF (x := p1.toInt) (y := (216)) rfl rfl (by omega))).trans ((if_pos (own_ltT (x := (246)) (y := p1.toInt) rfl rfl (by omega))).trans ((if_neg (own_ltF (x := p1.toInt) (y := (248)) rfl rfl (by omega))).trans ((if_pos (own_ltT (x := (767)) (y := p1.toInt) rfl rfl (by omega))).trans ((if_neg (own_ltF (x := p1.toInt) (y := (880)) rfl rfl (by omega))).trans ((if_neg (own_ltF (x := (893)) (y := p1.toInt) rfl rfl (by omega))).trans (rfl))))))))))))))
    have e2 : own_g0 p1 = (1 : Int32) := (if_neg (own_ltF (x := p1.toInt) (y := (58)) rfl rfl (by omega))).trans ((if_neg (own_ltF (x := (983039)) (y := p1.toInt) rfl rfl (by omega))).trans ((if_neg (own_ltF (x := p1.toInt) (y := (59)) rfl rfl (by omega))).trans ((if_pos (own_ltT (x := (64)) (y := p1.toInt) rfl rfl (by omega))).trans ((if_neg (own_ltF (x := p1.toInt) (y := (91)) rfl rfl (by omega))).trans ((if_pos (own_ltT (x := (94)) (y := p1.toInt) rfl rfl (by omega))).trans ((if_neg (own_eqF (x := p1.toInt) (y := (96)) rfl rfl (by omega))).trans ((if_neg (own_ltF (x := p1.toInt) (y := (123)) rfl rfl (by omega))).trans ((if_pos (own_ltT (x := (191)) (y := p1.toInt) rfl rfl (by omega))).trans ((if_neg (own_eqF (x := p1.toInt) (y := (215)) rfl rfl (by omega))).trans ((if_neg (own_eqF (x := p1.toInt) (y := (247)) rfl rfl (by omega))).trans ((if_neg (own_ltF (x := p1.toInt) (y := (768)) rfl rfl (by omega))).trans ((if_pos (own_ltT (x := (879)) (y := p1.toInt) rfl rfl (by omega))).trans ((if_neg (own_eqF (x := p1.toInt) (y := (894)) rfl rfl (by omega))).trans ((if_pos (own_ltT (x := p1.toInt) (y := (8192)) rfl rfl (by omega))).trans ((if_pos (own_ltT (x := p1.toInt) (y := (8206)) rfl rfl (by omega))).trans ((if_pos (own_ltT (x := p1.toInt) (y := (8592)) rfl rfl (by omega))).trans ((if_pos (own_ltT (x := p1.toInt) (y := (12272)) rfl rfl (by omega))).trans ((if_pos (own_ltT (x := p1.toInt) (y := (55296)) rfl rfl (by omega))).trans ((if_pos (own_ltT (x := p1.toInt) (y := (64976)) rfl rfl (by omega))).trans ((if_pos (own_ltT (x := p1.toInt) (y := (65534)) rfl rfl (by omega))).trans (rfl)))))))))))))))))))))
    exact e1.trans e2.symm
  by_cases k34 : p1.toInt < 893
  · have e1 : own_f0 p1 = (1 : Int32) := (if_neg (own_eqF (x := p1.toInt) (y := (58)) rfl rfl (by omega))).trans ((if_neg (own_ltF (x := p1.toInt) (y := (65)) rfl rfl (by omega))).trans ((if_pos (own_ltT (x := (90)) (y := p1.toInt) rfl rfl (by omega))).trans ((if_neg (own_eqF (x := p1.toInt) (y := (95)) rfl rfl (by omega))).trans ((if_neg (own_ltF (x := p1.toInt) (y := (97)) rfl rfl (by omega))).trans ((if_pos (own_ltT (x := (122)) (y := p1.toInt) rfl rfl (by omega))).trans ((if_neg (own_ltF (x := p1.toInt) (y := (192)) rfl rfl (by omega))).trans ((if_pos (own_ltT (x := (214)) (y := p1.toInt) rfl rfl (by omega))).trans ((if_neg (own_ltF (x := p1.toInt) (y := (216)) rfl rfl (by omega))).trans ((if_pos (own_ltT (x := (246)) (y := p1.toInt) rfl rfl (by omega))).trans ((if_neg (own_ltF (x := p1.toInt) (y := (248)) rfl rfl (by omega))).trans ((if_pos (own_ltT (x := (767)) (y := p1.toInt) rfl rfl (by omega))).trans ((if_neg (own_ltF (x := p1.toInt) (y := (880)) rfl rfl (by omega))).trans ((if_neg (own_ltF (x := (893)) (y := p1.toInt) rfl rfl (by omega))).trans (rfl))))))))))))))
    have e2 : own_g0 p1 = (1 : Int32) := (if_neg (own_ltF (x := p1.toInt) (y := (58)) rfl rfl (by omega))).trans ((if_neg (own_ltF (x := (983039)) (y := p1.toInt) rfl rfl (by omega))).trans ((if_neg (own_ltF (x := p1.toInt) (y := (59)) rfl rfl (by omega))).trans ((if_pos (own_ltT (x := (64)) (y := p1.toInt) rfl rfl (by omega))).trans ((if_neg (own_ltF (x := p1.toInt) (y := (91)) rfl rfl (by omega))).trans ((if_pos (own_ltT (x := (94)) (y := p1.toInt) rfl rfl (by omega))).trans ((if_neg (own_eqF (x := p1.toInt) (y := (96)) rfl rfl (by omega))).trans ((if_neg (own_ltF (x := p1.toInt) (y := (123)) rfl rfl (by omega))).trans ((if_pos (own_ltT (x := (191)) (y := p1.toInt) rfl rfl (by omega))).trans ((if_neg (own_eqF (x := p1.toInt) (y := (215)) rfl rfl (by omega))).trans ((if_neg (own_eqF (x := p1.toInt) (y := (247)) rfl rfl (by omega))).trans ((if_neg (own_ltF (x := p1.toInt) (y := (768)) rfl rfl (by omega))).trans ((if_pos (own_ltT (x := (879)) (y := p1.toInt) rfl rfl (by omega))).trans ((if_neg (own_eqF (x := p1.toInt) (y := (894)) rfl rfl (by omega))).trans ((if_pos (own_ltT (x := p1.toInt) (y := (8192)) rfl rfl (by omega))).trans ((if_pos (own_ltT (x := p1.toInt) (y := (8206)) rfl rfl (by omega))).trans ((if_pos (own_ltT (x := p1.toInt) (y := (8592)) rfl rfl (by omega))).trans ((if_pos (own_ltT (x := p1.toInt) (y := (12272)) rfl rfl (by omega))).trans ((if_pos (own_ltT (x := p1.toInt) (y := (55296)) rfl rfl (by omega))).trans ((if_pos (own_ltT (x := p1.toInt) (y := (64976)) rfl rfl (by omega))).trans ((if_pos (own_ltT (x := p1.toInt) (y := (65534)) rfl rfl (by omega))).trans (rfl)))))))))))))))))))))
    exact e1.trans e2.symm
  by_cases k35 : p1.toInt < 894
  · have e1 : own_f0 p1 = (1 : Int32) := (if_neg (own_eqF (x := p1.toInt) (y := (58)) rfl rfl (by omega))).trans ((if_neg (own_ltF (x := p1.toInt) (y := (65)) rfl rfl (by omega))).trans ((if_pos (own_ltT (x := (90)) (y := p1.toInt) rfl rfl (by omega))).trans ((if_neg (own_eqF (x := p1.toInt) (y := (95)) rfl rfl (by omega))).trans ((if_neg (own_ltF (x := p1.toInt) (y := (97)) rfl rfl (by omega))).trans ((if_pos (own_ltT (x := (122)) (y := p1.toInt) rfl rfl (by omega))).trans ((if_neg (own_ltF (x := p1.toInt) (y := (192)) rfl rfl (by omega))).trans ((if_pos (own_ltT (x := (214)) (y := p1.toInt) rfl rfl (by omega))).trans ((if_neg (own_ltF (x := p1.toInt) (y := (216)) rfl rfl (by omega))).trans ((if_pos (own_ltT (x := (246)) (y := p1.toInt) rfl rfl (by omega))).trans ((if_neg (own_ltF (x := p1.toInt) (y := (248)) rfl rfl (by omega))).trans ((if_pos (own_ltT (x := (767)) (y := p1.toInt) rfl rfl (by omega))).trans ((if_neg (own_ltF (x := p1.toInt) (y := (880)) rfl rfl (by omega))).trans ((if_neg (own_ltF (x := (893)) (y := p1.toInt) rfl rfl (by omega))).trans (rfl))))))))))))))
    have e2 : own_g0 p1 = (1 : Int32) := (if_neg (own_ltF (x := p1.toInt) (y := (58)) rfl rfl (by omega))).trans ((if_neg (own_ltF (x := (983039)) (y := p1.toInt) rfl rfl (by omega))).trans ((if_neg (own_ltF (x := p1.toInt) (y := (59)) rfl rfl (by omega))).trans ((if_pos (own_ltT (x := (64)) (y := p1.toInt) rfl rfl (by omega))).trans ((if_neg (own_ltF (x := p1.toInt) (y := (91)) rfl rfl (by omega))).trans ((if_pos (own_ltT (x := (94)) (y := p1.toInt) rfl rfl (by omega))).trans ((if_neg (own_eqF (x := p1.toInt) (y := (96)) rfl rfl (by omega))).trans ((if_neg (own_ltF (x := p1.toInt) (y := (123)) rfl rfl (by omega))).trans ((if_pos (own_ltT (x := (191)) (y := p1.toInt) rfl rfl (by omega))).trans ((if_neg (own_eqF (x := p1.toInt) (y := (215)) rfl rfl (by omega))).trans ((if_neg (own_eqF (x := p1.toInt) (y := (247)) rfl rfl (by omega))).trans ((if_neg (own_ltF (x := p1.toInt) (y := (768)) rfl rfl (by omega))).trans ((if_pos (own_ltT (x := (879)) (y := p1.toInt) rfl rfl (by omega))).trans ((if_neg (own_eqF (x := p1.toInt) (y := (894)) rfl rfl (by omega))).trans ((if_pos (own_ltT (x := p1.toInt) (y := (8192)) rfl rfl (by omega))).trans ((if_pos (own_ltT (x := p1.toInt) (y := (8206)) rfl rfl (by omega))).trans ((if_pos (own_ltT (x := p1.toInt) (y := (8592)) rfl rfl (by omega))).trans ((if_pos (own_ltT (x := p1.toInt) (y := (12272)) rfl rfl (by omega))).trans ((if_pos (own_ltT (x := p1.toInt) (y := (55296)) rfl rfl (by omega))).trans ((if_pos (own_ltT (x := p1.toInt) (y := (64976)) rfl rfl (by omega))).trans ((if_pos (own_ltT (x := p1.toInt) (y := (65534)) rfl rfl (by omega))).trans (rfl)))))))))))))))))))))
    exact e1.trans e2.symm
  by_cases k36 : p1.toInt < 895
  · have e1 : own_f0 p1 = (0 : Int32) := (if_neg (own_eqF (x := p1.toInt) (y := (58)) rfl rfl (by omega))).trans ((if_neg (own_ltF (x := p1.toInt) (y := (65)) rfl rfl (by omega))).trans ((if_pos (own_ltT (x := (90)) (y := p1.toInt) rfl rfl (by omega))).trans ((if_neg (own_eqF (x := p1.toInt) (y := (95)) rfl rfl (by omega))).trans ((if_neg (own_ltF (x := p1.toInt) (y := (97)) rfl rfl (by omega))).trans ((if_pos (own_ltT (x := (122)) (y := p1.toInt) rfl rfl (by omega))).trans ((if_neg (own_ltF (x := p1.toInt) (y := (192)) rfl rfl (by omega))).trans ((if_pos (own_ltT (x := (214)) (y := p1.toInt) rfl rfl (by omega))).trans ((if_neg (own_ltF (x := p1.toInt) (y := (216)) rfl rfl (by omega))).trans ((if_pos (own_ltT (x := (246)) (y := p1.toInt) rfl rfl (by omega))).trans ((if_neg (own_ltF (x := p1.toInt) (y := (248)) rfl rfl (by omega))).trans ((if_pos (own_ltT (x := (767)) (y := p1.toInt) rfl rfl (by omega))).trans ((if_neg (own_ltF (x := p1.toInt) (y := (880)) rfl rfl (by omega))).trans ((if_pos (own_ltT (x := (893)) (y := p1.toInt) rfl rfl (by omega))).trans ((if_pos (own_ltT (x := p1.toInt) (y := (895)) rfl rfl (by omega))).trans ((if_pos (own_ltT (x := p1.toInt) (y := (8204)) rfl rfl (by omega))).trans ((if_pos (own_ltT (x := p1.toInt) (y := (8304)) rfl rfl (by omega))).trans ((if_pos (own_ltT (x := p1.toInt) (y := (11264)) rfl rfl (by omega))).trans ((if_pos (own_ltT (x := p1.toInt) (y := (12289)) rfl rfl (by omega))).trans ((if_pos (own_ltT (x := p1.toInt) (y := (63744)) rfl rfl (by omega))).trans ((if_pos (own_ltT (x := p1.toInt) (y := (65008)) rfl rfl (by omega))).trans ((if_pos (own_ltT (x := p1.toInt) (y := (65536)) rfl rfl (by omega))).trans (rfl))))))))))))))))))))))
    have e2 : own_g0 p1 = (0 : Int32) := (if_neg (own_ltF (x := p1.toInt) (y := (58)) rfl rfl (by omega))).trans ((if_neg (own_ltF (x := (983039)) (y := p1.toInt) rfl rfl (by omega))).trans ((if_neg (own_ltF (x := p1.toInt) (y := (59)) rfl rfl (by omega))).trans ((if_pos (own_ltT (x := (64)) (y := p1.toInt) rfl rfl (by omega))).trans ((if_neg (own_ltF (x := p1.toInt) (y := (91)) rfl rfl (by omega))).trans ((if_pos (own_ltT (x := (94)) (y := p1.toInt) rfl rfl (by omega))).trans ((if_neg (own_eqF (x := p1.toInt) (y := (96)) rfl rfl (by omega))).trans ((if_neg (own_ltF (x := p1.toInt) (y := (123)) rfl rfl (by omega))).trans ((if_pos (own_ltT (x := (191)) (y := p1.toInt) rfl rfl (by omega))).trans ((if_neg (own_eqF (x := p1.toInt) (y := (215)) rfl rfl (by omega))).trans ((if_neg (own_eqF (x := p1.toInt) (y := (247)) rfl rfl (by omega))).trans ((if_neg (own_ltF (x := p1.toInt) (y := (768)) rfl rfl (by omega))).trans ((if_pos (own_ltT (x := (879)) (y := p1.toInt) rfl rfl (by omega))).trans ((if_pos (own_eqT (x := p1.toInt) (y := (894)) rfl rfl (by omega))).trans (rfl))))))))))))))
    exact e1.trans e2.symm
  by_cases k37 : p1.toInt < 896
  · have e1 : own_f0 p1 = (1 : Int32) := (if_neg (own_eqF (x := p1.toInt) (y := (58)) rfl rfl (by omega))).trans ((if_neg (own_ltF (x := p1.toInt) (y := (65)) rfl rfl (by omega))).trans ((if_pos (own_ltT (x := (90)) (y := p1.toInt) rfl rfl (by omega))).trans ((if_neg (own_eqF (x := p1.toInt) (y := (95)) rfl rfl (by omega))).trans ((if_neg (own_ltF (x := p1.toInt) (y := (97)) rfl rfl (by omega))).trans ((if_pos (own_ltT (x := (122)) (y := p1.toInt) rfl rfl (by omega))).trans ((if_neg (own_ltF (x := p1.toInt) (y := (192)) rfl rfl (by omega))).trans ((if_pos (own_ltT (x := (214)) (y := p1.toInt) rfl rfl (by omega))).trans ((if_neg (own_ltF (x := p1.toInt) (y := (216)) rfl rfl (by omega))).trans ((if_pos (own_ltT (x := (246)) (y := p1.toInt) rfl rfl (by omega))).trans ((if_neg (own_ltF (x := p1.toInt) (y := (248)) rfl rfl (by omega))).trans ((if_pos (own_ltT (x := (767)) (y := p1.toInt) rfl rfl (by omega))).trans ((if_neg (own_ltF (x := p1.toInt) (y := (880)) rfl rfl (by omega))).trans ((if_pos (own_ltT (x := (893)) (y := p1.toInt) rfl rfl (by omega))).trans ((if_neg (own_ltF (x := p1.toInt) (y := (895)) rfl rfl (by omega))).trans ((if_neg (own_ltF (x := (8191)) (y := p1.toInt) rfl rfl (by omega))).trans (rfl))))))))))))))))
    have e2 : own_g0 p1 = (1 : Int32) := (if_neg (own_ltF (x := p1.toInt) (y := (58)) rfl rfl (by omega))).trans ((if_neg (own_ltF (x := (983039)) (y := p1.toInt) rfl rfl (by omega))).trans ((if_neg (own_ltF (x := p1.toInt) (y := (59)) rfl rfl (by omega))).trans ((if_pos (own_ltT (x := (64)) (y := p1.toInt) rfl rfl (by omega))).trans ((if_neg (own_ltF (x := p1.toInt) (y := (91)) rfl rfl (by omega))).trans ((if_pos (own_ltT (x := (94)) (y := p1.toInt) rfl rfl (by omega))).trans ((if_neg (own_eqF (x := p1.toInt) (y := (96)) rfl rfl (by omega))).trans ((if_neg (own_ltF (x := p1.toInt) (y := (123)) rfl rfl (by omega))).trans ((if_pos (own_ltT (x := (191)) (y := p1.toInt) rfl rfl (by omega))).trans ((if_neg (own_eqF (x := p1.toInt) (y := (215)) rfl rfl (by omega))).trans ((if_neg (own_eqF (x := p1.toInt) (y := (247)) rfl rfl (by omega))).trans ((if_neg (own_ltF (x := p1.toInt) (y := (768)) rfl rfl (by omega))).trans ((if_pos (own_ltT (x := (879)) (y := p1.toInt) rfl rfl (by omega))).trans ((if_neg (own_eqF (x := p1.toInt) (y := (894)) rfl rfl (by omega))).trans ((if_pos (own_ltT (x := p1.toInt) (y := (8192)) rfl rfl (by omega))).trans ((if_pos (own_ltT (x := p1.toInt) (y := (8206)) rfl rfl (by omega))).trans ((if_pos (own_ltT (x := p1.toInt) (y := (8592)) rfl rfl (by omega))).trans ((if_pos (own_ltT (x := p1.toInt) (y := (12272)) rfl rfl (by omega))).trans ((if_pos (own_ltT (x := p1.toInt) (y := (55296)) rfl rfl (by omega))).trans ((if_pos (own_ltT (x := p1.toInt) (y := (64976)) rfl rfl (by omega))).trans ((if_pos (own_ltT (x := p1.toInt) (y := (65534)) rfl rfl (by omega))).trans (rfl)))))))))))))))))))))
    exact e1.trans e2.symm
  by_cases k38 : p1.toInt < 8191
  · have e1 : own_f0 p1 = (1 : Int32) := (if_neg (own_eqF (x := p1.toInt) (y := (58)) rfl rfl (by omega))).trans ((if_neg (own_ltF (x := p1.toInt) (y := (65)) rfl rfl (by omega))).trans ((if_pos (own_ltT (x := (90)) (y := p1.toInt) rfl rfl (by omega))).trans ((if_neg (own_eqF (x := p1.toInt) (y := (95)) rfl rfl (by omega))).trans ((if_neg (own_ltF (x := p1.toInt) (y := (97)) rfl rfl (by omega))).trans ((if_pos (own_ltT (x := (122)) (y := p1.toInt) rfl rfl (by omega))).trans ((if_neg (own_ltF (x := p1.toInt) (y := (192)) rfl rfl (by omega))).trans ((if_pos (own_ltT (x := (214)) (y := p1.toInt) rfl rfl (by omega))).trans ((if_neg (own_ltF (x := p1.toInt) (y := (216)) rfl rfl (by omega))).trans ((if_pos (own_ltT (x := (246)) (y := p1.toInt) rfl rfl (by omega))).trans ((if_neg (own_ltF (x := p1.toInt) (y := (248)) rfl rfl (by omega))).trans ((if_pos (own_ltT (x := (767)) (y := p1.toInt) rfl rfl (by omega))).trans ((if_neg (own_ltF (x := p1.toInt) (y := (880)) rfl rfl (by omega))).trans ((if_pos (own_ltT (x := (893)) (y := p1.toInt) rfl rfl (by omega))).trans ((if_neg (own_ltF (x := p1.toInt) (y := (895)) rfl rfl (by omega))).trans ((if_neg (own_ltF (x := (8191)) (y := p1.toInt) rfl rfl (by omega))).trans (rfl))))))))))))))))
    have e2 : own_g0 p1 = (1 : Int32) := (if_neg (own_ltF (x := p1.toInt) (y := (58)) rfl rfl (by omega))).trans ((if_neg (own_ltF (x := (983039)) (y := p1.toInt) rfl rfl (by omega))).trans ((if_neg (own_ltF (x := p1.toInt) (y := (59)) rfl rfl (by omega))).trans ((if_pos (own_ltT (x := (64)) (y := p1.toInt) rfl rfl (by omega))).trans ((if_neg (own_ltF (x := p1.toInt) (y := (91)) rfl rfl (by omega))).trans ((if_pos (own_ltT (x := (94)) (y := p1.toInt) rfl rfl (by omega))).trans ((if_neg (own_eqF (x := p1.toInt) (y := (96)) rfl rfl (by omega))).trans ((if_neg (own_ltF (x := p1.toInt) (y := (123)) rfl rfl (by omega))).trans ((if_pos (own_ltT (x := (191)) (y := p1.toInt) rfl rfl (by omega))).trans ((if_neg (own_eqF (x := p1.toInt) (y := (215)) rfl rfl (by omega))).trans ((if_neg (own_eqF (x := p1.toInt) (y := (247)) rfl rfl (by omega))).trans ((if_neg (own_ltF (x := p1.toInt) (y := (768)) rfl rfl (by omega))).trans ((if_pos (own_ltT (x := (879)) (y := p1.toInt) rfl rfl (by omega))).trans ((if_neg (own_eqF (x := p1.toInt) (y := (894)) rfl rfl (by omega))).trans ((if_pos (own_ltT (x := p1.toInt) (y := (8192)) rfl rfl (by omega))).trans ((if_pos (own_ltT (x := p1.toInt) (y := (8206)) rfl rfl (by omega))).trans ((if_pos (own_ltT (x := p1.toInt) (y := (8592)) rfl rfl (by omega))).trans ((if_pos (own_ltT (x := p1.toInt) (y := (12272)) rfl rfl (by omega))).trans ((if_pos (own_ltT (x := p1.toInt) (y := (55296)) rfl rfl (by omega))).trans ((if_pos (own_ltT (x := p1.toInt) (y := (64976)) rfl rfl (by omega))).trans ((if_pos (own_ltT (x := p1.toInt) (y := (65534)) rfl rfl (by omega))).trans (rfl)))))))))))))))))))))
    exact e1.trans e2.symm
  by_cases k39 : p1.toInt < 8192
  · have e1 : own_f0 p1 = (1 : Int32) := (if_neg (own_eqF (x := p1.toInt) (y := (58)) rfl rfl (by omega))).trans ((if_neg (own_ltF (x := p1.toInt) (y := (65)) rfl rfl (by omega))).trans ((if_pos (own_ltT (x := (90)) (y := p1.toInt) rfl rfl (by omega))).trans ((if_neg (own_eqF (x := p1.toInt) (y := (95)) rfl rfl (by omega))).trans ((if_neg (own_ltF (x := p1.toInt) (y := (97)) rfl rfl (by omega))).trans ((if_pos (own_ltT (x := (122)) (y := p1.toInt) rfl rfl (by omega))).trans ((if_neg (own_ltF (x := p1.toInt) (y := (192)) rfl rfl (by omega))).trans ((if_pos (own_ltT (x := (214)) (y := p1.toInt) rfl rfl (by omega))).trans ((if_neg (own_ltF (x := p1.toInt) (y := (216)) rfl rfl (by omega))).trans ((if_pos (own_ltT (x := (246)) (y := p1.toInt) rfl rfl (by omega))).trans ((if_neg (own_ltF (x := p1.toInt) (y := (248)) rfl rfl (by omega))).trans ((if_pos (own_ltT (x := (767)) (y := p1.toInt) rfl rfl (by omega))).trans ((if_neg (own_ltF (x := p1.toInt) (y := (880)) rfl rfl (by omega))).trans ((if_pos (own_ltT (x := (893)) (y := p1.toInt) rfl rfl (by omega))).trans ((if_neg (own_ltF (x := p1.toInt) (y := (895)) rfl rfl (by omega))).trans ((if_neg (own_ltF (x := (8191)) (y := p1.toInt) rfl rfl (by omega))).trans (rfl))))))))))))))))
    have e2 : own_g0 p1 = (1 : Int32) := (if_neg (own_ltF (x := p1.toInt) (y := (58)) rfl rfl (by omega))).trans ((if_neg (own_ltF (x := (983039)) (y := p1.toInt) rfl rfl (by omega))).trans ((if_neg (own_ltF (x := p1.toInt) (y := (59)) rfl rfl (by omega))).trans ((if_pos (own_ltT (x := (64)) (y := p1.toInt) rfl rfl (by omega))).trans ((if_neg (own_ltF (x := p1.toInt) (y := (91)) rfl rfl (by omega))).trans ((if_pos (own_ltT (x := (94)) (y := p1.toInt) rfl rfl (by omega))).trans ((if_neg (own_eqF (x := p1.toInt) (y := (96)) rfl rfl (by omega))).trans ((if_neg (own_ltF (x := p1.toInt) (y := (123)) rfl rfl (by omega))).trans ((if_pos (own_ltT (x := (191)) (y := p1.toInt) rfl rfl (by omega))).trans ((if_neg (own_eqF (x := p1.toInt) (y := (215)) rfl rfl (by omega))).trans ((if_neg (own_eqF (x := p1.toInt) (y := (247)) rfl rfl (by omega))).trans ((if_neg (own_ltF (x := p1.toInt) (y := (768)) rfl rfl (by omega))).trans ((if_pos (own_ltT (x := (879)) (y := p1.toInt) rfl rfl (by omega))).trans ((if_neg (own_eqF (x := p1.toInt) (y := (894)) rfl rfl (by omega))).trans ((if_pos (own_ltT (x := p1.toInt) (y := (8192)) rfl rfl (by omega))).trans ((if_pos (own_ltT (x := p1.toInt) (y := (8206)) rfl rfl (by omega))).trans ((if_pos (own_ltT (x := p1.toInt) (y := (8592)) rfl rfl (by omega))).trans ((if_pos (own_ltT (x := p1.toInt) (y := (12272)) rfl rfl (by omega))).trans ((if_pos (own_ltT (x := p1.toInt) (y := (55296)) rfl rfl (by omega))).trans ((if_pos (own_ltT (x := p1.toInt) (y := (64976)) rfl rfl (by omega))).trans ((if_pos (own_ltT (x := p1.toInt) (y := (65534)) rfl rfl (by omega))).trans (rfl)))))))))))))))))))))
    exact e1.trans e2.symm
  by_cases k40 : p1.toInt < 8193
  · have e1 : own_f0 p1 = (0 : Int32) := (if_neg (own_eqF (x := p1.toInt) (y := (58)) rfl rfl (by omega))).trans ((if_neg (own_ltF (x := p1.toInt) (y := (65)) rfl rfl (by omega))).trans ((if_pos (own_ltT (x := (90)) (y := p1.toInt) rfl rfl (by omega))).trans ((if_neg (own_eqF (x := p1.toInt) (y := (95)) rfl rfl (by omega))).trans ((if_neg (own_ltF (x := p1.toInt) (y := (97)) rfl rfl (by omega))).trans ((if_pos (own_ltT (x := (122)) (y := p1.toInt) rfl rfl (by omega))).trans ((if_neg (own_ltF (x := p1.toInt) (y := (192)) rfl rfl (by omega))).trans ((if_pos (own_ltT (x := (214)) (y := p1.toInt) rfl rfl (by omega))).trans ((if_neg (own_ltF (x := p1.toInt) (y := (216)) rfl rfl (by omega))).trans ((if_pos (own_ltT (x := (246)) (y := p1.toInt) rfl rfl (by omega))).trans ((if_neg (own_ltF (x := p1.toInt) (y := (248)) rfl rfl (by omega))).trans ((if_pos (own_ltT (x := (767)) (y := p1.toInt) rfl rfl (by omega))).trans ((if_neg (own_ltF (x := p1.toInt) (y := (880)) rfl rfl (by omega))).trans ((if_pos (own_ltT (x := (893)) (y := p1.toInt) rfl rfl (by omega))).trans ((if_neg (own_ltF (x := p1.toInt) (y := (895)) rfl rfl (by omega))).trans ((if_pos (own_ltT (x := (8191)) (y := p1.toInt) rfl rfl (by omega))).trans ((if_pos (own_ltT (x := p1.toInt) (y := (8204)) rfl rfl (by omega))).trans ((if_pos (own_ltT (x := p1.toInt) (y := (8304)) rfl rfl (by omega))).trans ((if_pos (own_ltT (x := p1.toInt) (y := (11264)) rfl rfl (by omega))).trans ((if_pos (own_ltT (x := p1.toInt) (y := (12289)) rfl rfl (by omega))).trans ((if_pos (own_ltT (x := p1.toInt) (y := (63744)) rfl rfl (by omega))).trans ((if_pos (own_ltT (x := p1.toInt) (y := (65008)) rfl rfl (by omega))).trans ((if_pos (own_ltT (x := p1.toInt) (y := (65536)) rfl rfl (by omega))).trans (rfl)))))))))))))))))))))))
    have e2 : own_g0 p1 = (0 : Int32) := (if_neg (own_ltF (x := p1.toInt) (y := (58)) rfl rfl (by omega))).trans ((if_neg (own_ltF (x := (983039)) (y := p1.toInt) rfl rfl (by omega))).trans ((if_neg (own_ltF (x := p1.toInt) (y := (59)) rfl rfl (by omega))).trans ((if_pos (own_ltT (x := (64)) (y := p1.toInt) rfl rfl (by omega))).trans ((if_neg (own_ltF (x := p1.toInt) (y := (91)) rfl rfl (by omega))).trans ((if_pos (own_ltT (x := (94)) (y := p1.toInt) rfl rfl (by omega))).trans ((if_neg (own_eqF (x := p1.toInt) (y := (96)) rfl rfl (by omega))).trans ((if_neg (own_ltF (x := p1.toInt) (y := (123)) rfl rfl (by omega))).trans ((if_pos (own_ltT (x := (191)) (y := p1.toInt) rfl rfl (by omega))).trans ((if_neg (own_eqF (x := p1.toInt) (y := (215)) rfl rfl (by omega))).trans ((if_neg (own_eqF (x := p1.toInt) (y := (247)) rfl rfl (by omega))).trans ((if_neg (own_ltF (x := p1.toInt) (y := (768)) rfl rfl (by omega))).trans ((if_pos (own_ltT (x := (879)) (y := p1.toInt) rfl rfl (by omega))).trans ((if_neg (own_eqF (x := p1.toInt) (y := (894)) rfl rfl (by omega))).trans ((if_neg (own_ltF (x := p1.toInt) (y := (8192)) rfl rfl (by omega))).trans ((if_neg (own_ltF (x := (8203)) (y := p1.toInt) rfl rfl (by omega))).trans (rfl))))))))))))))))
    exact e1.trans e2.symm
  by_cases k41 : p1.toInt < 8203
  · have e1 : own_f0 p1 = (0 : Int32) := (if_neg (own_eqF (x := p1.toInt) (y := (58)) rfl rfl (by omega))).trans ((if_neg (own_ltF (x := p1.toInt) (y := (65)) rfl rfl (by omega))).trans ((if_pos (own_ltT (x := (90)) (y := p1.toInt) rfl rfl (by omega))).trans ((if_neg (own_eqF (x := p1.toInt) (y := (95)) rfl rfl (by omega))).trans ((if_neg (own_ltF (x := p1.toInt) (y := (97)) rfl rfl (by omega))).trans ((if_pos (own_ltT (x := (122)) (y := p1.toInt) rfl rfl (by omega))).trans ((if_neg (own_ltF (x := p1.toInt) (y := (192)) rfl rfl (by omega))).trans ((if_pos (own_ltT (x := (214)) (y := p1.toInt) rfl rfl (by omega))).trans ((if_neg (own_ltF (x := p1.toInt) (y := (216)) rfl rfl (by omega))).trans ((if_pos (own_ltT (x := (246)) (y := p1.toInt) rfl rfl (by omega))).trans ((if_neg (own_ltF (x := p1.toInt) (y := (248)) rfl rfl (by omega))).trans ((if_pos (own_ltT (x := (767)) (y := p1.toInt) rfl rfl (by omega))).trans ((if_neg (own_ltF (x := p1.toInt) (y := (880)) rfl rfl (by omega))).trans ((if_pos (own_ltT (x := (893)) (y := p1.toInt) rfl rfl (by omega))).trans ((if_neg (own_ltF (x := p1.toInt) (y := (895)) rfl rfl (by omega))).trans ((if_pos (own_ltT (x := (8191)) (y := p1.toInt) rfl rfl (by omega))).trans ((if_pos (own_ltT (x := p1.toInt) (y := (8204)) rfl rfl (by omega))).trans ((if_pos (own_ltT (x := p1.toInt) (y := (8304)) rfl rfl (by omega))).trans ((if_pos (own_ltT (x := p1.toInt) (y := (11264)) rfl rfl (by omega))).trans ((if_pos (own_ltT (x := p1.toInt) (y := (12289)) rfl rfl (by omega))).trans ((if_pos (own_ltT (x := p1.toInt) (y := (63744)) rfl rfl (by omega))).trans ((if_pos (own_ltT (x := p1.toInt) (y := (65008)) rfl rfl (by omega))).trans ((if_pos (own_ltT (x := p1.toInt) (y := (65536)) rfl rfl (by omega))).trans (rfl)))))))))))))))))))))))
    have e2 : own_g0 p1 = (0 : Int32) := (if_neg (own_ltF (x := p1.toInt) (y := (58)) rfl rfl (by omega))).trans ((if_neg (own_ltF (x := (983039)) (y := p1.toInt) rfl rfl (by omega))).trans ((if_neg (own_ltF (x := p1.toInt) (y := (59)) rfl rfl (by omega))).trans ((if_pos (own_ltT (x := (64)) (y := p1.toInt) rfl rfl (by omega))).trans ((if_neg (own_ltF (x := p1.toInt) (y := (91)) rfl rfl (by omega))).trans ((if_pos (own_ltT (x := (94)) (y := p1.toInt) rfl rfl (by omega))).trans ((if_neg (own_eqF (x := p1.toInt) (y := (96)) rfl rfl (by omega))).trans ((if_neg (own_ltF (x := p1.toInt) (y := (123)) rfl rfl (by omega))).trans ((if_pos (own_ltT (x := (191)) (y := p1.toInt) rfl rfl (by omega))).trans ((if_neg (own_eqF (x := p1.toInt) (y := (215)) rfl rfl (by omega))).trans ((if_neg (own_eqF (x := p1.toInt) (y := (247)) rfl rfl (by omega))).trans ((if_neg (own_ltF (x := p1.toInt) (y := (768)) rfl rfl (by omega))).trans ((if_pos (own_ltT (x := (879)) (y := p1.toInt) rfl rfl (by omega))).trans ((if_neg (own_eqF (x := p1.toInt) (y := (894)) rfl rfl (by omega))).trans ((if_neg (own_ltF (x := p1.toInt) (y := (8192)) rfl rfl (by omega))).trans ((if_neg (own_ltF (x := (8203)) (y := p1.toInt) rfl rfl (by omega))).trans (rfl))))))))))))))))
    exact e1.trans e2.symm
  by_cases k42 : p1.toInt < 8204
  · have e1 : own_f0 p1 = (0 : Int32) := (if_neg (own_eqF (x := p1.toInt) (y := (58)) rfl rfl (by omega))).trans ((if_neg (own_ltF (x := p1.toInt) (y := (65)) rfl rfl (by omega))).trans ((if_pos (own_ltT (x := (90)) (y := p1.toInt) rfl rfl (by omega))).trans ((if_neg (own_eqF (x := p1.toInt) (y := (95)) rfl rfl (by omega))).trans ((if_neg (own_ltF (x := p1.toInt) (y := (97)) rfl rfl (by omega))).trans ((if_pos (own_ltT (x := (122)) (y := p1.toInt) rfl rfl (by omega))).trans ((if_neg (own_ltF (x := p1.toInt) (y := (192)) rfl rfl (by omega))).trans ((if_pos (own_ltT (x := (214)) (y := p1.toInt) rfl rfl (by omega))).trans ((if_neg (own_ltF (x := p1.toInt) (y := (216)) rfl rfl (by omega))).trans ((if_pos (own_ltT (x := (246)) (y := p1.toInt) rfl rfl (by omega))).trans ((if_neg (own_ltF (x := p1.toInt) (y := (248)) rfl rfl (by omega))).trans ((if_pos (own_ltT (x := (767)) (y := p1.toInt) rfl rfl (by omega))).trans ((if_neg (own_ltF (x := p1.toInt) (y := (880)) rfl rfl (by omega))).trans ((if_pos (own_ltT (x := (893)) (y := p1.toInt) rfl rfl (by omega))).trans ((if_neg (own_ltF (x := p1.toInt) (y := (895)) rfl rfl (by omega))).trans ((if_pos (own_ltT (x := (8191)) (y := p1.toInt) rfl rfl (by omega))).trans ((if_pos (own_ltT (x := p1.toInt) (y := (8204)) rfl rfl (by omega))).trans ((if_pos (own_ltT (x := p1.toInt) (y := (8304)) rfl rfl (by omega))).trans ((if_pos (own_ltT (x := p1.toInt) (y := (11264)) rfl rfl (by omega))).trans ((if_pos (own_ltT (x := p1.toInt) (y := (12289)) rfl rfl (by omega))).trans ((if_pos (own_ltT (x := p1.toInt) (y := (63744)) rfl rfl (by omega))).trans ((if_pos (own_ltT (x := p1.toInt) (y := (65008)) rfl rfl (by omega))).trans ((if_pos (own_ltT (x := p1.toInt) (y := (65536)) rfl rfl (by omega))).trans (rfl)))))))))))))))))))))))
    have e2 : own_g0 p1 = (0 : Int32) := (if_neg (own_ltF (x := p1.toInt) (y := (58)) rfl rfl (by omega))).trans ((if_neg (own_ltF (x := (983039)) (y := p1.toInt) rfl rfl (by omega))).trans ((if_neg (own_ltF (x := p1.toInt) (y := (59)) rfl rfl (by omega))).trans ((if_pos (own_ltT (x := (64)) (y := p1.toInt) rfl rfl (by omega))).trans ((if_neg (own_ltF (x := p1.toInt) (y := (91)) rfl rfl (by omega))).trans ((if_pos (own_ltT (x := (94)) (y := p1.toInt) rfl rfl (by omega))).trans ((if_neg (own_eqF (x := p1.toInt) (y := (96)) rfl rfl (by omega))).trans ((if_neg (own_ltF (x := p1.toInt) (y := (123)) rfl rfl (by omega))).trans ((if_pos (own_ltT (x := (191)) (y := p1.toInt) rfl rfl (by omega))).trans ((if_neg (own_eqF (x := p1.toInt) (y := (215)) rfl rfl (by omega))).trans ((if_neg (own_eqF (x := p1.toInt) (y := (247)) rfl rfl (by omega))).trans ((if_neg (own_ltF (x := p1.toInt) (y := (768)) rfl rfl (by omega))).trans ((if_pos (own_ltT (x := (879)) (y := p1.toInt) rfl rfl (by omega))).trans ((if_neg (own_eqF (x := p1.toInt) (y := (894)) rfl rfl (by omega))).trans ((if_neg (own_ltF (x := p1.toInt) (y := (8192)) rfl rfl (by omega))).trans ((if_neg (own_ltF (x := (8203)) (y := p1.toInt) rfl rfl (by omega))).trans (rfl))))))))))))))))
    exact e1.trans e2.symm
  by_cases k43 : p1.toInt < 8205
  · have e1 : own_f0 p1 = (1 : Int32) := (if_neg (own_eqF (x := p1.toInt) (y := (58)) rfl rfl (by omega))).trans ((if_neg (own_ltF (x := p1.toInt) (y := (65)) rfl rfl (by omega))).trans ((if_pos (own_ltT (x := (90)) (y := p1.toInt) rfl rfl (by omega))).trans ((if_neg (own_eqF (x := p1.toInt) (y := (95)) rfl rfl (by omega))).trans ((if_neg (own_ltF (x := p1.toInt) (y := (97)) rfl rfl (by omega))).trans ((if_pos (own_ltT (x := (122)) (y := p1.toInt) rfl rfl (by omega))).trans ((if_neg (own_ltF (x := p1.toInt) (y := (192)) rfl rfl (by omega))).trans ((if_pos (own_ltT (x := (214)) (y := p1.toInt) rfl rfl (by omega))).trans ((if_neg (own_ltF (x := p1.toInt) (y := (216)) rfl rfl (by omega))).trans ((if_pos (own_ltT (x := (246)) (y := p1.toInt) rfl rfl (by omega))).trans ((if_neg (own_ltF (x := p1.toInt) (y := (248)) rfl rfl (by omega))).trans ((if_pos (own_ltT (x := (767)) (y := p1.toInt) rfl rfl (by omega))).trans ((if_neg (own_ltF (x := p1.toInt) (y := (880)) rfl rfl (by omega))).trans ((if_pos (own_ltT (x := (893)) (y := p1.toInt) rfl rfl (by omega))).trans ((if_neg (own_ltF (x := p1.toInt) (y := (895)) rfl rfl (by omega))).trans ((if_pos (own_ltT (x := (8191)) (y := p1.toInt) rfl rfl (by omega))).trans ((if_neg (own_ltF (x := p1.toInt) (y := (8204)) rfl rfl (by omega))).trans ((if_neg (own_ltF (x := (8205)) (y := p1.toInt) rfl rfl (by omega))).trans (rfl))))))))))))))))))
    have e2 : own_g0 p1 = (1 : Int32) := (if_neg (own_ltF (x := p1.toInt) (y := (58)) rfl rfl (by omega))).trans ((if_neg (own_ltF (x := (983039)) (y := p1.toInt) rfl rfl (by omega))).trans ((if_neg (own_ltF (x := p1.toInt) (y := (59)) rfl rfl (by omega))).trans ((if_pos (own_ltT (x := (64)) (y := p1.toInt) rfl rfl (by omega))).trans ((if_neg (own_ltF (x := p1.toInt) (y := (91)) rfl rfl (by omega))).trans ((if_pos (own_ltT (x := (94)) (y := p1.toInt) rfl rfl (by omega))).trans ((if_neg (own_eqF (x := p1.toInt) (y := (96)) rfl rfl (by omega))).trans ((if_neg (own_ltF (x := p1.toInt) (y := (123)) rfl rfl (by omega))).trans ((if_pos (own_ltT (x := (191)) (y := p1.toInt) rfl rfl (by omega))).trans ((if_neg (own_eqF (x := p1.toInt) (y := (215)) rfl rfl (by omega))).trans ((if_neg (own_eqF (x := p1.toInt) (y := (247)) rfl rfl (by omega))).trans ((if_neg (own_ltF (x := p1.toInt) (y := (768)) rfl rfl (by omega))).trans ((if_pos (own_ltT (x := (879)) (y := p1.toInt) rfl rfl (by omega))).trans ((if_neg (own_eqF (x := p1.toInt) (y := (894)) rfl rfl (by omega))).trans ((if_neg (own_ltF (x := p1.toInt) (y := (8192)) rfl rfl (by omega))).trans ((if_pos (own_ltT (x := (8203)) (y := p1.toInt) rfl rfl (by omega))).trans ((if_pos (own_ltT (x := p1.toInt) (y := (8206)) rfl rfl (by omega))).trans ((if_pos (own_ltT (x := p1.toInt) (y := (8592)) rfl rfl (by omega))).trans ((if_pos (own_ltT (x := p1.toInt) (y := (12272)) rfl rfl (by omega))).trans ((if_pos (own_ltT (x := p1.toInt) (y := (55296)) rfl rfl (by omega))).trans ((if_pos (own_ltT (x := p1.toInt) (y := (64976)) rfl rfl (by omega))).trans ((if_pos (own_ltT (x := p1.toInt) (y := (65534)) rfl rfl (by omega))).trans (rfl))))))))))))))))))))))
    exact e1.trans e2.symm
  by_cases k44 : p1.toInt < 8206
  · have e1 : own_f0 p1 = (1 : Int32) := (if_neg (own_eqF (x := p1.toInt) (y := (58)) rfl rfl (by omega))).trans ((if_neg (own_ltF (x := p1.toInt) (y := (65)) rfl rfl (by omega))).trans ((if_pos (own_ltT (x := (90)) (y := p1.toInt) rfl rfl (by omega))).trans ((if_neg (own_eqF (x := p1.toInt) (y := (95)) rfl rfl (by omega))).trans ((if_neg (own_ltF (x := p1.toInt) (y := (97)) rfl rfl (by omega))).trans ((if_pos (own_ltT (x := (122)) (y := p1.toInt) rfl rfl (by omega))).trans ((if_neg (own_ltF (x := p1.toInt) (y := (192)) rfl rfl (by omega))).trans ((if_pos (own_ltT (x := (214)) (y := p1.toInt) rfl rfl (by omega))).trans ((if_neg (own_ltF (x := p1.toInt) (y := (216)) rfl rfl (by omega))).trans ((if_pos (own_ltT (x := (246)) (y := p1.toInt) rfl rfl (by omega))).trans ((if_neg (own_ltF (x := p1.toInt) (y := (248)) rfl rfl (by omega))).trans ((if_pos (own_ltT (x := (767)) (y := p1.toInt) rfl rfl (by omega))).trans ((if_neg (own_ltF (x := p1.toInt) (y := (880)) rfl rfl (by omega))).trans ((if_pos (own_ltT (x := (893)) (y := p1.toInt) rfl rfl (by omega))).trans ((if_neg (own_ltF (x := p1.toInt) (y := (895)) rfl rfl (by omega))).trans ((if_pos (own_ltT (x := (8191)) (y := p1.toInt) rfl rfl (by omega))).trans ((if_neg (own_ltF (x := p1.toInt) (y := (8204)) rfl rfl (by omega))).trans ((if_neg (own_ltF (x := (8205)) (y := p1.toInt) rfl rfl (by omega))).trans (rfl))))))))))))))))))
    have e2 : own_g0 p1 = (1 : Int32) := (if_neg (own_ltF (x := p1.toInt) (y := (58)) rfl rfl (by omega))).trans ((if_neg (own_ltF (x := (983039)) (y := p1.toInt) rfl rfl (by omega))).trans ((if_neg (own_ltF (x := p1.toInt) (y := (59)) rfl rfl (by omega))).trans ((if_pos (own_ltT (x := (64)) (y := p1.toInt) rfl rfl (by omega))).trans ((if_neg (own_ltF (x := p1.toInt) (y := (91)) rfl rfl (by omega))).trans ((if_pos (own_ltT (x := (94)) (y := p1.toInt) rfl rfl (by omega))).trans ((if_neg (own_eqF (x := p1.toInt) (y := (96)) rfl rfl (by omega))).trans ((if_neg (own_ltF (x := p1.toInt) (y := (123)) rfl rfl (by omega))).trans ((if_pos (own_ltT (x := (191)) (y := p1.toInt) rfl rfl (by omega))).trans ((if_neg (own_eqF (x := p1.toInt) (y := (215)) rfl rfl (by omega))).trans ((if_neg (own_eqF (x := p1.toInt) (y := (247)) rfl rfl (by omega))).trans ((if_neg (own_ltF (x := p1.toInt) (y := (768)) rfl rfl (by omega))).trans ((if_pos (own_ltT (x := (879)) (y := p1.toInt) rfl rfl (by omega))).trans ((if_neg (own_eqF (x := p1.toInt) (y := (894)) rfl rfl (by omega))).trans ((if_neg (own_ltF (x := p1.toInt) (y := (8192)) rfl rfl (by omega))).trans ((if_pos (own_ltT (x := (8203)) (y := p1.toInt) rfl rfl (by omega))).trans ((if_pos (own_ltT (x := p1.toInt) (y := (8206)) rfl rfl (by omega))).trans ((if_pos (own_ltT (x := p1.toInt) (y := (8592)) rfl rfl (by omega))).trans ((if_pos (own_ltT (x := p1.toInt) (y := (12272)) rfl rfl (by omega))).trans ((if_pos (own_ltT (x := p1.toInt) (y := (55296)) rfl rfl (by omega))).trans ((if_pos (own_ltT (x := p1.toInt) (y := (64976)) rfl rfl (by omega))).trans ((if_pos (own_ltT (x := p1.toInt) (y := (65534)) rfl rfl (by omega))).trans (rfl))))))))))))))))))))))
    exact e1.trans e2.symm
  by_cases k45 : p1.toInt < 8207
  · have e1 : own_f0 p1 = (0 : Int32) := (if_neg (own_eqF (x := p1.toInt) (y := (58)) rfl rfl (by omega))).trans ((if_neg (own_ltF (x := p1.toInt) (y := (65)) rfl rfl (by omega))).trans ((if_pos (own_ltT (x := (90)) (y := p1.toInt) rfl rfl (by omega))).trans ((if_neg (own_eqF (x := p1.toInt) (y := (95)) rfl rfl (by omega))).trans ((if_neg (own_ltF (x := p1.toInt) (y := (97)) rfl rfl (by omega))).trans ((if_pos (own_ltT (x := (122)) (y := p1.toInt) rfl rfl (by omega))).trans ((if_neg (own_ltF (x := p1.toInt) (y := (192)) rfl rfl (by omega))).trans ((if_pos (own_ltT (x := (214)) (y := p1.toInt) rfl rfl (by omega))).trans ((if_neg (own_ltF (x := p1.toInt) (y := (216)) rfl rfl (by omega))).trans ((if_pos (own_ltT (x := (246)) (y := p1.toInt) rfl rfl (by omega))).trans ((if_neg (own_ltF (x := p1.toInt) (y := (248)) rfl rfl (by omega))).trans ((if_pos (own_ltT (x := (767)) (y := p1.toInt) rfl rfl (by omega))).trans ((if_neg (own_ltF (x := p1.toInt) (y := (880)) rfl rfl (by omega))).trans ((if_pos (own_ltT (x := (893)) (y := p1.toInt) rfl rfl (by omega))).trans ((if_neg (own_ltF (x := p1.toInt) (y := (895)) rfl rfl (by omega))).trans ((if_pos (own_ltT (x := (8191)) (y := p1.toInt) rfl rfl (by omega))).trans ((if_neg (own_ltF (x := p1.toInt) (y := (8204)) rfl rfl (by omega))).trans ((if_pos (own_ltT (x := (8205)) (y := p1.toInt) rfl rfl (by omega))).trans ((if_pos (own_ltT (x := p1.toInt) (y := (8304)) rfl rfl (by omega))).trans ((if_pos (own_ltT (x := p1.toInt) (y := (11264)) rfl rfl (by omega))).trans ((if_pos (own_ltT (x := p1.toInt) (y := (12289)) rfl rfl (by omega))).trans ((if_pos (own_ltT (x := p1.toInt) (y := (63744)) rfl rfl (by omega))).trans ((if_pos (own_ltT (x := p1.toInt) (y := (65008)) rfl rfl (by omega))).trans ((if_pos (own_ltT (x := p1.toInt) (y := (65536)) rfl rfl (by omega))).trans (rfl))))))))))))))))))))))))
    have e2 : own_g0 p1 = (0 : Int32) := (if_neg (own_ltF (x := p1.toInt) (y := (58)) rfl rfl (by omega))).trans ((if_neg (own_ltF (x := (983039)) (y := p1.toInt) rfl rfl (by omega))).trans ((if_neg (own_ltF (x := p1.toInt) (y := (59)) rfl rfl (by omega))).trans ((if_pos (own_ltT (x := (64)) (y := p1.toInt) rfl rfl (by omega))).trans ((if_neg (own_ltF (x := p1.toInt) (y := (91)) rfl rfl (by omega))).trans ((if_pos (own_ltT (x := (94)) (y := p1.toInt) rfl rfl (by omega))).trans ((if_neg (own_eqF (x := p1.toInt) (y := (96)) rfl rfl (by omega))).trans ((if_neg (own_ltF (x := p1.toInt) (y := (123)) rfl rfl (by omega))).trans ((if_pos (own_ltT (x := (191)) (y := p1.toInt) rfl rfl (by omega))).trans ((if_neg (own_eqF (x := p1.toInt) (y := (215)) rfl rfl (by omega))).trans ((if_neg (own_eqF (x := p1.toInt) (y := (247)) rfl rfl (by omega))).trans ((if_neg (own_ltF (x := p1.toInt) (y := (768)) rfl rfl (by omega))).trans ((if_pos (own_ltT (x := (879)) (y := p1.toInt) rfl rfl (by omega))).trans ((if_neg (own_eqF (x := p1.toInt) (y := (894)) rfl rfl (by omega))).trans ((if_neg (own_ltF (x := p1.toInt) (y := (8192)) rfl rfl (by omega))).trans ((if_pos (own_ltT (x := (8203)) (y := p1.toInt) rfl rfl (by omega))).trans ((if_neg (own_ltF (x := p1.toInt) (y := (8206)) rfl rfl (by omega))).trans ((if_neg (own_ltF (x := (8303)) (y := p1.toInt) rfl rfl (by omega))).trans (rfl))))))))))))))))))
    exact e1.trans e2.symm
  by_cases k46 : p1.toInt < 8303
  · have e1 : own_f0 p1 = (0 : Int32) := (if_neg (own_eqF (x := p1.toInt) (y := (58)) rfl rfl (by omega))).trans ((if_neg (own_ltF (x := p1.toInt) (y := (65)) rfl rfl (by omega))).trans ((if_pos (own_ltT (x := (90)) (y := p1.toInt) rfl rfl (by omega))).trans ((if_neg (own_eqF (x := p1.toInt) (y := (95)) rfl rfl (by omega))).trans ((if_neg (own_ltF (x := p1.toInt) (y := (97)) rfl rfl (by omega))).trans ((if_pos (own_ltT (x := (122)) (y := p1.toInt) rfl rfl (by omega))).trans ((if_neg (own_ltF (x := p1.toInt) (y := (192)) rfl rfl (by omega))).trans ((if_pos (own_ltT (x := (214)) (y := p1.toInt) rfl rfl (by omega))).trans ((if_neg (own_ltF (x := p1.toInt) (y := (216)) rfl rfl (by omega))).trans ((if_pos (own_ltT (x := (246)) (y := p1.toInt) rfl rfl (by omega))).trans ((if_neg (own_ltF (x := p1.toInt) (y := (248)) rfl rfl (by omega))).trans ((if_pos (own_ltT (x := (767)) (y := p1.toInt) rfl rfl (by omega))).trans ((if_neg (own_ltF (x := p1.toInt) (y := (880)) rfl rfl (by omega))).trans ((if_pos (own_ltT (x := (893)) (y := p1.toInt) rfl rfl (by omega))).trans ((if_neg (own_ltF (x := p1.toInt) (y := (895)) rfl rfl (by omega))).trans ((if_pos (own_ltT (x := (8191)) (y := p1.toInt) rfl rfl (by omega))).trans ((if_neg (own_ltF (x := p1.toInt) (y := (8204)) rfl rfl (by omega))).trans ((if_pos (own_ltT (x := (8205)) (y := p1.toInt) rfl rfl (by omega))).trans ((if_pos (own_ltT (x := p1.toInt) (y := (8304)) rfl rfl (by omega))).trans ((if_pos (own_ltT (x := p1.toInt) (y := (11264)) rfl rfl (by omega))).trans ((if_pos (own_ltT (x := p1.toInt) (y := (12289)) rfl rfl (by omega))).trans ((if_pos (own_ltT (x := p1.toInt) (y := (63744)) rfl rfl (by omega))).trans ((if_pos (own_ltT (x := p1.toInt) (y := (65008)) rfl rfl (by omega))).trans ((if_pos (own_ltT (x := p1.toInt) (y := (65536)) rfl rfl (by omega))).trans (rfl))))))))))))))))))))))))
    have e2 : own_g0 p1 = (0 : Int32) := (if_neg (own_ltF (x := p1.toInt) (y := (58)) rfl rfl (by omega))).trans ((if_neg (own_ltF (x := (983039)) (y := p1.toInt) rfl rfl (by omega))).trans ((if_neg (own_ltF (x := p1.toInt) (y := (59)) rfl rfl (by omega))).trans ((if_pos (own_ltT (x := (64)) (y := p1.toInt) rfl rfl (by omega))).trans ((if_neg (own_ltF (x := p1.toInt) (y := (91)) rfl rfl (by omega))).trans ((if_pos (own_ltT (x := (94)) (y := p1.toInt) rfl rfl (by omega))).trans ((if_neg (own_eqF (x := p1.toInt) (y := (96)) rfl rfl (by omega))).trans ((if_neg (own_ltF (x := p1.toInt) (y := (123)) rfl rfl (by omega))).trans ((if_pos (own_ltT (x := (191)) (y := p1.toInt) rfl rfl (by omega))).trans ((if_neg (own_eqF (x := p1.toInt) (y := (215)) rfl rfl (by omega))).trans ((if_neg (own_eqF (x := p1.toInt) (y := (247)) rfl rfl (by omega))).trans ((if_neg (own_ltF (x := p1.toInt) (y := (768)) rfl rfl (by omega))).trans ((if_pos (own_ltT (x := (879)) (y := p1.toInt) rfl rfl (by omega))).trans ((if_neg (own_eqF (x := p1.toInt) (y := (894)) rfl rfl (by omega))).trans ((if_neg (own_ltF (x := p1.toInt) (y := (8192)) rfl rfl (by omega))).trans ((if_pos (own_ltT (x := (8203)) (y := p1.toInt) rfl rfl (by omega))).trans ((if_neg (own_ltF (x := p1.toInt) (y := (8206)) rfl rfl (by omega))).trans ((if_neg (own_ltF (x := (8303)) (y := p1.toInt) rfl rfl (by omega))).trans (rfl))))))))))))))))))
    exact e1.trans e2.symm
  by_cases k47 : p1.toInt < 8304
  · have e1 : own_f0 p1 = (0 : Int32) := (if_neg (own_eqF (x := p1.toInt) (y := (58)) rfl rfl (by omega))).trans ((if_neg (own_ltF (x := p1.toInt) (y := (65)) rfl rfl (by omega))).trans ((if_pos (own_ltT (x := (90)) (y := p1.toInt) rfl rfl (by omega))).trans ((if_neg (own_eqF (x := p1.toInt) (y := (95)) rfl rfl (by omega))).trans ((if_neg (own_ltF (x := p1.toInt) (y := (97)) rfl rfl (by omega))).trans ((if_pos (own_ltT (x := (122)) (y := p1.toInt) rfl rfl (by omega))).trans ((if_neg (own_ltF (x := p1.toInt) (y := (192)) rfl rfl (by omega))).trans ((if_pos (own_ltT (x := (214)) (y := p1.toInt) rfl rfl (by omega))).trans ((if_neg (own_ltF (x := p1.toInt) (y := (216)) rfl rfl (by omega))).trans ((if_pos (own_ltT (x := (246)) (y := p1.toInt) rfl rfl (by omega))).trans ((if_neg (own_ltF (x := p1.toInt) (y := (248)) rfl rfl (by omega))).trans ((if_pos (own_ltT (x := (767)) (y := p1.toInt) rfl rfl (by omega))).trans ((if_neg (own_ltF (x := p1.toInt) (y := (880)) rfl rfl (by omega))).trans ((if_pos (own_ltT (x := (893)) (y := p1.toInt) rfl rfl (by omega))).trans ((if_neg (own_ltF (x := p1.toInt) (y := (895)) rfl rfl (by omega))).trans ((if_pos (own_ltT (x := (8191)) (y := p1.toInt) rfl rfl (by omega))).trans ((if_neg (own_ltF (x := p1.toInt) (y := (8204)) rfl rfl (by omega))).trans ((if_pos (own_ltT (x := (8205)) (y := p1.toInt) rfl rfl (by omega))).trans ((if_pos (own_ltT (x := p1.toInt) (y := (8304)) rfl rfl (by omega))).trans ((if_pos (own_ltT (x := p1.toInt) (y := (11264)) rfl rfl (by omega))).trans ((if_pos (own_ltT (x := p1.toInt) (y := (12289)) rfl rfl (by omega))).trans ((if_pos (own_ltT (x := p1.toInt) (y := (63744)) rfl rfl (by omega))).trans ((if_pos (own_ltT (x := p1.toInt) (y := (65008)) rfl rfl (by omega))).trans ((if_pos (own_ltT (x := p1.toInt) (y := (65536)) rfl rfl (by omega))).trans (rfl))))))))))))))))))))))))
    have e2 : own_g0 p1 = (0 : Int32) := (if_neg (own_ltF (x := p1.toInt) (y := (58)) rfl rfl (by omega))).trans ((if_neg (own_ltF (x := (983039)) (y := p1.toInt) rfl rfl (by omega))).trans ((if_neg (own_ltF (x := p1.toInt) (y := (59)) rfl rfl (by omega))).trans ((if_pos (own_ltT (x := (64)) (y := p1.toInt) rfl rfl (by omega))).trans ((if_neg (own_ltF (x := p1.toInt) (y := (91)) rfl rfl (by omega))).trans ((if_pos (own_ltT (x := (94)) (y := p1.toInt) rfl rfl (by omega))).trans ((if_neg (own_eqF (x := p1.toInt) (y := (96)) rfl rfl (by omega))).trans ((if_neg (own_ltF (x := p1.toInt) (y := (123)) rfl rfl (by omega))).trans ((if_pos (own_ltT (x := (191)) (y := p1.toInt) rfl rfl (by omega))).trans ((if_neg (own_eqF (x := p1.toInt) (y := (215)) rfl rfl (by omega))).trans ((if_neg (own_eqF (x := p1.toInt) (y := (247)) rfl rfl (by omega))).trans ((if_neg (own_ltF (x := p1.toInt) (y := (768)) rfl rfl (by omega))).trans ((if_pos (own_ltT (x := (879)) (y := p1.toInt) rfl rfl (by omega))).trans ((if_neg (own_eqF (x := p1.toInt) (y := (894)) rfl rfl (by omega))).trans ((if_neg (own_ltF (x := p1.toInt) (y := (8192)) rfl rfl (by omega))).trans ((if_pos (own_ltT (x := (8203)) (y := p1.toInt) rfl rfl (by omega))).trans ((if_neg (own_ltF (x := p1.toInt) (y := (8206)) rfl rfl (by omega))).trans ((if_neg (own_ltF (x := (8303)) (y := p1.toInt) rfl rfl (by omega))).trans (rfl))))))))))))))))))
    exact e1.trans e2.symm
  by_cases k48 : p1.toInt < 8305
  · have e1 : own_f0 p1 = (1 : Int32) := (if_neg (own_eqF (x := p1.toInt) (y := (58)) rfl rfl (by omega))).trans ((if_neg (own_ltF (x := p1.toInt) (y := (65)) rfl rfl (by omega))).trans ((if_pos (own_ltT (x := (90)) (y := p1.toInt) rfl rfl (by omega))).trans ((if_neg (own_eqF (x := p1.toInt) (y := (95)) rfl rfl (by omega))).trans ((if_neg (own_ltF (x := p1.toInt) (y := (97)) rfl rfl (by omega))).trans ((if_pos (own_ltT (x := (122)) (y := p1.toInt) rfl rfl (by omega))).trans ((if_neg (own_ltF (x := p1.toInt) (y := (192)) rfl rfl (by omega))).trans ((if_pos (own_ltT (x := (214)) (y := p1.toInt) rfl rfl (by omega))).trans ((if_neg (own_ltF (x := p1.toInt) (y := (216)) rfl rfl (by omega))).trans ((if_pos (own_ltT (x := (246)) (y := p1.toInt) rfl rfl (by omega))).trans ((if_neg (own_ltF (x := p1.toInt) (y := (248)) rfl rfl (by omega))).trans ((if_pos (own_ltT (x := (767)) (y := p1.toInt) rfl rfl (by omega))).trans ((if_neg (own_ltF (x := p1.toInt) (y := (880)) rfl rfl (by omega))).trans ((if_pos (own_ltT (x := (893)) (y := p1.toInt) rfl rfl (by omega))).trans ((if_neg (own_ltF (x := p1.toInt) (y := (895)) rfl rfl (by omega))).trans ((if_pos (own_ltT (x := (8191)) (y := p1.toInt) rfl rfl (by omega))).trans ((if_neg (own_ltF (x := p1.toInt) (y := (8204)) rfl rfl (by omega))).trans ((if_pos (own_ltT (x := (8205)) (y := p1.toInt) rfl rfl (by omega))).trans ((if_neg (own_ltF (x := p1.toInt) (y := (8304)) rfl rfl (by omega))).trans ((if_neg (own_ltF (x := (8591)) (y := p1.toInt) rfl rfl (by omega))).trans (rfl))))))))))))))))))))
    have e2 : own_g0 p1 = (1 : Int32) := (if_neg (own_ltF (x := p1.toInt) (y := (58)) rfl rfl (by omega))).trans ((if_neg (own_ltF (x := (983039)) (y := p1.toInt) rfl rfl (by omega))).trans ((if_neg (own_ltF (x := p1.toInt) (y := (59)) rfl rfl (by omega))).trans ((if_pos (own_ltT (x := (64)) (y := p1.toInt) rfl rfl (by omega))).trans ((if_neg (own_ltF (x := p1.toInt) (y := (91)) rfl rfl (by omega))).trans ((if_pos (own_ltT (x := (94)) (y := p1.toInt) rfl rfl (by omega))).trans ((if_neg (own_eqF (x := p1.toInt) (y := (96)) rfl rfl (by omega))).trans ((if_neg (own_ltF (x := p1.toInt) (y := (123)) rfl rfl (by omega))).trans ((if_pos (own_ltT (x := (191)) (y := p1.toInt) rfl rfl (by omega))).trans ((if_neg (own_eqF (x := p1.toInt) (y := (215)) rfl rfl (by omega))).trans ((if_neg (own_eqF (x := p1.toInt) (y := (247)) rfl rfl (by omega))).trans ((if_neg (own_ltF (x := p1.toInt) (y := (768)) rfl rfl (by omega))).trans ((if_pos (own_ltT (x := (879)) (y := p1.toInt) rfl rfl (by omega))).trans ((if_neg (own_eqF (x := p1.toInt) (y := (894)) rfl rfl (by omega))).trans ((if_neg (own_ltF (x := p1.toInt) (y := (8192)) rfl rfl (by omega))).trans ((if_pos (own_ltT (x := (8203)) (y := p1.toInt) rfl rfl (by omega))).trans ((if_neg (own_ltF (x := p1.toInt) (y := (8206)) rfl rfl (by omega))).trans ((if_pos (own_ltT (x := (8303)) (y := p1.toInt) rfl rfl (by omega))).trans ((if_pos (own_ltT (x := p1.toInt) (y := (8592)) rfl rfl (by omega))).trans ((if_pos (own_ltT (x := p1.toInt) (y := (12272)) rfl rfl (by omega))).trans ((if_pos (own_ltT (x := p1.toInt) (y := (55296)) rfl rfl (by omega))).trans ((if_pos (own_ltT (x := p1.toInt) (y := (64976)) rfl rfl (by omega))).trans ((if_pos (own_ltT (x := p1.toInt) (y := (65534)) rfl rfl (by omega))).trans (rfl)))))))))))))))))))))))
    exact e1.trans e2.symm
  by_cases k49 : p1.toInt < 8591
  · have e1 : own_f0 p1 = (1 : Int32) := (if_neg (own_eqF (x := p1.toInt) (y := (58)) rfl rfl (by omega))).trans ((if_neg (own_ltF (x := p1.toInt) (y := (65)) rfl rfl (by omega))).trans ((if_pos (own_ltT (x := (90)) (y := p1.toInt) rfl rfl (by omega))).trans ((if_neg (own_eqF (x := p1.toInt) (y := (95)) rfl rfl (by omega))).trans ((if_neg (own_ltF (x := p1.toInt) (y := (97)) rfl rfl (by omega))).trans ((if_pos (own_ltT (x := (122)) (y := p1.toInt) rfl rfl (by omega))).trans ((if_neg (own_ltF (x := p1.toInt) (y := (192)) rfl rfl (by omega))).trans ((if_pos (own_ltT (x := (214)) (y := p1.toInt) rfl rfl (by omega))).trans ((if_neg (own_ltF (x := p1.toInt) (y := (216)) rfl rfl (by omega))).trans ((if_pos (own_ltT (x := (246)) (y := p1.toInt) rfl rfl (by omega))).trans ((if_neg (own_ltF (x := p1.toInt) (y := (248)) rfl rfl (by omega))).trans ((if_pos (own_ltT (x := (767)) (y := p1.toInt) rfl rfl (by omega))).trans ((if_neg (own_ltF (x := p1.toInt) (y := (880)) rfl rfl (by omega))).trans ((if_pos (own_ltT (x := (893)) (y := p1.toInt) rfl rfl (by omega))).trans ((if_neg (own_ltF (x := p1.toInt) (y := (895)) rfl rfl (by omega))).trans ((if_pos (own_ltT (x := (8191)) (y := p1.toInt) rfl rfl (by omega))).trans ((if_neg (own_ltF (x := p1.toInt) (y := (8204)) rfl rfl (by omega))).trans ((if_pos (own_ltT (x := (8205)) (y := p1.toInt) rfl rfl (by omega))).trans ((if_neg (own_ltF (x := p1.toInt) (y := (8304)) rfl rfl (by omega))).trans ((if_neg (own_ltF (x := (8591)) (y := p1.toInt) rfl rfl (by omega))).trans (rfl))))))))))))))))))))
    have e2 : own_g0 p1 = (1 : Int32) := (if_neg (own_ltF (x := p1.toInt) (y := (58)) rfl rfl (by omega))).trans ((if_neg (own_ltF (x := (983039)) (y := p1.toInt) rfl rfl (by omega))).trans ((if_neg (own_ltF (x := p1.toInt) (y := (59)) rfl rfl (by omega))).trans ((if_pos (own_ltT (x := (64)) (y := p1.toInt) rfl rfl (by omega))).trans ((if_neg (own_ltF (x := p1.toInt) (y := (91)) rfl rfl (by omega))).trans ((if_pos (own_ltT (x := (94)) (y := p1.toInt) rfl rfl (by omega))).trans ((if_neg (own_eqF (x := p1.toInt) (y := (96)) rfl rfl (by omega))).trans ((if_neg (own_ltF (x := p1.toInt) (y := (123)) rfl rfl (by omega))).trans ((if_pos (own_ltT (x := (191)) (y := p1.toInt) rfl rfl (by omega))).trans ((if_neg (own_eqF (x := p1.toInt) (y := (215)) rfl rfl (by omega))).trans ((if_neg (own_eqF (x := p1.toInt) (y := (247)) rfl rfl (by omega))).trans ((if_neg (own_ltF (x := p1.toInt) (y := (768)) rfl rfl (by omega))).trans ((if_pos (own_ltT (x := (879)) (y := p1.toInt) rfl rfl (by omega))).trans ((if_neg (own_eqF (x := p1.toInt) (y := (894)) rfl rfl (by omega))).trans ((if_neg (own_ltF (x := p1.toInt) (y := (8192)) rfl rfl (by omega))).trans ((if_pos (own_ltT (x := (8203)) (y := p1.toInt) rfl rfl (by omega))).trans ((if_neg (own_ltF (x := p1.toInt) (y := (8206)) rfl rfl (by omega))).trans ((if_pos (own_ltT (x := (8303)) (y := p1.toInt) rfl rfl (by omega))).trans ((if_pos (own_ltT (x := p1.toInt) (y := (8592)) rfl rfl (by omega))).trans ((if_pos (own_ltT (x := p1.toInt) (y := (12272)) rfl rfl (by omega))).trans ((if_pos (own_ltT (x := p1.toInt) (y := (55296)) rfl rfl (by omega))).trans ((if_pos (own_ltT (x := p1.toInt) (y := (64976)) rfl rfl (by omega))).trans ((if_pos (own_ltT (x := p1.toInt) (y := (65534)) rfl rfl (by omega))).trans (rfl)))))))))))))))))))))))
    exact e1.trans e2.symm
  by_cases k50 : p1.toInt < 8592
  · have e1 : own_f0 p1 = (1 : Int32) := (if_neg (own_eqF (x := p1.toInt) (y := (58)) rfl rfl (by omega))).trans ((if_neg (own_ltF (x := p1.toInt) (y := (65)) rfl rfl (by omega))).trans ((if_pos (own_ltT (x := (90)) (y := p1.toInt) rfl rfl (by omega))).trans ((if_neg (own_eqF (x := p1.toInt) (y := (95)) rfl rfl (by omega))).trans ((if_neg (own_ltF (x := p1.toInt) (y := (97)) rfl rfl (by omega))).trans ((if_pos (own_ltT (x := (122)) (y := p1.toInt) rfl rfl (by omega))).trans ((if_neg (own_ltF (x := p1.toInt) (y := (192)) rfl rfl (by omega))).trans ((if_pos (own_ltT (x := (214)) (y := p1.toInt) rfl rfl (by omega))).trans ((if_neg (own_ltF (x := p1.toInt) (y := (216)) rfl rfl (by omega))).trans ((if_pos (own_ltT (x := (246)) (y := p1.toInt) rfl rfl (by omega))).trans ((if_neg (own_ltF (x := p1.toInt) (y := (248)) rfl rfl (by omega))).trans ((if_pos (own_ltT (x := (767)) (y := p1.toInt) rfl rfl (by omega))).trans ((if_neg (own_ltF (x := p1.toInt) (y := (880)) rfl rfl (by omega))).trans ((if_pos (own_ltT (x := (893)) (y := p1.toInt) rfl rfl (by omega))).trans ((if_neg (own_ltF (x := p1.toInt) (y := (895)) rfl rfl (by omega))).trans ((if_pos (own_ltT (x := (8191)) (y := p1.toInt) rfl rfl (by omega))).trans ((if_neg (own_ltF (x := p1.toInt) (y := (8204)) rfl rfl (by omega))).trans ((if_pos (own_ltT (x := (8205)) (y := p1.toInt) rfl rfl (by omega))).trans ((if_neg (own_ltF (x := p1.toInt) (y := (8304)) rfl rfl (by omega))).trans ((if_neg (own_ltF (x := (8591)) (y := p1.toInt) rfl rfl (by omega))).trans (rfl))))))))))))))))))))
    have e2 : own_g0 p1 = (1 : Int32) := (if_neg (own_ltF (x := p1.toInt) (y := (58)) rfl rfl (by omega))).trans ((if_neg (own_ltF (x := (983039)) (y := p1.toInt) rfl rfl (by omega))).trans ((if_neg (own_ltF (x := p1.toInt) (y := (59)) rfl rfl (by omega))).trans ((if_pos (own_ltT (x := (64)) (y := p1.toInt) rfl rfl (by omega))).trans ((if_neg (own_ltF (x := p1.toInt) (y := (91)) rfl rfl (by omega))).trans ((if_pos (own_ltT (x := (94)) (y := p1.toInt) rfl rfl (by omega))).trans ((if_neg (own_eqF (x := p1.toInt) (y := (96)) rfl rfl (by omega))).trans ((if_neg (own_ltF (x := p1.toInt) (y := (123)) rfl rfl (by omega))).trans ((if_pos (own_ltT (x := (191)) (y := p1.toInt) rfl rfl (by omega))).trans ((if_neg (own_eqF (x := p1.toInt) (y := (215)) rfl rfl (by omega))).trans ((if_neg (own_eqF (x := p1.toInt) (y := (247)) rfl rfl (by omega))).trans ((if_neg (own_ltF (x := p1.toInt) (y := (768)) rfl rfl (by omega))).trans ((if_pos (own_ltT (x := (879)) (y := p1.toInt) rfl rfl (by omega))).trans ((if_neg (own_eqF (x := p1.toInt) (y := (894)) rfl rfl (by omega))).trans ((if_neg (own_ltF (x := p1.toInt) (y := (8192)) rfl rfl (by omega))).trans ((if_pos (own_ltT (x := (8203)) (y := p1.toInt) rfl rfl (by omega))).trans ((if_neg (own_ltF (x := p1.toInt) (y := (8206)) rfl rfl (by omega))).trans ((if_pos (own_ltT (x := (8303)) (y := p1.toInt) rfl rfl (by omega))).trans ((if_pos (own_ltT (x := p1.toInt) (y := (8592)) rfl rfl (by omega))).trans ((if_pos (own_ltT (x := p1.toInt) (y := (12272)) rfl rfl (by omega))).trans ((if_pos (own_ltT (x := p1.toInt) (y := (55296)) rfl rfl (by omega))).trans ((if_pos (own_ltT (x := p1.toInt) (y := (64976)) rfl rfl (by omega))).trans ((if_pos (own_ltT (x := p1.toInt) (y := (65534)) rfl rfl (by omega))).trans (rfl)))))))))))))))))))))))
    exact e1.trans e2.symm
  by_cases k51 : p1.toInt < 8593
  · have e1 : own_f0 p1 = (0 : Int32) := (if_neg (own_eqF (x := p1.toInt) (y := (58)) rfl rfl (by omega))).trans ((if_neg (own_ltF (x := p1.toInt) (y := (65)) rfl rfl (by omega))).trans ((if_pos (own_ltT (x := (90)) (y := p1.toInt) rfl rfl (by omega))).trans ((if_neg (own_eqF (x := p1.toInt) (y := (95)) rfl rfl (by omega))).trans ((if_neg (own_ltF (x := p1.toInt) (y := (97)) rfl rfl (by omega))).trans ((if_pos (own_ltT (x := (122)) (y := p1.toInt) rfl rfl (by omega))).trans ((if_neg (own_ltF (x := p1.toInt) (y := (192)) rfl rfl (by omega))).trans ((if_pos (own_ltT (x := (214)) (y := p1.toInt) rfl rfl (by omega))).trans ((if_neg (own_ltF (x := p1.toInt) (y := (216)) rfl rfl (by omega))).trans ((if_pos (own_ltT (x := (246)) (y := p1.toInt) rfl rfl (by omega))).trans ((if_neg (own_ltF (x := p1.toInt) (y := (248)) rfl rfl (by omega))).trans ((if_pos (own_ltT (x := (767)) (y := p1.toInt) rfl rfl (by omega))).trans ((if_neg (own_ltF (x := p1.toInt) (y := (880)) rfl rfl (by omega))).trans ((if_pos (own_ltT (x := (893)) (y := p1.toInt) rfl rfl (by omega))).trans ((if_neg (own_ltF (x := p1.toInt) (y := (895)) rfl rfl (by omega))).trans ((if_pos (own_ltT (x := (8191)) (y := p1.toInt) rfl rfl (by omega))).trans ((if_neg (own_ltF (x := p1.toInt) (y := (8204)) rfl rfl (by omega))).trans ((if_pos (own_ltT (x := (8205)) (y := p1.toInt) rfl rfl (by omega))).trans ((if_neg (own_ltF (x := p1.toInt) (y := (8304)) rfl rfl (by omega))).trans ((if_pos (own_ltT (x := (8591)) (y := p1.toInt) rfl rfl (by omega))).trans ((if_pos (own_ltT (x := p1.toInt) (y := (11264)) rfl rfl (by omega))).trans ((if_pos (own_ltT (x := p1.toInt) (y := (12289)) rfl rfl (by omega))).trans ((if_pos (own_ltT (x := p1.toInt) (y := (63744)) rfl rfl (by omega))).trans ((if_pos (own_ltT (x := p1.toInt) (y := (65008)) rfl rfl (by omega))).trans ((if_pos (own_ltT (x := p1.toInt) (y := (65536)) rfl rfl (by omega))).trans (rfl)))))))))))))))))))))))))
    have e2 : own_g0 p1 = (0 : Int32) := (if_neg (own_ltF (x := p1.toInt) (y := (58)) rfl rfl (by omega))).trans ((if_neg (own_ltF (x := (983039)) (y := p1.toInt) rfl rfl (by omega))).trans ((if_neg (own_ltF (x := p1.toInt) (y := (59)) rfl rfl (by omega))).trans ((if_pos (own_ltT (x := (64)) (y := p1.toInt) rfl rfl (by omega))).trans ((if_neg (own_ltF (x := p1.toInt) (y := (91)) rfl rfl (by omega))).trans ((if_pos (own_ltT (x := (94)) (y := p1.toInt) rfl rfl (by omega))).trans ((if_neg (own_eqF (x := p1.toInt) (y := (96)) rfl rfl (by omega))).trans ((if_neg (own_ltF (x := p1.toInt) (y := (123)) rfl rfl (by omega))).trans ((if_pos (own_ltT (x := (191)) (y := p1.toInt) rfl rfl (by omega))).trans ((if_neg (own_eqF (x := p1.toInt) (y := (215)) rfl rfl (by omega))).trans ((if_neg (own_eqF (x := p1.toInt) (y := (247)) rfl rfl (by omega))).trans ((if_neg (own_ltF (x := p1.toInt) (y := (768)) rfl rfl (by omega))).trans ((if_pos (own_ltT (x := (879)) (y := p1.toInt) rfl rfl (by omega))).trans ((if_neg (own_eqF (x := p1.toInt) (y := (894)) rfl rfl (by omega))).trans ((if_neg (own_ltF (x := p1.toInt) (y := (8192)) rfl rfl (by omega))).trans ((if_pos (own_ltT (x := (8203)) (y := p1.toInt) rfl rfl (by omega))).trans ((if_neg (own_ltF (x := p1.toInt) (y := (8206)) rfl rfl (by omega))).trans ((if_pos (own_ltT (x := (8303)) (y := p1.toInt) rfl rfl (by omega))).trans ((if_neg (own_ltF (x := p1.toInt) (y := (8592)) rfl rfl (by omega))).trans ((if_neg (own_ltF (x := (11263)) (y := p1.toInt) rfl rfl (by omega))).trans (rfl))))))))))))))))))))
    exact e1.trans e2.symm
  by_cases k52 : p1.toInt < 11263
  · have e1 : own_f0 p1 = (0 : Int32) := (if_neg (own_eqF (x := p1.toInt) (y := (58)) rfl rfl (by omega))).trans ((if_neg (own_ltF (x := p1.toInt) (y := (65)) rfl rfl (by omega))).trans ((if_pos (own_ltT (x := (90)) (y := p1.toInt) rfl rfl (by omega))).trans ((if_neg (own_eqF (x := p1.toInt) (y := (95)) rfl rfl (by omega))).trans ((if_neg (own_ltF (x := p1.toInt) (y := (97)) rfl rfl (by omega))).trans ((if_pos (own_ltT (x := (122)) (y := p1.toInt) rfl rfl (by omega))).trans ((if_neg (own_ltF (x := p1.toInt) (y := (192)) rfl rfl (by omega))).trans ((if_pos (own_ltT (x := (214)) (y := p1.toInt) rfl rfl (by omega))).trans ((if_neg (own_ltF (x := p1.toInt) (y := (216)) rfl rfl (by omega))).trans ((if_pos (own_ltT (x := (246)) (y := p1.toInt) rfl rfl (by omega))).trans ((if_neg (own_ltF (x := p1.toInt) (y := (248)) rfl rfl (by omega))).trans ((if_pos (own_ltT (x := (767)) (y := p1.toInt) rfl rfl (by omega))).trans ((if_neg (own_ltF (x := p1.toInt) (y := (880)) rfl rfl (by omega))).trans ((if_pos (own_ltT (x := (893)) (y := p1.toInt) rfl rfl (by omega))).trans ((if_neg (own_ltF (x := p1.toInt) (y := (895)) rfl rfl (by omega))).trans ((if_pos (own_ltT (x := (8191)) (y := p1.toInt) rfl rfl (by omega))).trans ((if_neg (own_ltF (x := p1.toInt) (y := (8204)) rfl rfl (by omega))).trans ((if_pos (own_ltT (x := (8205)) (y := p1.toInt) rfl rfl (by omega))).trans ((if_neg (own_ltF (x := p1.toInt) (y := (8304)) rfl rfl (by omega))).trans ((if_pos (own_ltT (x := (8591)) (y := p1.toInt) rfl rfl (by omega))).trans ((if_pos (own_ltT (x := p1.toInt) (y := (11264)) rfl rfl (by omega))).trans ((if_pos (own_ltT (x := p1.toInt) (y := (12289)) rfl rfl (by omega))).trans ((if_pos (own_ltT (x := p1.toInt) (y := (63744)) rfl rfl (by omega))).trans ((if_pos (own_ltT (x := p1.toInt) (y := (65008)) rfl rfl (by omega))).trans ((if_pos (own_ltT (x := p1.toInt) (y := (65536)) rfl rfl (by omega))).trans (rfl)))))))))))))))))))))))))
    have e2 : own_g0 p1 = (0 : Int32) := (if_neg (own_ltF (x := p1.toInt) (y := (58)) rfl rfl (by omega))).trans ((if_neg (own_ltF (x := (983039)) (y := p1.toInt) rfl rfl (by omega))).trans ((if_neg (own_ltF (x := p1.toInt) (y := (59)) rfl rfl (by omega))).trans ((if_pos (own_ltT (x := (64)) (y := p1.toInt) rfl rfl (by omega))).trans ((if_neg (own_ltF (x := p1.toInt) (y := (91)) rfl rfl (by omega))).trans ((if_pos (own_ltT (x := (94)) (y := p1.toInt) rfl rfl (by omega))).trans ((if_neg (own_eqF (x := p1.toInt) (y := (96)) rfl rfl (by omega))).trans ((if_neg (own_ltF (x := p1.toInt) (y := (123)) rfl rfl (by omega))).trans ((if_pos (own_ltT (x := (191)) (y := p1.toInt) rfl rfl (by omega))).trans ((if_neg (own_eqF (x := p1.toInt) (y := (215)) rfl rfl (by omega))).trans ((if_neg (own_eqF (x := p1.toInt) (y := (247)) rfl rfl (by omega))).trans ((if_neg (own_ltF (x := p1.toInt) (y := (768)) rfl rfl (by omega))).trans ((if_pos (own_ltT (x := (879)) (y := p1.toInt) rfl rfl (by omega))).trans ((if_neg (own_eqF (x := p1.toInt) (y := (894)) rfl rfl (by omega))).trans ((if_neg (own_ltF (x := p1.toInt) (y := (8192)) rfl rfl (by omega))).trans ((if_pos (own_ltT (x := (8203)) (y := p1.toInt) rfl rfl (by omega))).trans ((if_neg (own_ltF (x := p1.toInt) (y := (8206)) rfl rfl (by omega))).trans ((if_pos (own_ltT (x := (8303)) (y := p1.toInt) rfl rfl (by omega))).trans ((if_neg (own_ltF (x := p1.toInt) (y := (8592)) rfl rfl (by omega))).trans ((if_neg (own_ltF (x := (11263)) (y := p1.toInt) rfl rfl (by omega))).trans (rfl))))))))))))))))))))
    exact e1.trans e2.symm
  by_cases k53 : p1.toInt < 11264
  · have e1 : own_f0 p1 = (0 : Int32) := (if_neg (own_eqF (x := p1.toInt) (y := (58)) rfl rfl (by omega))).trans ((if_neg (own_ltF (x := p1.toInt) (y := (65)) rfl rfl (by omega))).trans ((if_pos (own_ltT (x := (90)) (y := p1.toInt) rfl rfl (by omega))).trans ((if_neg (own_eqF (x := p1.toInt) (y := (95)) rfl rfl (by omega))).trans ((if_neg (own_ltF (x := p1.toInt) (y := (97)) rfl rfl (by omega))).trans ((if_pos (own_ltT (x := (122)) (y := p1.toInt) rfl rfl (by omega))).trans ((if_neg (own_ltF (x := p1.toInt) (y := (192)) rfl rfl (by omega))).trans ((if_pos (own_ltT (x := (214)) (y := p1.toInt) rfl rfl (by omega))).trans ((if_neg (own_ltF (x := p1.toInt) (y := (216)) rfl rfl (by omega))).trans ((if_pos (own_ltT (x := (246)) (y := p1.toInt) rfl rfl (by omega))).trans ((if_neg (own_ltF (x := p1.toInt) (y := (248)) rfl rfl (by omega))).trans ((if_pos (own_ltT (x := (767)) (y := p1.toInt) rfl rfl (by omega))).trans ((if_neg (own_ltF (x := p1.toInt) (y := (880)) rfl rfl (by omega))).trans ((if_pos (own_ltT (x := (893)) (y := p1.toInt) rfl rfl (by omega))).trans ((if_neg (own_ltF (x := p1.toInt) (y := (895)) rfl rfl (by omega))).trans ((if_pos (own_ltT (x := (8191)) (y := p1.toInt) rfl rfl (by omega))).trans ((if_neg (own_ltF (x := p1.toInt) (y := (8204)) rfl rfl (by omega))).trans ((if_pos (own_ltT (x := (8205)) (y := p1.toInt) rfl rfl (by omega))).trans ((if_neg (own_ltF (x := p1.toInt) (y := (8304)) rfl rfl (by omega))).trans ((if_pos (own_ltT (x := (8591)) (y := p1.toInt) rfl rfl (by omega))).trans ((if_pos (own_ltT (x := p1.toInt) (y := (11264)) rfl rfl (by omega))).trans ((if_pos (own_ltT (x := p1.toInt) (y := (12289)) rfl rfl (by omega))).trans ((if_pos (own_ltT (x := p1.toInt) (y := (63744)) rfl rfl (by omega))).trans ((if_pos (own_ltT (x := p1.toInt) (y := (65008)) rfl rfl (by omega))).trans ((if_pos (own_ltT (x := p1.toInt) (y := (65536)) rfl rfl (by omega))).trans (rfl)))))))))))))))))))))))))
    have e2 : own_g0 p1 = (0 : Int32) := (if_neg (own_ltF (x := p1.toInt) (y := (58)) rfl rfl (by omega))).trans ((if_neg (own_ltF (x := (983039)) (y := p1.toInt) rfl rfl (by omega))).trans ((if_neg (own_ltF (x := p1.toInt) (y := (59)) rfl rfl (by omega))).trans ((if_pos (own_ltT (x := (64)) (y := p1.toInt) rfl rfl (by omega))).trans ((if_neg (own_ltF (x := p1.toInt) (y := (91)) rfl rfl (by omega))).trans ((if_pos (own_ltT (x := (94)) (y := p1.toInt) rfl rfl (by omega))).trans ((if_neg (own_eqF (x := p1.toInt) (y := (96)) rfl rfl (by omega))).trans ((if_neg (own_ltF (x := p1.toInt) (y := (123)) rfl rfl (by omega))).trans ((if_pos (own_ltT (x := (191)) (y := p1.toInt) rfl rfl (by omega))).trans ((if_neg (own_eqF (x := p1.toInt) (y := (215)) rfl rfl (by omega))).trans ((if_neg (own_eqF (x := p1.toInt) (y := (247)) rfl rfl (by omega))).trans ((if_neg (own_ltF (x := p1.toInt) (y := (768)) rfl rfl (by omega))).trans ((if_pos (own_ltT (x := (879)) (y := p1.toInt) rfl rfl (by omega))).trans ((if_neg (own_eqF (x := p1.toInt) (y := (894)) rfl rfl (by omega))).trans ((if_neg (own_ltF (x := p1.toInt) (y := (8192)) rfl rfl (by omega))).trans ((if_pos (own_ltT (x := (8203)) (y := p1.toInt) rfl rfl (by omega))).trans ((if_neg (own_ltF (x := p1.toInt) (y := (8206)) rfl rfl (by omega))).trans ((if_pos (own_ltT (x := (8303)) (y := p1.toInt) rfl rfl (by omega))).trans ((if_neg (own_ltF (x := p1.toInt) (y := (8592)) rfl rfl (by omega))).trans ((if_neg (own_ltF (x := (11263)) (y := p1.toInt) rfl rfl (by omega))).trans (rfl))))))))))))))))))))
    exact e1.trans e2.symm
  by_cases k54 : p1.toInt < 11265
  · have e1 : own_f0 p1 = (1 : Int32) := (if_neg (own_eqF (x := p1.toInt) (y := (58)) rfl rfl (by omega))).trans ((if_neg (own_ltF (x := p1.toInt) (y := (65)) rfl rfl (by omega))).trans ((if_pos (own_ltT (x := (90)) (y := p1.toInt) rfl rfl (by omega))).trans ((if_neg (own_eqF (x := p1.toInt) (y := (95)) rfl rfl (by omega))).trans ((if_neg (own_ltF (x := p1.toInt) (y := (97)) rfl rfl (by omega))).trans ((if_pos (own_ltT (x := (122)) (y := p1.toInt) rfl rfl (by omega))).trans ((if_neg (own_ltF (x := p1.toInt) (y := (192)) rfl rfl (by omega))).trans ((if_pos (own_ltT (x := (214)) (y := p1.toInt) rfl rfl (by omega))).trans ((if_neg (own_ltF (x := p1.toInt) (y := (216)) rfl rfl (by omega))).trans ((if_pos (own_ltT (x := (246)) (y := p1.toInt) rfl rfl (by omega))).trans ((if_neg (own_ltF (x := p1.toInt) (y := (248)) rfl rfl (by omega))).trans ((if_pos (own_ltT (x := (767)) (y := p1.toInt) rfl rfl (by omega))).trans ((if_neg (own_ltF (x := p1.toInt) (y := (880)) rfl rfl (by omega))).trans ((if_pos (own_ltT (x := (893)) (y := p1.toInt) rfl rfl (by omega))).trans ((if_neg (own_ltF (x := p1.toInt) (y := (895)) rfl rfl (by omega))).trans ((if_pos (own_ltT (x := (8191)) (y := p1.toInt) rfl rfl (by omega))).trans ((if_neg (own_ltF (x := p1.toInt) (y := (8204)) rfl rfl (by omega))).trans ((if_pos (own_ltT (x := (8205)) (y := p1.toInt) rfl rfl (by omega))).trans ((if_neg (own_ltF (x := p1.toInt) (y := (8304)) rfl rfl (by omega))).trans ((if_pos (own_ltT (x := (8591)) (y := p1.toInt) rfl rfl (by omega))).trans ((if_neg (own_ltF (x := p1.toInt) (y := (11264)) rfl rfl (by omega))).trans ((if_neg (own_ltF (x := (12271)) (y := p1.toInt) rfl rfl (by omega))).trans (rfl))))))))))))))))))))))
    have e2 : own_g0 p1 = (1 : Int32) := (if_neg (own_ltF (x := p1.toInt) (y := (58)) rfl rfl (by omega))).trans ((if_neg (own_ltF (x := (983039)) (y := p1.toInt) rfl rfl (by omega))).trans ((if_neg (own_ltF (x := p1.toInt) (y := (59)) rfl rfl (by omega))).trans ((if_pos (own_ltT (x := (64)) (y := p1.toInt) rfl rfl (by omega))).trans ((if_neg (own_ltF (x := p1.toInt) (y := (91)) rfl rfl (by omega))).trans ((if_pos (own_ltT (x := (94)) (y := p1.toInt) rfl rfl (by omega))).trans ((if_neg (own_eqF (x := p1.toInt) (y := (96)) rfl rfl (by omega))).trans ((if_neg (own_ltF (x := p1.toInt) (y := (123)) rfl rfl (by omega))).trans ((if_pos (own_ltT (x := (191)) (y := p1.toInt) rfl rfl (by omega))).trans ((if_neg (own_eqF (x := p1.toInt) (y := (215)) rfl rfl (by omega))).trans ((if_neg (own_eqF (x := p1.toInt) (y := (247)) rfl rfl (by omega))).trans ((if_neg (own_ltF (x := p1.toInt) (y := (768)) rfl rfl (by omega))).trans ((if_pos (own_ltT (x := (879)) (y := p1.toInt) rfl rfl (by omega))).trans ((if_neg (own_eqF (x := p1.toInt) (y := (894)) rfl rfl (by omega))).trans ((if_neg (own_ltF (x := p1.toInt) (y := (8192)) rfl rfl (by omega))).trans ((if_pos (own_ltT (x := (8203)) (y := p1.toInt) rfl rfl (by omega))).trans ((if_neg (own_ltF (x := p1.toInt) (y := (8206)) rfl rfl (by omega))).trans ((if_pos (own_ltT (x := (8303)) (y := p1.toInt) rfl rfl (by omega))).trans ((if_neg (own_ltF (x := p1.toInt) (y := (8592)) rfl rfl (by omega))).trans ((if_pos (own_ltT (x := (11263)) (y := p1.toInt) rfl rfl (by omega))).trans ((if_pos (own_ltT (x := p1.toInt) (y := (12272)) rfl rfl (by omega))).trans ((if_pos (own_ltT (x := p1.toInt) (y := (55296)) rfl rfl (by omega))).trans ((if_pos (own_ltT (x := p1.toInt) (y := (64976)) rfl rfl (by omega))).trans ((if_pos (own_ltT (x := p1.toInt) (y := (65534)) rfl rfl (by omega))).trans (rfl))))))))))))))))))))))))
    exact e1.trans e2.symm
  by_cases k55 : p1.toInt < 12271
  · have e1 : own_f0 p1 = (1 : Int32) := (if_neg (own_eqF (x := p1.toInt) (y := (58)) rfl rfl (by omega))).trans ((if_neg (own_ltF (x := p1.toInt) (y := (65)) rfl rfl (by omega))).trans ((if_pos (own_ltT (x := (90)) (y := p1.toInt) rfl rfl (by omega))).trans ((if_neg (own_eqF (x := p1.toInt) (y := (95)) rfl rfl (by omega))).trans ((if_neg (own_ltF (x := p1.toInt) (y := (97)) rfl rfl (by omega))).trans ((if_pos (own_ltT (x := (122)) (y := p1.toInt) rfl rfl (by omega))).trans ((if_neg (own_ltF (x := p1.toInt) (y := (192)) rfl rfl (by omega))).trans ((if_pos (own_ltT (x := (214)) (y := p1.toInt) rfl rfl (by omega))).trans ((if_neg (own_ltF (x := p1.toInt) (y := (216)) rfl rfl (by omega))).trans ((if_pos (own_ltT (x := (246)) (y := p1.toInt) rfl rfl (by omega))).trans ((if_neg (own_ltF (x := p1.toInt) (y := (248)) rfl rfl (by omega))).trans ((if_pos (own_ltT (x := (767)) (y := p1.toInt) rfl rfl (by omega))).trans ((if_neg (own_ltF (x := p1.toInt) (y := (880)) rfl rfl (by omega))).trans ((if_pos (own_ltT (x := (893)) (y := p1.toInt) rfl rfl (by omega))).trans ((if_neg (own_ltF (x := p1.toInt) (y := (895)) rfl rfl (by omega))).trans ((if_pos (own_ltT (x := (8191)) (y := p1.toInt) rfl rfl (by omega))).trans ((if_neg (own_ltF (x := p1.toInt) (y := (8204)) rfl rfl (by omega))).trans ((if_pos (own_ltT (x := (8205)) (y := p1.toInt) rfl rfl (by omega))).trans ((if_neg (own_ltF (x := p1.toInt) (y := (8304)) rfl rfl (by omega))).trans ((if_pos (own_ltT (x := (8591)) (y := p1.toInt) rfl rfl (by omega))).trans ((if_neg (own_ltF (x := p1.toInt) (y := (11264)) rfl rfl (by omega))).trans ((if_neg (own_ltF (x := (12271)) (y := p1.toInt) rfl rfl (by omega))).trans (rfl))))))))))))))))))))))
    have e2 : own_g0 p1 = (1 : Int32) := (if_neg (own_ltF (x := p1.toInt) (y := (58)) rfl rfl (by omega))).trans ((if_neg (own_ltF (x := (983039)) (y := p1.toInt) rfl rfl (by omega))).trans ((if_neg (own_ltF (x := p1.toInt) (y := (59)) rfl rfl (by omega))).trans ((if_pos (own_ltT (x := (64)) (y := p1.toInt) rfl rfl (by omega))).trans ((if_neg (own_ltF (x := p1.toInt) (y := (91)) rfl rfl (by omega))).trans ((if_pos (own_ltT (x := (94)) (y := p1.toInt) rfl rfl (by omega))).trans ((if_neg (own_eqF (x := p1.toInt) (y := (96)) rfl rfl (by omega))).trans ((if_neg (own_ltF (x := p1.toInt) (y := (123)) rfl rfl (by omega))).trans ((if_pos (own_ltT (x := (191)) (y := p1.toInt) rfl rfl (by omega))).trans ((if_neg (own_eqF (x := p1.toInt) (y := (215)) rfl rfl (by omega))).trans ((if_neg (own_eqF (x := p1.toInt) (y := (247)) rfl rfl (by omega))).trans ((if_neg (own_ltF (x := p1.toInt) (y := (768)) rfl rfl (by omega))).trans ((if_pos (own_ltT (x := (879)) (y := p1.toInt) rfl rfl (by omega))).trans ((if_neg (own_eqF (x := p1.toInt) (y := (894)) rfl rfl (by omega))).trans ((if_neg (own_ltF (x := p1.toInt) (y := (8192)) rfl rfl (by omega))).trans ((if_pos (own_ltT (x := (8203)) (y := p1.toInt) rfl rfl (by omega))).trans ((if_neg (own_ltF (x := p1.toInt) (y := (8206)) rfl rfl (by omega))).trans ((if_pos (own_ltT (x := (8303)) (y := p1.toInt) rfl rfl (by omega))).trans ((if_neg (own_ltF (x := p1.toInt) (y := (8592)) rfl rfl (by omega))).trans ((if_pos (own_ltT (x := (11263)) (y := p1.toInt) rfl rfl (by omega))).trans ((if_pos (own_ltT (x := p1.toInt) (y := (12272)) rfl rfl (by omega))).trans ((if_pos (own_ltT (x := p1.toInt) (y := (55296)) rfl rfl (by omega))).trans ((if_pos (own_ltT (x := p1.toInt) (y := (64976)) rfl rfl (by omega))).trans ((if_pos (own_ltT (x := p1.toInt) (y := (65534)) rfl rfl (by omega))).trans (rfl))))))))))))))))))))))))
    exact e1.trans e2.symm
  by_cases k56 : p1.toInt < 12272
  · have e1 : own_f0 p1 = (1 : Int32) := (if_neg (own_eqF (x := p1.toInt) (y := (58)) rfl rfl (by omega))).trans ((if_neg (own_ltF (x := p1.toInt) (y := (65)) rfl rfl (by omega))).trans ((if_pos (own_ltT (x := (90)) (y := p1.toInt) rfl rfl (by omega))).trans ((if_neg (own_eqF (x := p1.toInt) (y := (95)) rfl rfl (by omega))).trans ((if_neg (own_ltF (x := p1.toInt) (y := (97)) rfl rfl (by omega))).trans ((if_pos (own_ltT (x := (122)) (y := p1.toInt) rfl rfl (by omega))).trans ((if_neg (own_ltF (x := p1.toInt) (y := (192)) rfl rfl (by omega))).trans ((if_pos (own_ltT (x := (214)) (y := p1.toInt) rfl rfl (by omega))).trans ((if_neg (own_ltF (x := p1.toInt) (y := (216)) rfl rfl (by omega))).trans ((if_pos (own_ltT (x := (246)) (y := p1.toInt) rfl rfl (by omega))).trans ((if_neg (own_ltF (x := p1.toInt) (y := (248)) rfl rfl (by omega))).trans ((if_pos (own_ltT (x := (767)) (y := p1.toInt) rfl rfl (by omega))).trans ((if_neg (own_ltF (x := p1.toInt) (y := (880)) rfl rfl (by omega))).trans ((if_pos (own_ltT (x := (893)) (y := p1.toInt) rfl rfl (by omega))).trans ((if_neg (own_ltF (x := p1.toInt) (y := (895)) rfl rfl (by omega))).trans ((if_pos (own_ltT (x := (8191)) (y := p1.toInt) rfl rfl (by omega))).trans ((if_neg (own_ltF (x := p1.toInt) (y := (8204)) rfl rfl (by omega))).trans ((if_pos (own_ltT (x := (8205)) (y := p1.toInt) rfl rfl (by omega))).trans ((if_neg (own_ltF (x := p1.toInt) (y := (8304)) rfl rfl (by omega))).trans ((if_pos (own_ltT (x := (8591)) (y := p1.toInt) rfl rfl (by omega))).trans ((if_neg (own_ltF (x := p1.toInt) (y := (11264)) rfl rfl (by omega))).trans ((if_neg (own_ltF (x := (12271)) (y := p1.toInt) rfl rfl (by omega))).trans (rfl))))))))))))))))))))))
    have e2 : own_g0 p1 = (1 : Int32) := (if_neg (own_ltF (x := p1.toInt) (y := (58)) rfl rfl (by omega))).trans ((if_neg (own_ltF (x := (983039)) (y := p1.toInt) rfl rfl (by omega))).trans ((if_neg (own_ltF (x := p1.toInt) (y := (59)) rfl rfl (by omega))).trans ((if_pos (own_ltT (x := (64)) (y := p1.toInt) rfl rfl (by omega))).trans ((if_neg (own_ltF (x := p1.toInt) (y := (91)) rfl rfl (by omega))).trans ((if_pos (own_ltT (x := (94)) (y := p1.toInt) rfl rfl (by omega))).trans ((if_neg (own_eqF (x := p1.toInt) (y := (96)) rfl rfl (by omega))).trans ((if_neg (own_ltF (x := p1.toInt) (y := (123)) rfl rfl (by omega))).trans ((if_pos (own_ltT (x := (191)) (y := p1.toInt) rfl rfl (by omega))).trans ((if_neg (own_eqF (x := p1.toInt) (y := (215)) rfl rfl (by omega))).trans ((if_neg (own_eqF (x := p1.toInt) (y := (247)) rfl rfl (by omega))).trans ((if_neg (own_ltF (x := p1.toInt) (y := (768)) rfl rfl (by omega))).trans ((if_pos (own_ltT (x := (879)) (y := p1.toInt) rfl rfl (by omega))).trans ((if_neg (own_eqF (x := p1.toInt) (y := (894)) rfl rfl (by omega))).trans ((if_neg (own_ltF (x := p1.toInt) (y := (8192)) rfl rfl (by omega))).trans ((if_pos (own_ltT (x := (8203)) (y := p1.toInt) rfl rfl (by omega))).trans ((if_neg (own_ltF (x := p1.toInt) (y := (8206)) rfl rfl (by omega))).trans ((if_pos (own_ltT (x := (8303)) (y := p1.toInt) rfl rfl (by omega))).trans ((if_neg (own_ltF (x := p1.toInt) (y := (8592)) rfl rfl (by omega))).trans ((if_pos (own_ltT (x := (11263)) (y := p1.toInt) rfl rfl (by omega))).trans ((if_pos (own_ltT (x := p1.toInt) (y := (12272)) rfl rfl (by omega))).trans ((if_pos (own_ltT (x := p1.toInt) (y := (55296)) rfl rfl (by omega))).trans ((if_pos (own_ltT (x := p1.toInt) (y := (64976)) rfl rfl (by omega))).trans ((if_pos (own_ltT (x := p1.toInt) (y := (65534)) rfl rfl (by omega))).trans (rfl))))))))))))))))))))))))
    exact e1.trans e2.symm
  by_cases k57 : p1.toInt < 12273
  · have e1 : own_f0 p1 = (0 : Int32) := (if_neg (own_eqF (x := p1.toInt) (y := (58)) rfl rfl (by omega))).trans ((if_neg (own_ltF (x := p1.toInt) (y := (65)) rfl rfl (by omega))).trans ((if_pos (own_ltT (x := (90)) (y := p1.toInt) rfl rfl (by omega))).trans ((if_neg (own_eqF (x := p1.toInt) (y := (95)) rfl rfl (by omega))).trans ((if_neg (own_ltF (x := p1.toInt) (y := (97)) rfl rfl (by omega))).trans ((if_pos (own_ltT (x := (122)) (y := p1.toInt) rfl rfl (by omega))).trans ((if_neg (own_ltF (x := p1.toInt) (y := (192)) rfl rfl (by omega))).trans ((if_pos (own_ltT (x := (214)) (y := p1.toInt) rfl rfl (by omega))).trans ((if_neg (own_ltF (x := p1.toInt) (y := (216)) rfl rfl (by omega))).trans ((if_pos (own_ltT (x := (246)) (y := p1.toInt) rfl rfl (by omega))).trans ((if_neg (own_ltF (x := p1.toInt) (y := (248)) rfl rfl (by omega))).trans ((if_pos (own_ltT (x := (767)) (y := p1.toInt) rfl rfl (by omega))).trans ((if_neg (own_ltF (x := p1.toInt) (y := (880)) rfl rfl (by omega))).trans ((if_pos (own_ltT (x := (893)) (y := p1.toInt) rfl rfl (by omega))).trans ((if_neg (own_ltF (x := p1.toInt) (y := (895)) rfl rfl (by omega))).trans ((if_pos (own_ltT (x := (8191)) (y := p1.toInt) rfl rfl (by omega))).trans ((if_neg (own_ltF (x := p1.toInt) (y := (8204)) rfl rfl (by omega))).trans ((if_pos (own_ltT (x := (8205)) (y := p1.toInt) rfl rfl (by omega))).trans ((if_neg (own_ltF (x := p1.toInt) (y := (8304)) rfl rfl (by omega))).trans ((if_pos (own_ltT (x := (8591)) (y := p1.toInt) rfl rfl (by omega))).trans ((if_neg (own_ltF (x := p1.toInt) (y := (11264)) rfl rfl (by omega))).trans ((if_pos (own_ltT (x := (12271)) (y := p1.toInt) rfl rfl (by omega))).trans ((if_pos (own_ltT (x := p1.toInt) (y := (12289)) rfl rfl (by omega))).trans ((if_pos (own_ltT (x := p1.toInt) (y := (63744)) rfl rfl (by omega))).trans ((if_pos (own_ltT (x := p1.toInt) (y := (65008)) rfl rfl (by omega))).trans ((if_pos (own_ltT (x := p1.toInt) (y := (65536)) rfl rfl (by omega))).trans (rfl))))))))))))))))))))))))))
    have e2 : own_g0 p1 = (0 : Int32) := (if_neg (own_ltF (x := p1.toInt) (y := (58)) rfl rfl (by omega))).trans ((if_neg (own_ltF (x := (983039)) (y := p1.toInt) rfl rfl (by omega))).trans ((if_neg (own_ltF (x := p1.toInt) (y := (59)) rfl rfl (by omega))).trans ((if_pos (own_ltT (x := (64)) (y := p1.toInt) rfl rfl (by omega))).trans ((if_neg (own_ltF (x := p1.toInt) (y := (91)) rfl rfl (by omega))).trans ((if_pos (own_ltT (x := (94)) (y := p1.toInt) rfl rfl (by omega))).trans ((if_neg (own_eqF (x := p1.toInt) (y := (96)) rfl rfl (by omega))).trans ((if_neg (own_ltF (x := p1.toInt) (y := (123)) rfl rfl (by omega))).trans ((if_pos (own_ltT (x := (191)) (y := p1.toInt) rfl rfl (by omega))).trans ((if_neg (own_eqF (x := p1.toInt) (y := (215)) rfl rfl (by omega))).trans ((if_neg (own_eqF (x := p1.toInt) (y := (247)) rfl rfl (by omega))).trans ((if_neg (own_ltF (x := p1.toInt) (y := (768)) rfl rfl (by omega))).trans ((if_pos (own_ltT (x := (879)) (y := p1.toInt) rfl rfl (by omega))).trans ((if_neg (own_eqF (x := p1.toInt) (y := (894)) rfl rfl (by omega))).trans ((if_neg (own_ltF (x := p1.toInt) (y := (8192)) rfl rfl (by omega))).trans ((if_pos (own_ltT (x := (8203)) (y := p1.toInt) rfl rfl (by omega))).trans ((if_neg (own_ltF (x := p1.toInt) (y := (8206)) rfl rfl (by omega))).trans ((if_pos (own_ltT (x := (8303)) (y := p1.toInt) rfl rfl (by omega))).trans ((if_neg (own_ltF (x := p1.toInt) (y := (8592)) rfl rfl (by omega))).trans ((if_pos (own_ltT (x := (11263)) (y := p1.toInt) rfl rfl (by omega))).trans ((if_neg (own_ltF (x := p1.toInt) (y := (12272)) rfl rfl (by omega))).trans ((if_neg (own_ltF (x := (12288)) (y := p1.toInt) rfl rfl (by omega))).trans (rfl))))))))))))))))))))))
    exact e1.trans e2.symm
  by_cases k58 : p1.toInt < 12288
  · have e1 : own_f0 p1 = (0 : Int32) := (if_neg (own_eqF (x := p1.toInt) (y := (58)) rfl rfl (by omega))).trans ((if_neg (own_ltF (x := p1.toInt) (y := (65)) rfl rfl (by omega))).trans ((if_pos (own_ltT (x := (90)) (y := p1.toInt) rfl rfl (by omega))).trans ((if_neg (own_eqF (x := p1.toInt) (y := (95)) rfl rfl (by omega))).trans ((if_neg (own_ltF (x := p1.toInt) (y := (97)) rfl rfl (by omega))).trans ((if_pos (own_ltT (x := (122)) (y := p1.toInt) rfl rfl (by omega))).trans ((if_neg (own_ltF (x := p1.toInt) (y := (192)) rfl rfl (by omega))).trans ((if_pos (own_ltT (x := (214)) (y := p1.toInt) rfl rfl (by omega))).trans ((if_neg (own_ltF (x := p1.toInt) (y := (216)) rfl rfl (by omega))).trans ((if_pos (own_ltT (x := (246)) (y := p1.toInt) rfl rfl (by omega))).trans ((if_neg (own_ltF (x := p1.toInt) (y := (248)) rfl rfl (by omega))).trans ((if_pos (own_ltT (x := (767)) (y := p1.toInt) rfl rfl (by omega))).trans ((if_neg (own_ltF (x := p1.toInt) (y := (880)) rfl rfl (by omega))).trans ((if_pos (own_ltT (x := (893)) (y := p1.toInt) rfl rfl (by omega))).trans ((if_neg (own_ltF (x := p1.toInt) (y := (895)) rfl rfl (by omega))).trans ((if_pos (own_ltT (x := (8191)) (y := p1.toInt) rfl rfl (by omega))).trans ((if_neg (own_ltF (x := p1.toInt) (y := (8204)) rfl rfl (by omega))).trans ((if_pos (own_ltT (x := (8205)) (y := p1.toInt) rfl rfl (by omega))).trans ((if_neg (own_ltF (x := p1.toInt) (y := (8304)) rfl rfl (by omega))).trans ((if_pos (own_ltT (x := (8591)) (y := p1.toInt) rfl rfl (by omega))).trans ((if_neg (own_ltF (x := p1.toInt) (y := (11264)) rfl rfl (by omega))).trans ((if_pos (own_ltT (x := (12271)) (y := p1.toInt) rfl rfl (by omega))).trans ((if_pos (own_ltT (x := p1.toInt) (y := (12289)) rfl rfl (by omega))).trans ((if_pos (own_ltT (x := p1.toInt) (y := (63744)) rfl rfl (by omega))).trans ((if_pos (own_ltT (x := p1.toInt) (y := (65008)) rfl rfl (by omega))).trans ((if_pos (own_ltT (x := p1.toInt) (y := (65536)) rfl rfl (by omega))).trans (rfl))))))))))))))))))))))))))
    have e2 : own_g0 p1 = (0 : Int32) := (if_neg (own_ltF (x := p1.toInt) (y := (58)) rfl rfl (by omega))).trans ((if_neg (own_ltF (x := (983039)) (y := p1.toInt) rfl rfl (by omega))).trans ((if_neg (own_ltF (x := p1.toInt) (y := (59)) rfl rfl (by omega))).trans ((if_pos (own_ltT (x := (64)) (y := p1.toInt) rfl rfl (by omega))).trans ((if_neg (own_ltF (x := p1.toInt) (y := (91)) rfl rfl (by omega))).trans ((if_pos (own_ltT (x := (94)) (y := p1.toInt) rfl rfl (by omega))).trans ((if_neg (own_eqF (x := p1.toInt) (y := (96)) rfl rfl (by omega))).trans ((if_neg (own_ltF (x := p1.toInt) (y := (123)) rfl rfl (by omega))).trans ((if_pos (own_ltT (x := (191)) (y := p1.toInt) rfl rfl (by omega))).trans ((if_neg (own_eqF (x := p1.toInt) (y := (215)) rfl rfl (by omega))).trans ((if_neg (own_eqF (x := p1.toInt) (y := (247)) rfl rfl (by omega))).trans ((if_neg (own_ltF (x := p1.toInt) (y := (768)) rfl rfl (by omega))).trans ((if_pos (own_ltT (x := (879)) (y := p1.toInt) rfl rfl (by omega))).trans ((if_neg (own_eqF (x := p1.toInt) (y := (894)) rfl rfl (by omega))).trans ((if_neg (own_ltF (x := p1.toInt) (y := (8192)) rfl rfl (by omega))).trans ((if_pos (own_ltT (x := (8203)) (y := p1.toInt) rfl rfl (by omega))).trans ((if_neg (own_ltF (x := p1.toInt) (y := (8206)) rfl rfl (by omega))).trans ((if_pos (own_ltT (x := (8303)) (y := p1.toInt) rfl rfl (by omega))).trans ((if_neg (own_ltF (x := p1.toInt) (y := (8592)) rfl rfl (by omega))).trans ((if_pos (own_ltT (x := (11263)) (y := p1.toInt) rfl rfl (by omega))).trans ((if_neg (own_ltF (x := p1.toInt) (y := (12272)) rfl rfl (by omega))).trans ((if_neg (own_ltF (x := (12288)) (y := p1.toInt) rfl rfl (by omega))).trans (rfl))))))))))))))))))))))
    exact e1.trans e2.symm
  by_cases k59 : p1.toInt < 12289
  · have e1 : own_f0 p1 = (0 : Int32) := (if_neg (own_eqF (x := p1.toInt) (y := (58)) rfl rfl (by omega))).trans ((if_neg (own_ltF (x := p1.toInt) (y := (65)) rfl rfl (by omega))).trans ((if_pos (own_ltT (x := (90)) (y := p1.toInt) rfl rfl (by omega))).trans ((if_neg (own_eqF (x := p1.toInt) (y := (95)) rfl rfl (by omega))).trans ((if_neg (own_ltF (x := p1.toInt) (y := (97)) rfl rfl (by omega))).trans ((if_pos (own_ltT (x := (122)) (y := p1.toInt) rfl rfl (by omega))).trans ((if_neg (own_ltF (x := p1.toInt) (y := (192)) rfl rfl (by omega))).trans ((if_pos (own_ltT (x := (214)) (y := p1.toInt) rfl rfl (by omega))).trans ((if_neg (own_ltF (x := p1.toInt) (y := (216)) rfl rfl (by omega))).trans ((if_pos (own_ltT (x := (246)) (y := p1.toInt) rfl rfl (by omega))).trans ((if_neg (own_ltF (x := p1.toInt) (y := (248)) rfl rfl (by omega))).trans ((if_pos (own_ltT (x := (767)) (y := p1.toInt) rfl rfl (by omega))).trans ((if_neg (own_ltF (x := p1.toInt) (y := (880)) rfl rfl (by omega))).trans ((if_pos (own_ltT (x := (893)) (y := p1.toInt) rfl rfl (by omega))).trans ((if_neg (own_ltF (x := p1.toInt) (y := (895)) rfl rfl (by omega))).trans ((if_pos (own_ltT (x := (8191)) (y := p1.toInt) rfl rfl (by omega))).trans ((if_neg (own_ltF (x := p1.toInt) (y := (8204)) rfl rfl (by omega))).trans ((if_pos (own_ltT (x := (8205)) (y := p1.toInt) rfl rfl (by omega))).trans ((if_neg (own_ltF (x := p1.toInt) (y := (8304)) rfl rfl (by omega))).trans ((if_pos (own_ltT (x := (8591)) (y := p1.toInt) rfl rfl (by omega))).trans ((if_neg (own_ltF (x := p1.toInt) (y := (11264)) rfl rfl (by omega))).trans ((if_pos (own_ltT (x := (12271)) (y := p1.toInt) rfl rfl (by omega))).trans ((if_pos (own_ltT (x := p1.toInt) (y := (12289)) rfl rfl (by omega))).trans ((if_pos (own_ltT (x := p1.toInt) (y := (63744)) rfl rfl (by omega))).trans ((if_pos (own_ltT (x := p1.toInt) (y := (65008)) rfl rfl (by omega))).trans ((if_pos (own_ltT (x := p1.toInt) (y := (65536)) rfl rfl (by omega))).trans (rfl))))))))))))))))))))))))))
    have e2 : own_g0 p1 = (0 : Int32) := (if_neg (own_ltF (x := p1.toInt) (y := (58)) rfl rfl (by omega))).trans ((if_neg (own_ltF (x := (983039)) (y := p1.toInt) rfl rfl (by omega))).trans ((if_neg (own_ltF (x := p1.toInt) (y := (59)) rfl rfl (by omega))).trans ((if_pos (own_ltT (x := (64)) (y := p1.toInt) rfl rfl (by omega))).trans ((if_neg (own_ltF (x := p1.toInt) (y := (91)) rfl rfl (by omega))).trans ((if_pos (own_ltT (x := (94)) (y := p1.toInt) rfl rfl (by omega))).trans ((if_neg (own_eqF (x := p1.toInt) (y := (96)) rfl rfl (by omega))).trans ((if_neg (own_ltF (x := p1.toInt) (y := (123)) rfl rfl (by omega))).trans ((if_pos (own_ltT (x := (191)) (y := p1.toInt) rfl rfl (by omega))).trans ((if_neg (own_eqF (x := p1.toInt) (y := (215)) rfl rfl (by omega))).trans ((if_neg (own_eqF (x := p1.toInt) (y := (247)) rfl rfl (by omega))).trans ((if_neg (own_ltF (x := p1.toInt) (y := (768)) rfl rfl (by omega))).trans ((if_pos (own_ltT (x := (879)) (y := p1.toInt) rfl rfl (by omega))).trans ((if_neg (own_eqF (x := p1.toInt) (y := (894)) rfl rfl (by omega))).trans ((if_neg (own_ltF (x := p1.toInt) (y := (8192)) rfl rfl (by omega))).trans ((if_pos (own_ltT (x := (8203)) (y := p1.toInt) rfl rfl (by omega))).trans ((if_neg (own_ltF (x := p1.toInt) (y := (8206)) rfl rfl (by omega))).trans ((if_pos (own_ltT (x := (8303)) (y := p1.toInt) rfl rfl (by omega))).trans ((if_neg (own_ltF (x := p1.toInt) (y := (8592)) rfl rfl (by omega))).trans ((if_pos (own_ltT (x := (11263)) (y := p1.toInt) rfl rfl (by omega))).trans ((if_neg (own_ltF (x := p1.toInt) (y := (12272)) rfl rfl (by omega))).trans ((if_neg (own_ltF (x := (12288)) (y := p1.toInt) rfl rfl (by omega))).trans (rfl))))))))))))))))))))))
    exact e1.trans e2.symm
  by_cases k60 : p1.toInt < 12290
  · have e1 : own_f0 p1 = (1 : Int32) := (if_neg (own_eqF (x := p1.toInt) (y := (58)) rfl rfl (by omega))).trans ((if_neg (own_ltF (x := p1.toInt) (y := (65)) rfl rfl (by omega))).trans ((if_pos (own_ltT (x := (90)) (y := p1.toInt) rfl rfl (by omega))).trans ((if_neg (own_eqF (x := p1.toInt) (y := (95)) rfl rfl (by omega))).trans ((if_neg (own_ltF (x := p1.toInt) (y := (97)) rfl rfl (by omega))).trans ((if_pos (own_ltT (x := (122)) (y := p1.toInt) rfl rfl (by omega))).trans ((if_neg (own_ltF (x := p1.toInt) (y := (192)) rfl rfl (by omega))).trans ((if_pos (own_ltT (x := (214)) (y := p1.toInt) rfl rfl (by omega))).trans ((if_neg (own_ltF (x := p1.toInt) (y := (216)) rfl rfl (by omega))).trans ((if_pos (own_ltT (x := (246)) (y := p1.toInt) rfl rfl (by omega))).trans ((if_neg (own_ltF (x := p1.toInt) (y := (248)) rfl rfl (by omega))).trans ((if_pos (own_ltT (x := (767)) (y := p1.toInt) rfl rfl (by omega))).trans ((if_neg (own_ltF (x := p1.toInt) (y := (880)) rfl rfl (by omega))).trans ((if_pos (own_ltT (x := (893)) (y := p1.toInt) rfl rfl (by omega))).trans ((if_neg (own_ltF (x := p1.toInt) (y := (895)) rfl rfl (by omega))).trans ((if_pos (own_ltT (x := (8191)) (y := p1.toInt) rfl rfl (by omega))).trans ((if_neg (own_ltF (x := p1.toInt) (y := (8204)) rfl rfl (by omega))).trans ((if_pos (own_ltT (x := (8205)) (y := p1.toInt) rfl rfl (by omega))).trans ((if_neg (own_ltF (x := p1.toInt) (y := (8304)) rfl rfl (by omega))).trans ((if_pos (own_ltT (x := (8591)) (y := p1.toInt) rfl rfl (by omega))).trans ((if_neg (own_ltF (x := p1.toInt) (y := (11264)) rfl rfl (by omega))).trans ((if_pos (own_ltT (x := (12271)) (y := p1.toInt) rfl rfl (by omega))).trans ((if_neg (own_ltF (x := p1.toInt) (y := (12289)) rfl rfl (by omega))).trans ((if_neg (own_ltF (x := (55295)) (y := p1.toInt) rfl rfl (by omega))).trans (rfl))))))))))))))))))))))))
    have e2 : own_g0 p1 = (1 : Int32) := (if_neg (own_ltF (x := p1.toInt) (y := (58)) rfl rfl (by omega))).trans ((if_neg (own_ltF (x := (983039)) (y := p1.toInt) rfl rfl (by omega))).trans ((if_neg (own_ltF (x := p1.toInt) (y := (59)) rfl rfl (by omega))).trans ((if_pos (own_ltT (x := (64)) (y := p1.toInt) rfl rfl (by omega))).trans ((if_neg (own_ltF (x := p1.toInt) (y := (91)) rfl rfl (by omega))).trans ((if_pos (own_ltT (x := (94)) (y := p1.toInt) rfl rfl (by omega))).trans ((if_neg (own_eqF (x := p1.toInt) (y := (96)) rfl rfl (by omega))).trans ((if_neg (own_ltF (x := p1.toInt) (y := (123)) rfl rfl (by omega))).trans ((if_pos (own_ltT (x := (191)) (y := p1.toInt) rfl rfl (by omega))).trans ((if_neg (own_eqF (x := p1.toInt) (y := (215)) rfl rfl (by omega))).trans ((if_neg (own_eqF (x := p1.toInt) (y := (247)) rfl rfl (by omega))).trans ((if_neg (own_ltF (x := p1.toInt) (y := (768)) rfl rfl (by omega))).trans ((if_pos (own_ltT (x := (879)) (y := p1.toInt) rfl rfl (by omega))).trans ((if_neg (own_eqF (x := p1.toInt) (y := (894)) rfl rfl (by omega))).trans ((if_neg (own_ltF (x := p1.toInt) (y := (8192)) rfl rfl (by omega))).trans ((if_pos (own_ltT (x := (8203)) (y := p1.toInt) rfl rfl (by omega))).trans ((if_neg (own_ltF (x := p1.toInt) (y := (8206)) rfl rfl (by omega))).trans ((if_pos (own_ltT (x := (8303)) (y := p1.toInt) rfl rfl (by omega))).trans ((if_neg (own_ltF (x := p1.toInt) (y := (8592)) rfl rfl (by omega))).trans ((if_pos (own_ltT (x := (11263)) (y := p1.toInt) rfl rfl (by omega))).trans ((if_neg (own_ltF (x := p1.toInt) (y := (12272)) rfl rfl (by omega))).trans ((if_pos (own_ltT (x := (12288)) (y := p1.toInt) rfl rfl (by omega))).trans ((if_pos (own_ltT (x := p1.toInt) (y := (55296)) rfl rfl (by omega))).trans ((if_pos (own_ltT (x := p1.toInt) (y := (64976)) rfl rfl (by omega))).trans ((if_pos (own_ltT (x := p1.toInt) (y := (65534)) rfl rfl (by omega))).trans (rfl)))))))))))))))))))))))))
    exact e1.trans e2.symm
  by_cases k61 : p1.toInt < 55295
  · have e1 : own_f0 p1 = (1 : Int32) := (if_neg (own_eqF (x := p1.toInt) (y := (58)) rfl rfl (by omega))).trans ((if_neg (own_ltF (x := p1.toInt) (y := (65)) rfl rfl (by omega))).trans ((if_pos (own_ltT (x := (90)) (y := p1.toInt) rfl rfl (by omega))).trans ((if_neg (own_eqF (x := p1.toInt) (y := (95)) rfl rfl (by omega))).trans ((if_neg (own_ltF (x := p1.toInt) (y := (97)) rfl rfl (by omega))).trans ((if_pos (own_ltT (x := (122)) (y := p1.toInt) rfl rfl (by omega))).trans ((if_neg (own_ltF (x := p1.toInt) (y := (192)) rfl rfl (by omega))).trans ((if_pos (own_ltT (x := (214)) (y := p1.toInt) rfl rfl (by omega))).trans ((if_neg (own_ltF (x := p1.toInt) (y := (216)) rfl rfl (by omega))).trans ((if_pos (own_ltT (x := (246)) (y := p1.toInt) rfl rfl (by omega))).trans ((if_neg (own_ltF (x := p1.toInt) (y := (248)) rfl rfl (by omega))).trans ((if_pos (own_ltT (x := (767)) (y := p1.toInt) rfl rfl (by omega))).trans ((if_neg (own_ltF (x := p1.toInt) (y := (880)) rfl rfl (by omega))).trans ((if_pos (own_ltT (x := (893)) (y := p1.toInt) rfl rfl (by omega))).trans ((if_neg (own_ltF (x := p1.toInt) (y := (895)) rfl rfl (by omega))).trans ((if_pos (own_ltT (x := (8191)) (y := p1.toInt) rfl rfl (by omega))).trans ((if_neg (own_ltF (x := p1.toInt) (y := (8204)) rfl rfl (by omega))).trans ((if_pos (own_ltT (x := (8205)) (y := p1.toInt) rfl rfl (by omega))).trans ((if_neg (own_ltF (x := p1.toInt) (y := (8304)) rfl rfl (by omega))).trans ((if_pos (own_ltT (x := (8591)) (y := p1.toInt) rfl rfl (by omega))).trans ((if_neg (own_ltF (x := p1.toInt) (y := (11264)) rfl rfl (by omega))).trans ((if_pos (own_ltT (x := (12271)) (y := p1.toInt) rfl rfl (by omega))).trans ((if_neg (own_ltF (x := p1.toInt) (y := (12289)) rfl rfl (by omega))).trans ((if_neg (own_ltF (x := (55295)) (y := p1.toInt) rfl rfl (by omega))).trans (rfl))))))))))))))))))))))))
    have e2 : own_g0 p1 = (1 : Int32) := (if_neg (own_ltF (x := p1.toInt) (y := (58)) rfl rfl (by omega))).trans ((if_neg (own_ltF (x := (983039)) (y := p1.toInt) rfl rfl (by omega))).trans ((if_neg (own_ltF (x := p1.toInt) (y := (59)) rfl rfl (by omega))).trans ((if_pos (own_ltT (x := (64)) (y := p1.toInt) rfl rfl (by omega))).trans ((if_neg (own_ltF (x := p1.toInt) (y := (91)) rfl rfl (by omega))).trans ((if_pos (own_ltT (x := (94)) (y := p1.toInt) rfl rfl (by omega))).trans ((if_neg (own_eqF (x := p1.toInt) (y := (96)) rfl rfl (by omega))).trans ((if_neg (own_ltF (x := p1.toInt) (y := (123)) rfl rfl (by omega))).trans ((if_pos (own_ltT (x := (191)) (y := p1.toInt) rfl rfl (by omega))).trans ((if_neg (own_eqF (x := p1.toInt) (y := (215)) rfl rfl (by omega))).trans ((if_neg (own_eqF (x := p1.toInt) (y := (247)) rfl rfl (by omega))).trans ((if_neg (own_ltF (x := p1.toInt) (y := (768)) rfl rfl (by omega))).trans ((if_pos (own_ltT (x := (879)) (y := p1.toInt) rfl rfl (by omega))).trans ((if_neg (own_eqF (x := p1.toInt) (y := (894)) rfl rfl (by omega))).trans ((if_neg (own_ltF (x := p1.toInt) (y := (8192)) rfl rfl (by omega))).trans ((if_pos (own_ltT (x := (8203)) (y := p1.toInt) rfl rfl (by omega))).trans ((if_neg (own_ltF (x := p1.toInt) (y := (8206)) rfl rfl (by omega))).trans ((if_pos (own_ltT (x := (8303)) (y := p1.toInt) rfl rfl (by omega))).trans ((if_neg (own_ltF (x := p1.toInt) (y := (8592)) rfl rfl (by omega))).trans ((if_pos (own_ltT (x := (11263)) (y := p1.toInt) rfl rfl (by omega))).trans ((if_neg (own_ltF (x := p1.toInt) (y := (12272)) rfl rfl (by omega))).trans ((if_pos (own_ltT (x := (12288)) (y := p1.toInt) rfl rfl (by omega))).trans ((if_pos (own_ltT (x := p1.toInt) (y := (55296)) rfl rfl (by omega))).trans ((if_pos (own_ltT (x := p1.toInt) (y := (64976)) rfl rfl (by omega))).trans ((if_pos (own_ltT (x := p1.toInt) (y := (65534)) rfl rfl (by omega))).trans (rfl)))))))))))))))))))))))))
    exact e1.trans e2.symm
  by_cases k62 : p1.toInt < 55296
  · have e1 : own_f0 p1 = (1 : Int32) := (if_neg (own_eqF (x := p1.toInt) (y := (58)) rfl rfl (by omega))).trans ((if_neg (own_ltF (x := p1.toInt) (y := (65)) rfl rfl (by omega))).trans ((if_pos (own_ltT (x := (90)) (y := p1.toInt) rfl rfl (by omega))).trans ((if_neg (own_eqF (x := p1.toInt) (y := (95)) rfl rfl (by omega))).trans ((if_neg (own_ltF (x := p1.toInt) (y := (97)) rfl rfl (by omega))).trans ((if_pos (own_ltT (x := (122)) (y := p1.toInt) rfl rfl (by omega))).trans ((if_neg (own_ltF (x := p1.toInt) (y := (192)) rfl rfl (by omega))).trans ((if_pos (own_ltT (x := (214)) (y := p1.toInt) rfl rfl (by omega))).trans ((if_neg (own_ltF (x := p1.toInt) (y := (216)) rfl rfl (by omega))).trans ((if_pos (own_ltT (x := (246)) (y := p1.toInt) rfl rfl (by omega))).trans ((if_neg (own_ltF (x := p1.toInt) (y := (248)) rfl rfl (by omega))).trans ((if_pos (own_ltT (x := (767)) (y := p1.toInt) rfl rfl (by omega))).trans ((if_neg (own_ltF (x := p1.toInt) (y := (880)) rfl rfl (by omega))).trans ((if_pos (own_ltT (x := (893)) (y := p1.toInt) rfl rfl (by omega))).trans ((if_neg (own_ltF (x := p1.toInt) (y := (895)) rfl rfl (by omega))).trans ((if_pos (own_ltT (x := (8191)) (y := p1.toInt) rfl rfl (by omega))).trans ((if_neg (own_ltF (x := p1.toInt) (y := (8204)) rfl rfl (by omega))).trans ((if_pos (own_ltT (x := (8205)) (y := p1.toInt) rfl rfl (by omega))).trans ((if_neg (own_ltF (x := p1.toInt) (y := (8304)) rfl rfl (by omega))).trans ((if_pos (own_ltT (x := (8591)) (y := p1.toInt) rfl rfl (by omega))).trans ((if_neg (own_ltF (x := p1.toInt) (y := (11264)) rfl rfl (by omega))).trans ((if_pos (own_ltT (x := (12271)) (y := p1.toInt) rfl rfl (by omega))).trans ((if_neg (own_ltF (x := p1.toInt) (y := (12289)) rfl rfl (by omega))).trans ((if_neg (own_ltF (x := (55295)) (y := p1.toInt) rfl rfl (by omega))).trans (rfl))))))))))))))))))))))))
    have e2 : own_g0 p1 = (1 : Int32) := (if_neg (own_ltF (x := p1.toInt) (y := (58)) rfl rfl (by omega))).trans ((if_neg (own_ltF (x := (983039)) (y := p1.toInt) rfl rfl (by omega))).trans ((if_neg (own_ltF (x := p1.toInt) (y := (59)) rfl rfl (by omega))).trans ((if_pos (own_ltT (x := (64)) (y := p1.toInt) rfl rfl (by omega))).trans ((if_neg (own_ltF (x := p1.toInt) (y := (91)) rfl rfl (by omega))).trans ((if_pos (own_ltT (x := (94)) (y := p1.toInt) rfl rfl (by omega))).trans ((if_neg (own_eqF (x := p1.toInt) (y := (96)) rfl rfl (by omega))).trans ((if_neg (own_ltF (x := p1.toInt) (y := (123)) rfl rfl (by omega))).trans ((if_pos (own_ltT (x := (191)) (y := p1.toInt) rfl rfl (by omega))).trans ((if_neg (own_eqF (x := p1.toInt) (y := (215)) rfl rfl (by omega))).trans ((if_neg (own_eqF (x := p1.toInt) (y := (247)) rfl rfl (by omega))).trans ((if_neg (own_ltF (x := p1.toInt) (y := (768)) rfl rfl (by omega))).trans ((if_pos (own_ltT (x := (879)) (y := p1.toInt) rfl rfl (by omega))).trans ((if_neg (own_eqF (x := p1.toInt) (y := (894)) rfl rfl (by omega))).trans ((if_neg (own_ltF (x := p1.toInt) (y := (8192)) rfl rfl (by omega))).trans ((if_pos (own_ltT (x := (8203)) (y := p1.toInt) rfl rfl (by omega))).trans ((if_neg (own_ltF (x := p1.toInt) (y := (8206)) rfl rfl (by omega))).trans ((if_pos (own_ltT (x := (8303)) (y := p1.toInt) rfl rfl (by omega))).trans ((if_neg (own_ltF (x := p1.toInt) (y := (8592)) rfl rfl (by omega))).trans ((if_pos (own_ltT (x := (11263)) (y := p1.toInt) rfl rfl (by omega))).trans ((if_neg (own_ltF (x := p1.toInt) (y := (12272)) rfl rfl (by omega))).trans ((if_pos (own_ltT (x := (12288)) (y := p1.toInt) rfl rfl (by omega))).trans ((if_pos (own_ltT (x := p1.toInt) (y := (55296)) rfl rfl (by omega))).trans ((if_pos (own_ltT (x := p1.toInt) (y := (64976)) rfl rfl (by omega))).trans ((if_pos (own_ltT (x := p1.toInt) (y := (65534)) rfl rfl (by omega))).trans (rfl)))))))))))))))))))))))))
    exact e1.trans e2.symm
  by_cases k63 : p1.toInt < 55297
  · have e1 : own_f0 p1 = (0 : Int32) := (if_neg (own_eqF (x := p1.toInt) (y := (58)) rfl rfl (by omega))).trans ((if_neg (own_ltF (x := p1.toInt) (y := (65)) rfl rfl (by omega))).trans ((if_pos (own_ltT (x := (90)) (y := p1.toInt) rfl rfl (by omega))).trans ((if_neg (own_eqF (x := p1.toInt) (y := (95)) rfl rfl (by omega))).trans ((if_neg (own_ltF (x := p1.toInt) (y := (97)) rfl rfl (by omega))).trans ((if_pos (own_ltT (x := (122)) (y := p1.toInt) rfl rfl (by omega))).trans ((if_neg (own_ltF (x := p1.toInt) (y := (192)) rfl rfl (by omega))).trans ((if_pos (own_ltT (x := (214)) (y := p1.toInt) rfl rfl (by omega))).trans ((if_neg (own_ltF (x := p1.toInt) (y := (216)) rfl rfl (by omega))).trans ((if_pos (own_ltT (x := (246)) (y := p1.toInt) rfl rfl (by omega))).trans ((if_neg (own_ltF (x := p1.toInt) (y := (248)) rfl rfl (by omega))).trans ((if_pos (own_ltT (x := (767)) (y := p1.toInt) rfl rfl (by omega))).trans ((if_neg (own_ltF (x := p1.toInt) (y := (880)) rfl rfl (by omega))).trans ((if_pos (own_ltT (x := (893)) (y := p1.toInt) rfl rfl (by omega))).trans ((if_neg (own_ltF (x := p1.toInt) (y := (895)) rfl rfl (by omega))).trans ((if_pos (own_ltT (x := (8191)) (y := p1.toInt) rfl rfl (by omega))).trans ((if_neg (own_ltF (x := p1.toInt) (y := (8204)) rfl rfl (by omega))).trans ((if_pos (own_ltT (x := (8205)) (y := p1.toInt) rfl rfl (by omega))).trans ((if_neg (own_ltF (x := p1.toInt) (y := (8304)) rfl rfl (by omega))).trans ((if_pos (own_ltT (x := (8591)) (y := p1.toInt) rfl rfl (by omega))).trans ((if_neg (own_ltF (x := p1.toInt) (y := (11264)) rfl rfl (by omega))).trans ((if_pos (own_ltT (x := (12271)) (y := p1.toInt) rfl rfl (by omega))).trans ((if_neg (own_ltF (x := p1.toInt) (y := (12289)) rfl rfl (by omega))).trans ((if_pos (own_ltT (x := (55295)) (y := p1.toInt) rfl rfl (by omega))).trans ((if_pos (own_ltT (x := p1.toInt) (y := (63744)) rfl rfl (by omega))).trans ((if_pos (own_ltT (x := p1.toInt) (y := (65008)) rfl rfl (by omega))).trans ((if_pos (own_ltT (x := p1.toInt) (y := (65536)) rfl rfl (by omega))).trans (rfl)))))))))))))))))))))))))))
    have e2 : own_g0 p1 = (0 : Int32) := (if_neg (own_ltF (x := p1.toInt) (y := (58)) rfl rfl (by omega))).trans ((if_neg (own_ltF (x := (983039)) (y := p1.toInt) rfl rfl (by omega))).trans ((if_neg (own_ltF (x := p1.toInt) (y := (59)) rfl rfl (by omega))).trans ((if_pos (own_ltT (x := (64)) (y := p1.toInt) rfl rfl (by omega))).trans ((if_neg (own_ltF (x := p1.toInt) (y := (91)) rfl rfl (by omega))).trans ((if_pos (own_ltT (x := (94)) (y := p1.toInt) rfl rfl (by omega))).trans ((if_neg (own_eqF (x := p1.toInt) (y := (96)) rfl rfl (by omega))).trans ((if_neg (own_ltF (x := p1.toInt) (y := (123)) rfl rfl (by omega))).trans ((if_pos (own_ltT (x := (191)) (y := p1.toInt) rfl rfl (by omega))).trans ((if_neg (own_eqF (x := p1.toInt) (y := (215)) rfl rfl (by omega))).trans ((if_neg (own_eqF (x := p1.toInt) (y := (247)) rfl rfl (by omega))).trans ((if_neg (own_ltF (x := p1.toInt) (y := (768)) rfl rfl (by omega))).trans ((if_pos (own_ltT (x := (879)) (y := p1.toInt) rfl rfl (by omega))).trans ((if_neg (own_eqF (x := p1.toInt) (y := (894)) rfl rfl (by omega))).trans ((if_neg (own_ltF (x := p1.toInt) (y := (8192)) rfl rfl (by omega))).trans ((if_pos (own_ltT (x := (8203)) (y := p1.toInt) rfl rfl (by omega))).trans ((if_neg (own_ltF (x := p1.toInt) (y := (8206)) rfl rfl (by omega))).trans ((if_pos (own_ltT (x := (8303)) (y := p1.toInt) rfl rfl (by omega))).trans ((if_neg (own_ltF (x := p1.toInt) (y := (8592)) rfl rfl (by omega))).trans ((if_pos (own_ltT (x := (11263)) (y := p1.toInt) rfl rfl (by omega))).trans ((if_neg (own_ltF (x := p1.toInt) (y := (12272)) rfl rfl (by omega))).trans ((if_pos (own_ltT (x := (12288)) (y := p1.toInt) rfl rfl (by omega))).trans ((if_neg (own_ltF (x := p1.toInt) (y := (55296)) rfl rfl (by omega))).trans ((if_neg (own_ltF (x := (63743)) (y := p1.toInt) rfl rfl (by omega))).trans (rfl))))))))))))))))))))))))
    exact e1.trans e2.symm
  by_cases k64 : p1.toInt < 63743
  · have e1 : own_f0 p1 = (0 : Int32) := (if_neg (own_eqF (x := p1.toInt) (y := (58)) rfl rfl (by omega))).trans ((if_neg (own_ltF (x := p1.toInt) (y := (65)) rfl rfl (by omega))).trans ((if_pos (own_ltT (x := (90)) (y := p1.toInt) rfl rfl (by omega))).trans ((if_neg (own_eqF (x := p1.toInt) (y := (95)) rfl rfl (by omega))).trans ((if_neg (own_ltF (x := p1.toInt) (y := (97)) rfl rfl (by omega))).trans ((if_pos (own_ltT (x := (122)) (y := p1.toInt) rfl rfl (by omega))).trans ((if_neg (own_ltF (x := p1.toInt) (y := (192)) rfl rfl (by omega))).trans ((if_pos (own_ltT (x := (214)) (y := p1.toInt) rfl rfl (by omega))).trans ((if_neg (own_ltF (x := p1.toInt) (y := (216)) rfl rfl (by omega))).trans ((if_pos (own_ltT (x := (246)) (y := p1.toInt) rfl rfl (by omega))).trans ((if_neg (own_ltF (x := p1.toInt) (y := (248)) rfl rfl (by omega))).trans ((if_pos (own_ltT (x := (767)) (y := p1.toInt) rfl rfl (by omega))).trans ((if_neg (own_ltF (x := p1.toInt) (y := (880)) rfl rfl (by omega))).trans ((if_pos (own_ltT (x := (893)) (y := p1.toInt) rfl rfl (by omega))).trans ((if_neg (own_ltF (x := p1.toInt) (y := (895)) rfl rfl (by omega))).trans ((if_pos (own_ltT (x := (8191)) (y := p1.toInt) rfl rfl (by omega))).trans ((if_neg (own_ltF (x := p1.toInt) (y := (8204)) rfl rfl (by omega))).trans ((if_pos (own_ltT (x := (8205)) (y := p1.toInt) rfl rfl (by omega))).trans ((if_neg (own_ltF (x := p1.toInt) (y := (8304)) rfl rfl (by omega))).trans ((if_pos (own_ltT (x := (8591)) (y := p1.toInt) rfl rfl (by omega))).trans ((if_neg (own_ltF (x := p1.toInt) (y := (11264)) rfl rfl (by omega))).trans ((if_pos (own_ltT (x := (12271)) (y := p1.toInt) rfl rfl (by omega))).trans ((if_neg (own_ltF (x := p1.toInt) (y := (12289)) rfl rfl (by omega))).trans ((if_pos (own_ltT (x := (55295)) (y := p1.toInt) rfl rfl (by omega))).trans ((if_pos (own_ltT (x := p1.toInt) (y := (63744)) rfl rfl (by omega))).trans ((if_pos (own_ltT (x := p1.toInt) (y := (65008)) rfl rfl (by omega))).trans ((if_pos (own_ltT (x := p1.toInt) (y := (65536)) rfl rfl (by omega))).trans (rfl)))))))))))))))))))))))))))
    have e2 : own_g0 p1 = (0 : Int32) := (if_neg (own_ltF (x := p1.toInt) (y := (58)) rfl rfl (by omega))).trans ((if_neg (own_ltF (x := (983039)) (y := p1.toInt) rfl rfl (by omega))).trans ((if_neg (own_ltF (x := p1.toInt) (y := (59)) rfl rfl (by omega))).trans ((if_pos (own_ltT (x := (64)) (y := p1.toInt) rfl rfl (by omega))).trans ((if_neg (own_ltF (x := p1.toInt) (y := (91)) rfl rfl (by omega))).trans ((if_pos (own_ltT (x := (94)) (y := p1.toInt) rfl rfl (by omega))).trans ((if_neg (own_eqF (x := p1.toInt) (y := (96)) rfl rfl (by omega))).trans ((if_neg (own_ltF (x := p1.toInt) (y := (123)) rfl rfl (by omega))).trans ((if_pos (own_ltT (x := (191)) (y := p1.toInt) rfl rfl (by omega))).trans ((if_neg (own_eqF (x := p1.toInt) (y := (215)) rfl rfl (by omega))).trans ((if_neg (own_eqF (x := p1.toInt) (y := (247)) rfl rfl (by omega))).trans ((if_neg (own_ltF (x := p1.toInt) (y := (768)) rfl rfl (by omega))).trans ((if_pos (own_ltT (x := (879)) (y := p1.toInt) rfl rfl (by omega))).trans ((if_neg (own_eqF (x := p1.toInt) (y := (894)) rfl rfl (by omega))).trans ((if_neg (own_ltF (x := p1.toInt) (y := (8192)) rfl rfl (by omega))).trans ((if_pos (own_ltT (x := (8203)) (y := p1.toInt) rfl rfl (by omega))).trans ((if_neg (own_ltF (x := p1.toInt) (y := (8206)) rfl rfl (by omega))).trans ((if_pos (own_ltT (x := (8303)) (y := p1.toInt) rfl rfl (by omega))).trans ((if_neg (own_ltF (x := p1.toInt) (y := (8592)) rfl rfl (by omega))).trans ((if_pos (own_ltT (x := (11263)) (y := p1.toInt) rfl rfl (by omega))).trans ((if_neg (own_ltF (x := p1.toInt) (y := (12272)) rfl rfl (by omega))).trans ((if_pos (own_ltT (x := (12288)) (y := p1.toInt) rfl rfl (by omega))).trans ((if_neg (own_ltF (x := p1.toInt) (y := (55296)) rfl rfl (by omega))).trans ((if_neg (own_ltF (x := (63743)) (y := p1.toInt) rfl rfl (by omega))).trans (rfl))))))))))))))))))))))))
    exact e1.trans e2.symm
  by_cases k65 : p1.toInt < 63744
  · have e1 : own_f0 p1 = (0 : Int32) := (if_neg (own_eqF (x := p1.toInt) (y := (58)) rfl rfl (by omega))).trans ((if_neg (own_ltF (x := p1.toInt) (y := (65)) rfl rfl (by omega))).trans ((if_pos (own_ltT (x := (90)) (y := p1.toInt) rfl rfl (by omega))).trans ((if_neg (own_eqF (x := p1.toInt) (y := (95)) rfl rfl (by omega))).trans ((if_neg (own_ltF (x := p1.toInt) (y := (97)) rfl rfl (by omega))).trans ((if_pos (own_ltT (x := (122)) (y := p1.toInt) rfl rfl (by omega))).trans ((if_neg (own_ltF (x := p1.toInt) (y := (192)) rfl rfl (by omega))).trans ((if_pos (own_ltT (x := (214)) (y := p1.toInt) rfl rfl (by omega))).trans ((if_neg (own_ltF (x := p1.toInt) (y := (216)) rfl rfl (by omega))).trans ((if_pos (own_ltT (x := (246)) (y := p1.toInt) rfl rfl (by omega))).trans ((if_neg (own_ltF (x := p1.toInt) (y := (248)) rfl rfl (by omega))).trans ((if_pos (own_ltT (x := (767)) (y := p1.toInt) rfl rfl (by omega))).trans ((if_neg (own_ltF (x := p1.toInt) (y := (880)) rfl rfl (by omega))).trans ((if_pos (own_ltT (x := (893)) (y := p1.toInt) rfl rfl (by omega))).trans ((if_neg (own_ltF (x := p1.toInt) (y := (895)) rfl rfl (by omega))).trans ((if_pos (own_ltT (x := (8191)) (y := p1.toInt) rfl rfl (by omega))).trans ((if_neg (own_ltF (x := p1.toInt) (y := (8204)) rfl rfl (by omega))).trans ((if_pos (own_ltT (x := (8205)) (y := p1.toInt) rfl rfl (by omega))).trans ((if_neg (own_ltF (x := p1.toInt) (y := (8304)) rfl rfl (by omega))).trans ((if_pos (own_ltT (x := (8591)) (y := p1.toInt) rfl rfl (by omega))).trans ((if_neg (own_ltF (x := p1.toInt) (y := (11264)) rfl rfl (by omega))).trans ((if_pos (own_ltT (x := (12271)) (y := p1.toInt) rfl rfl (by omega))).trans ((if_neg (own_ltF (x := p1.toInt) (y := (12289)) rfl rfl (by omega))).trans ((if_pos (own_ltT (x := (55295)) (y := p1.toInt) rfl rfl (by omega))).trans ((if_pos (own_ltT (x := p1.toInt) (y := (63744)) rfl rfl (by omega))).trans ((if_pos (own_ltT (x := p1.toInt) (y := (65008)) rfl rfl (by omega))).trans ((if_pos (own_ltT (x := p1.toInt) (y := (65536)) rfl rfl (by omega))).trans (rfl)))))))))))))))))))))))))))
    have e2 : own_g0 p1 = (0 : Int32) := (if_neg (own_ltF (x := p1.toInt) (y := (58)) rfl rfl (by omega))).trans ((if_neg (own_ltF (x := (983039)) (y := p1.toInt) rfl rfl (by omega))).trans ((if_neg (own_ltF (x := p1.toInt) (y := (59)) rfl rfl (by omega))).trans ((if_pos (own_ltT (x := (64)) (y := p1.toInt) rfl rfl (by omega))).trans ((if_neg (own_ltF (x := p1.toInt) (y := (91)) rfl rfl (by omega))).trans ((if_pos (own_ltT (x := (94)) (y := p1.toInt) rfl rfl (by omega))).trans ((if_neg (own_eqF (x := p1.toInt) (y := (96)) rfl rfl (by omega))).trans ((if_neg (own_ltF (x := p1.toInt) (y := (123)) rfl rfl (by omega))).trans ((if_pos (own_ltT (x := (191)) (y := p1.toInt) rfl rfl (by omega))).trans ((if_neg (own_eqF (x := p1.toInt) (y := (215)) rfl rfl (by omega))).trans ((if_neg (own_eqF (x := p1.toInt) (y := (247)) rfl rfl (by omega))).trans ((if_neg (own_ltF (x := p1.toInt) (y := (768)) rfl rfl (by omega))).trans ((if_pos (own_ltT (x := (879)) (y := p1.toInt) rfl rfl (by omega))).trans ((if_neg (own_eqF (x := p1.toInt) (y := (894)) rfl rfl (by omega))).trans ((if_neg (own_ltF (x := p1.toInt) (y := (8192)) rfl rfl (by omega))).trans ((if_pos (own_ltT (x := (8203)) (y := p1.toInt) rfl rfl (by omega))).trans ((if_neg (own_ltF (x := p1.toInt) (y := (8206)) rfl rfl (by omega))).trans ((if_pos (own_ltT (x := (8303)) (y := p1.toInt) rfl rfl (by omega))).trans ((if_neg (own_ltF (x := p1.toInt) (y := (8592)) rfl rfl (by omega))).trans ((if_pos (own_ltT (x := (11263)) (y := p1.toInt) rfl rfl (by omega))).trans ((if_neg (own_ltF (x := p1.toInt) (y := (12272)) rfl rfl (by omega))).trans ((if_pos (own_ltT (x := (12288)) (y := p1.toInt) rfl rfl (by omega))).trans ((if_neg (own_ltF (x := p1.toInt) (y := (55296)) rfl rfl (by omega))).trans ((if_neg (own_ltF (x := (63743)) (y := p1.toInt) rfl rfl (by omega))).trans (rfl))))))))))))))))))))))))
    exact e1.trans e2.symm
  by_cases k66 : p1.toInt < 63745
  · have e1 : own_f0 p1 = (1 : Int32) := (if_neg (own_eqF (x := p1.toInt) (y := (58)) rfl rfl (by omega))).trans ((if_neg (own_ltF (x := p1.toInt) (y := (65)) rfl rfl (by omega))).trans ((if_pos (own_ltT (x := (90)) (y := p1.toInt) rfl rfl (by omega))).trans ((if_neg (own_eqF (x := p1.toInt) (y := (95)) rfl rfl (by omega))).trans ((if_neg (own_ltF (x := p1.toInt) (y := (97)) rfl rfl (by omega))).trans ((if_pos (own_ltT (x := (122)) (y := p1.toInt) rfl rfl (by omega))).trans ((if_neg (own_ltF (x := p1.toInt) (y := (192)) rfl rfl (by omega))).trans ((if_pos (own_ltT (x := (214)) (y := p1.toInt) rfl rfl (by omega))).trans ((if_neg (own_ltF (x := p1.toInt) (y := (216)) rfl rfl (by omega))).trans ((if_pos (own_ltT (x := (246)) (y := p1.toInt) rfl rfl (by omega))).trans ((if_neg (own_ltF (x := p1.toInt) (y := (248)) rfl rfl (by omega))).trans ((if_pos (own_ltT (x := (767)) (y := p1.toInt) rfl rfl (by omega))).trans ((if_neg (own_ltF (x := p1.toInt) (y := (880)) rfl rfl (by omega))).trans ((if_pos (own_ltT (x := (893)) (y := p1.toInt) rfl rfl (by omega))).trans ((if_neg (own_ltF (x := p1.toInt) (y := (895)) rfl rfl (by omega))).trans ((if_pos (own_ltT (x := (8191)) (y := p1.toInt) rfl rfl (by omega))).trans ((if_neg (own_ltF (x := p1.toInt) (y := (8204)) rfl rfl (by omega))).trans ((if_pos (own_ltT (x := (8205)) (y := p1.toInt) rfl rfl (by omega))).trans ((if_neg (own_ltF (x := p1.toInt) (y := (8304)) rfl rfl (by omega))).trans ((if_pos (own_ltT (x := (8591)) (y := p1.toInt) rfl rfl (by omega))).trans ((if_neg (own_ltF (x := p1.toInt) (y := (11264)) rfl rfl (by omega))).trans ((if_pos (own_ltT (x := (12271)) (y := p1.toInt) rfl rfl (by omega))).trans ((if_neg (own_ltF (x := p1.toInt) (y := (12289)) rfl rfl (by omega))).trans ((if_pos (own_ltT (x := (55295)) (y := p1.toInt) rfl rfl (by omega))).trans ((if_neg (own_ltF (x := p1.toInt) (y := (63744)) rfl rfl (by omega))).trans ((if_neg (own_ltF (x := (64975)) (y := p1.toInt) rfl rfl (by omega))).trans (rfl))))))))))))))))))))))))))
    have e2 : own_g0 p1 = (1 : Int32) := (if_neg (own_ltF (x := p1.toInt) (y := (58)) rfl rfl (by omega))).trans ((if_neg (own_ltF (x := (983039)) (y := p1.toInt) rfl rfl (by omega))).trans ((if_neg (own_ltF (x := p1.toInt) (y := (59)) rfl rfl (by omega))).trans ((if_pos (own_ltT (x := (64)) (y := p1.toInt) rfl rfl (by omega))).trans ((if_neg (own_ltF (x := p1.toInt) (y := (91)) rfl rfl (by omega))).trans ((if_pos (own_ltT (x := (94)) (y := p1.toInt) rfl rfl (by omega))).trans ((if_neg (own_eqF (x := p1.toInt) (y := (96)) rfl rfl (by omega))).trans ((if_neg (own_ltF (x := p1.toInt) (y := (123)) rfl rfl (by omega))).trans ((if_pos (own_ltT (x := (191)) (y := p1.toInt) rfl rfl (by omega))).trans ((if_neg (own_eqF (x := p1.toInt) (y := (215)) rfl rfl (by omega))).trans ((if_neg (own_eqF (x := p1.toInt) (y := (247)) rfl rfl (by omega))).trans ((if_neg (own_ltF (x := p1.toInt) (y := (768)) rfl rfl (by omega))).trans ((if_pos (own_ltT (x := (879)) (y := p1.toInt) rfl rfl (by omega))).trans ((if_neg (own_eqF (x := p1.toInt) (y := (894)) rfl rfl (by omega))).trans ((if_neg (own_ltF (x := p1.toInt) (y := (8192)) rfl rfl (by omega))).trans ((if_pos (own_ltT (x := (8203)) (y := p1.toInt) rfl rfl (by omega))).trans ((if_neg (own_ltF (x := p1.toInt) (y := (8206)) rfl rfl (by omega))).trans ((if_pos (own_ltT (x := (8303)) (y := p1.toInt) rfl rfl (by omega))).trans ((if_neg (own_ltF (x := p1.toInt) (y := (8592)) rfl rfl (by omega))).trans ((if_pos (own_ltT (x := (11263)) (y := p1.toInt) rfl rfl (by omega))).trans ((if_neg (own_ltF (x := p1.toInt) (y := (12272)) rfl rfl (by omega))).trans ((if_pos (own_ltT (x := (12288)) (y := p1.toInt) rfl rfl (by omega))).trans ((if_neg (own_ltF (x := p1.toInt) (y := (55296)) rfl rfl (by omega))).trans ((if_pos (own_ltT (x := (63743)) (y := p1.toInt) rfl rfl (by omega))).trans ((if_pos (own_ltT (x := p1.toInt) (y := (64976)) rfl rfl (by omega))).trans ((if_pos (own_ltT (x := p1.toInt) (y := (65534)) rfl rfl (by omega))).trans (rfl))))))))))))))))))))))))))
    exact e1.trans e2.symm
  by_cases k67 : p1.toInt < 64975
  · have e1 : own_f0 p1 = (1 : Int32) := (if_neg (own_eqF (x := p1.toInt) (y := (58)) rfl rfl (by omega))).trans ((if_neg (own_ltF (x := p1.toInt) (y := (65)) rfl rfl (by omega))).trans ((if_pos (own_ltT (x := (90)) (y := p1.toInt) rfl rfl (by omega))).trans ((if_neg (own_eqF (x := p1.toInt) (y := (95)) rfl rfl (by omega))).trans ((if_neg (own_ltF (x := p1.toInt) (y := (97)) rfl rfl (by omega))).trans ((if_pos (own_ltT (x := (122)) (y := p1.toInt) rfl rfl (by omega))).trans ((if_neg (own_ltF (x := p1.toInt) (y := (192)) rfl rfl (by omega))).trans ((if_pos (own_ltT (x := (214)) (y := p1.toInt) rfl rfl (by omega))).trans ((if_neg (own_ltF (x := p1.toInt) (y := (216)) rfl rfl (by omega))).trans ((if_pos (own_ltT (x := (246)) (y := p1.toInt) rfl rfl (by omega))).trans ((if_neg (own_ltF (x := p1.toInt) (y := (248)) rfl rfl (by omega))).trans ((if_pos (own_ltT (x := (767)) (y := p1.toInt) rfl rfl (by omega))).trans ((if_neg (own_ltF (x := p1.toInt) (y := (880)) rfl rfl (by omega))).trans ((if_pos (own_ltT (x := (893)) (y := p1.toInt) rfl rfl (by omega))).trans ((if_neg (own_ltF (x := p1.toInt) (y := (895)) rfl rfl (by omega))).trans ((if_pos (own_ltT (x := (8191)) (y := p1.toInt) rfl rfl (by omega))).trans ((if_neg (own_ltF (x := p1.toInt) (y := (8204)) rfl rfl (by omega))).trans ((if_pos (own_ltT (x := (8205)) (y := p1.toInt) rfl rfl (by omega))).trans ((if_neg (own_ltF (x := p1.toInt) (y := (8304)) rfl rfl (by omega))).trans ((if_pos (own_ltT (x := (8591)) (y := p1.toInt) rfl rfl (by omega))).trans ((if_neg (own_ltF (x := p1.toInt) (y := (11264)) rfl rfl (by omega))).trans ((if_pos (own_ltT (x := (12271)) (y := p1.toInt) rfl rfl (by omega))).trans ((if_neg (own_ltF (x := p1.toInt) (y := (12289)) rfl rfl (by omega))).trans ((if_pos (own_ltT (x := (55295)) (y := p1.toInt) rfl rfl (by omega))).trans ((if_neg (own_ltF (x := p1.toInt) (y := (63744)) rfl rfl (by omega))).trans ((if_neg (own_ltF (x := (64975)) (y := p1.toInt) rfl rfl (by omega))).trans (rfl))))))))))))))))))))))))))
    have e2 : own_g0 p1 = (1 : Int32) := (if_neg (own_ltF (x := p1.toInt) (y := (58)) rfl rfl (by omega))).trans ((if_neg (own_ltF (x := (983039)) (y := p1.toInt) rfl rfl (by omega))).trans ((if_neg (own_ltF (x := p1.toInt) (y := (59)) rfl rfl (by omega))).trans ((if_pos (own_ltT (x := (64)) (y := p1.toInt) rfl rfl (by omega))).trans ((if_neg (own_ltF (x := p1.toInt) (y := (91)) rfl rfl (by omega))).trans ((if_pos (own_ltT (x := (94)) (y := p1.toInt) rfl rfl (by omega))).trans ((if_neg (own_eqF (x := p1.toInt) (y := (96)) rfl rfl (by omega))).trans ((if_neg (own_ltF (x := p1.toInt) (y := (123)) rfl rfl (by omega))).trans ((if_pos (own_ltT (x := (191)) (y := p1.toInt) rfl rfl (by omega))).trans ((if_neg (own_eqF (x := p1.toInt) (y := (215)) rfl rfl (by omega))).trans ((if_neg (own_eqF (x := p1.toInt) (y := (247)) rfl rfl (by omega))).trans ((if_neg (own_ltF (x := p1.toInt) (y := (768)) rfl rfl (by omega))).trans ((if_pos (own_ltT (x := (879)) (y := p1.toInt) rfl rfl (by omega))).trans ((if_neg (own_eqF (x := p1.toInt) (y := (894)) rfl rfl (by omega))).trans ((if_neg (own_ltF (x := p1.toInt) (y := (8192)) rfl rfl (by omega))).trans ((if_pos (own_ltT (x := (8203)) (y := p1.toInt) rfl rfl (by omega))).trans ((if_neg (own_ltF (x := p1.toInt) (y := (8206)) rfl rfl (by omega))).trans ((if_pos (own_ltT (x := (8303)) (y := p1.toInt) rfl rfl (by omega))).trans ((if_neg (own_ltF (x := p1.toInt) (y := (8592)) rfl rfl (by omega))).trans ((if_pos (own_ltT (x := (11263)) (y := p1.toInt) rfl rfl (by omega))).trans ((if_neg (own_ltF (x := p1.toInt) (y := (12272)) rfl rfl (by omega))).trans ((if_pos (own_ltT (x := (12288)) (y := p1.toInt) rfl rfl (by omega))).trans ((if_neg (own_ltF (x := p1.toInt) (y := (55296)) rfl rfl (by omega))).trans ((if_pos (own_ltT (x := (63743)) (y := p1.toInt) rfl rfl (by omega))).trans ((if_pos (own_ltT (x := p1.toInt) (y := (64976)) rfl rfl (by omega))).trans ((if_pos (own_ltT (x := p1.toInt) (y := (65534)) rfl rfl (by omega))).trans (rfl))))))))))))))))))))))))))
    exact e1.trans e2.symm
  by_cases k68 : p1.toInt < 64976
  · have e1 : own_f0 p1 = (1 : Int32) := (if_neg (own_eqF (x := p1.toInt) (y := (58)) rfl rfl (by omega))).trans ((if_neg (own_ltF (x := p1.toInt) (y := (65)) rfl rfl (by omega))).trans ((if_pos (own_ltT (x := (90)) (y := p1.toInt) rfl rfl (by omega))).trans ((if_neg (own_eqF (x := p1.toInt) (y := (95)) rfl rfl (by omega))).trans ((if_neg (own_ltF (x := p1.toInt) (y := (97)) rfl rfl (by omega))).trans ((if_pos (own_ltT (x := (122)) (y := p1.toInt) rfl rfl (by omega))).trans ((if_neg (own_ltF (x := p1.toInt) (y := (192)) rfl rfl (by omega))).trans ((if_pos (own_ltT (x := (214)) (y := p1.toInt) rfl rfl (by omega))).trans ((if_neg (own_ltF (x := p1.toInt) (y := (216)) rfl rfl (by omega))).trans ((if_pos (own_ltT (x := (246)) (y := p1.toInt) rfl rfl (by omega))).trans ((if_neg (own_ltF (x := p1.toInt) (y := (248)) rfl rfl (by omega))).trans ((if_pos (own_ltT (x := (767)) (y := p1.toInt) rfl rfl (by omega))).trans ((if_neg (own_ltF (x := p1.toInt) (y := (880)) rfl rfl (by omega))).trans ((if_pos (own_ltT (x := (893)) (y := p1.toInt) rfl rfl (by omega))).trans ((if_neg (own_ltF (x := p1.toInt) (y := (895)) rfl rfl (by omega))).trans ((if_pos (own_ltT (x := (8191)) (y := p1.toInt) rfl rfl (by omega))).trans ((if_neg (own_ltF (x := p1.toInt) (y := (8204)) rfl rfl (by omega))).trans ((if_pos (own_ltT (x := (8205)) (y := p1.toInt) rfl rfl (by omega))).trans ((if_neg (own_ltF (x := p1.toInt) (y := (8304)) rfl rfl (by omega))).trans ((if_pos (own_ltT (x := (8591)) (y := p1.toInt) rfl rfl (by omega))).trans ((if_neg (own_ltF (x := p1.toInt) (y := (11264)) rfl rfl (by omega))).trans ((if_pos (own_ltT (x := (12271)) (y := p1.toInt) rfl rfl (by omega))).trans ((if_neg (own_ltF (x := p1.toInt) (y := (12289)) rfl rfl (by omega))).trans ((if_pos (own_ltT (x := (55295)) (y := p1.toInt) rfl rfl (by omega))).trans ((if_neg (own_ltF (x := p1.toInt) (y := (63744)) rfl rfl (by omega))).trans ((if_neg (own_ltF (x := (64975)) (y := p1.toInt) rfl rfl (by omega))).trans (rfl))))))))))))))))))))))))))
    have e2 : own_g0 p1 = (1 : Int32) := (if_neg (own_ltF (x := p1.toInt) (y := (58)) rfl rfl (by omega))).trans ((if_neg (own_ltF (x := (983039)) (y := p1.toInt) rfl rfl (by omega))).trans ((if_neg (own_ltF (x := p1.toInt) (y := (59)) rfl rfl (by omega))).trans ((if_pos (own_ltT (x := (64)) (y := p1.toInt) rfl rfl (by omega))).trans ((if_neg (own_ltF (x := p1.toInt) (y := (91)) rfl rfl (by omega))).trans ((if_pos (own_ltT (x := (94)) (y := p1.toInt) rfl rfl (by omega))).trans ((if_neg (own_eqF (x := p1.toInt) (y := (96)) rfl rfl (by omega))).trans ((if_neg (own_ltF (x := p1.toInt) (y := (123)) rfl rfl (by omega))).trans ((if_pos (own_ltT (x := (191)) (y := p1.toInt) rfl rfl (by omega))).trans ((if_neg (own_eqF (x := p1.toInt) (y := (215)) rfl rfl (by omega))).trans ((if_neg (own_eqF (x := p1.toInt) (y := (247)) rfl rfl (by omega))).trans ((if_neg (own_ltF (x := p1.toInt) (y := (768)) rfl rfl (by omega))).trans ((if_pos (own_ltT (x := (879)) (y := p1.toInt) rfl rfl (by omega))).trans ((if_neg (own_eqF (x := p1.toInt) (y := (894)) rfl rfl (by omega))).trans ((if_neg (own_ltF (x := p1.toInt) (y := (8192)) rfl rfl (by omega))).trans ((if_pos (own_ltT (x := (8203)) (y := p1.toInt) rfl rfl (by omega))).trans ((if_neg (own_ltF (x := p1.toInt) (y := (8206)) rfl rfl (by omega))).trans ((if_pos (own_ltT (x := (8303)) (y := p1.toInt) rfl rfl (by omega))).trans ((if_neg (own_ltF (x := p1.toInt) (y := (8592)) rfl rfl (by omega))).trans ((if_pos (own_ltT (x := (11263)) (y := p1.toInt) rfl rfl (by omega))).trans ((if_neg (own_ltF (x := p1.toInt) (y := (12272)) rfl rfl (by omega))).trans ((if_pos (own_ltT (x := (12288)) (y := p1.toInt) rfl rfl (by omega))).trans ((if_neg (own_ltF (x := p1.toInt) (y := (55296)) rfl rfl (by omega))).trans ((if_pos (own_ltT (x := (63743)) (y := p1.toInt) rfl rfl (by omega))).trans ((if_pos (own_ltT (x := p1.toInt) (y := (64976)) rfl rfl (by omega))).trans ((if_pos (own_ltT (x := p1.toInt) (y := (65534)) rfl rfl (by omega))).trans (rfl))))))))))))))))))))))))))
    exact e1.trans e2.symm
  by_cases k69 : p1.toInt < 64977
  · have e1 : own_f0 p1 = (0 : Int32) := (if_neg (own_eqF (x := p1.toInt) (y := (58)) rfl rfl (by omega))).trans ((if_neg (own_ltF (x := p1.toInt) (y := (65)) rfl rfl (by omega))).trans ((if_pos (own_ltT (x := (90)) (y := p1.toInt) rfl rfl (by omega))).trans ((if_neg (own_eqF (x := p1.toInt) (y := (95)) rfl rfl (by omega))).trans ((if_neg (own_ltF (x := p1.toInt) (y := (97)) rfl rfl (by omega))).trans ((if_pos (own_ltT (x := (122)) (y := p1.toInt) rfl rfl (by omega))).trans ((if_neg (own_ltF (x := p1.toInt) (y := (192)) rfl rfl (by omega))).trans ((if_pos (own_ltT (x := (214)) (y := p1.toInt) rfl rfl (by omega))).trans ((if_neg (own_ltF (x := p1.toInt) (y := (216)) rfl rfl (by omega))).trans ((if_pos (own_ltT (x := (246)) (y := p1.toInt) rfl rfl (by omega))).trans ((if_neg (own_ltF (x := p1.toInt) (y := (248)) rfl rfl (by omega))).trans ((if_pos (own_ltT (x := (767)) (y := p1.toInt) rfl rfl (by omega))).trans ((if_neg (own_ltF (x := p1.toInt) (y := (880)) rfl rfl (by omega))).trans ((if_pos (own_ltT (x := (893)) (y := p1.toInt) rfl rfl (by omega))).trans ((if_neg (own_ltF (x := p1.toInt) (y := (895)) rfl rfl (by omega))).trans ((if_pos (own_ltT (x := (8191)) (y := p1.toInt) rfl rfl (by omega))).trans ((if_neg (own_ltF (x := p1.toInt) (y := (8204)) rfl rfl (by omega))).trans ((if_pos (own_ltT (x := (8205)) (y := p1.toInt) rfl rfl (by omega))).trans ((if_neg (own_ltF (x := p1.toInt) (y := (8304)) rfl rfl (by omega))).trans ((if_pos (own_ltT (x := (8591)) (y := p1.toInt) rfl rfl (by omega))).trans ((if_neg (own_ltF (x := p1.toInt) (y := (11264)) rfl rfl (by omega))).trans ((if_pos (own_ltT (x := (12271)) (y := p1.toInt) rfl rfl (by omega))).trans ((if_neg (own_ltF (x := p1.toInt) (y := (12289)) rfl rfl (by omega))).trans ((if_pos (own_ltT (x := (55295)) (y := p1.toInt) rfl rfl (by omega))).trans ((if_neg (own_ltF (x := p1.toInt) (y := (63744)) rfl rfl (by omega))).trans ((if_pos (own_ltT (x := (64975)) (y := p1.toInt) rfl rfl (by omega))).trans ((if_pos (own_ltT (x := p1.toInt) (y := (65008)) rfl rfl (by omega))).trans ((if_pos (own_ltT (x := p1.toInt) (y := (65536)) rfl rfl (by omega))).trans (rfl))))))))))))))))))))))))))))
    have e2 : own_g0 p1 = (0 : Int32) := (if_neg (own_ltF (x := p1.toInt) (y := (58)) rfl rfl (by omega))).trans ((if_neg (own_ltF (x := (983039)) (y := p1.toInt) rfl rfl (by omega))).trans ((if_neg (own_ltF (x := p1.toInt) (y := (59)) rfl rfl (by omega))).trans ((if_pos (own_ltT (x := (64)) (y := p1.toInt) rfl rfl (by omega))).trans ((if_neg (own_ltF (x := p1.toInt) (y := (91)) rfl rfl (by omega))).trans ((if_pos (own_ltT (x := (94)) (y := p1.toInt) rfl rfl (by omega))).trans ((if_neg (own_eqF (x := p1.toInt) (y := (96)) rfl rfl (by omega))).trans ((if_neg (own_ltF (x := p1.toInt) (y := (123)) rfl rfl (by omega))).trans ((if_pos (own_ltT (x := (191)) (y := p1.toInt) rfl rfl (by omega))).trans ((if_neg (own_eqF (x := p1.toInt) (y := (215)) rfl rfl (by omega))).trans ((if_neg (own_eqF (x := p1.toInt) (y := (247)) rfl rfl (by omega))).trans ((if_neg (own_ltF (x := p1.toInt) (y := (768)) rfl rfl (by omega))).trans ((if_pos (own_ltT (x := (879)) (y := p1.toInt) rfl rfl (by omega))).trans ((if_neg (own_eqF (x := p1.toInt) (y := (894)) rfl rfl (by omega))).trans ((if_neg (own_ltF (x := p1.toInt) (y := (8192)) rfl rfl (by omega))).trans ((if_pos (own_ltT (x := (8203)) (y := p1.toInt) rfl rfl (by omega))).trans ((if_neg (own_ltF (x := p1.toInt) (y := (8206)) rfl rfl (by omega))).trans ((if_pos (own_ltT (x := (8303)) (y := p1.toInt) rfl rfl (by omega))).trans ((if_neg (own_ltF (x := p1.toInt) (y := (8592)) rfl rfl (by omega))).trans ((if_pos (own_ltT (x := (11263)) (y := p1.toInt) rfl rfl (by omega))).trans ((if_neg (own_ltF (x := p1.toInt) (y := (12272)) rfl rfl (by omega))).trans ((if_pos (own_ltT (x := (12288)) (y := p1.toInt) rfl rfl (by omega))).trans ((if_neg (own_ltF (x := p1.toInt) (y := (55296)) rfl rfl (by omega))).trans ((if_pos (own_ltT (x := (63743)) (y := p1.toInt) rfl rfl (by omega))).trans ((if_neg (own_ltF (x := p1.toInt) (y := (64976)) rfl rfl (by omega))).trans ((if_neg (own_ltF (x := (65007)) (y := p1.toInt) rfl rfl (by omega))).trans (rfl))))))))))))))))))))))))))
    exact e1.trans e2.symm
  by_cases k70 : p1.toInt < 65007
  · have e1 : own_f0 p1 = (0 : Int32) := (if_neg (own_eqF (x := p1.toInt) (y := (58)) rfl rfl (by omega))).trans ((if_neg (own_ltF (x := p1.toInt) (y := (65)) rfl rfl (by omega))).trans ((if_pos (own_ltT (x := (90)) (y := p1.toInt) rfl rfl (by omega))).trans ((if_neg (own_eqF (x := p1.toInt) (y := (95)) rfl rfl (by omega))).trans ((if_neg (own_ltF (x := p1.toInt) (y := (97)) rfl rfl (by omega))).trans ((if_pos (own_ltT (x := (122)) (y := p1.toInt) rfl rfl (by omega))).trans ((if_neg (own_ltF (x := p1.toInt) (y := (192)) rfl rfl (by omega))).trans ((if_pos (own_ltT (x := (214)) (y := p1.toInt) rfl rfl (by omega))).trans ((if_neg (own_ltF (x := p1.toInt) (y := (216)) rfl rfl (by omega))).trans ((if_pos (own_ltT (x := (246)) (y := p1.toInt) rfl rfl (by omega))).trans ((if_neg (own_ltF (x := p1.toInt) (y := (248)) rfl rfl (by omega))).trans ((if_pos (own_ltT (x := (767)) (y := p1.toInt) rfl rfl (by omega))).trans ((if_neg (own_ltF (x := p1.toInt) (y := (880)) rfl rfl (by omega))).trans ((if_pos (own_ltT (x := (893)) (y := p1.toInt) rfl rfl (by omega))).trans ((if_neg (own_ltF (x := p1.toInt) (y := (895)) rfl rfl (by omega))).trans ((if_pos (own_ltT (x := (8191)) (y := p1.toInt) rfl rfl (by omega))).trans ((if_neg (own_ltF (x := p1.toInt) (y := (8204)) rfl rfl (by omega))).trans ((if_pos (own_ltT (x := (8205)) (y := p1.toInt) rfl rfl (by omega))).trans ((if_neg (own_ltF (x := p1.toInt) (y := (8304)) rfl rfl (by omega))).trans ((if_pos (own_ltT (x := (8591)) (y := p1.toInt) rfl rfl (by omega))).trans ((if_neg (own_ltF (x := p1.toInt) (y := (11264)) rfl rfl (by omega))).trans ((if_pos (own_ltT (x := (12271)) (y := p1.toInt) rfl rfl (by omega))).trans ((if_neg (own_ltF (x := p1.toInt) (y := (12289)) rfl rfl (by omega))).trans ((if_pos (own_ltT (x := (55295)) (y := p1.toInt) rfl rfl (by omega))).trans ((if_neg (own_ltF (x := p1.toInt) (y := (63744)) rfl rfl (by omega))).trans ((if_pos (own_ltT (x := (64975)) (y := p1.toInt) rfl rfl (by omega))).trans ((if_pos (own_ltT (x := p1.toInt) (y := (65008)) rfl rfl (by omega))).trans ((if_pos (own_ltT (x := p1.toInt) (y := (65536)) rfl rfl (by omega))).trans (rfl))))))))))))))))))))))))))))
    have e2 : own_g0 p1 = (0 : Int32) := (if_neg (own_ltF (x := p1.toInt) (y := (58)) rfl rfl (by omega))).trans ((if_neg (own_ltF (x := (983039)) (y := p1.toInt) rfl rfl (by omega))).trans ((if_neg (own_ltF (x := p1.toInt) (y := (59)) rfl rfl (by omega))).trans ((if_pos (own_ltT (x := (64)) (y := p1.toInt) rfl rfl (by omega))).trans ((if_neg (own_ltF (x := p1.toInt) (y := (91)) rfl rfl (by omega))).trans ((if_pos (own_ltT (x := (94)) (y := p1.toInt) rfl rfl (by omega))).trans ((if_neg (own_eqF (x := p1.toInt) (y := (96)) rfl rfl (by omega))).trans ((if_neg (own_ltF (x := p1.toInt) (y := (123)) rfl rfl (by omega))).trans ((if_pos (own_ltT (x := (191)) (y := p1.toInt) rfl rfl (by omega))).trans ((if_neg (own_eqF (x := p1.toInt) (y := (215)) rfl rfl (by omega))).trans ((if_neg (own_eqF (x := p1.toInt) (y := (247)) rfl rfl (by omega))).trans ((if_neg (own_ltF (x := p1.toInt) (y := (768)) rfl rfl (by omega))).trans ((if_pos (own_ltT (x := (879)) (y := p1.toInt) rfl rfl (by omega))).trans ((if_neg (own_eqF (x := p1.toInt) (y := (894)) rfl rfl (by omega))).trans ((if_neg (own_ltF (x := p1.toInt) (y := (8192)) rfl rfl (by omega))).trans ((if_pos (own_ltT (x := (8203)) (y := p1.toInt) rfl rfl (by omega))).trans ((if_neg (own_ltF (x := p1.toInt) (y := (8206)) rfl rfl (by omega))).trans ((if_pos (own_ltT (x := (8303)) (y := p1.toInt) rfl rfl (by omega))).trans ((if_neg (own_ltF (x := p1.toInt) (y := (8592)) rfl rfl (by omega))).trans ((if_pos (own_ltT (x := (11263)) (y := p1.toInt) rfl rfl (by omega))).trans ((if_neg (own_ltF (x := p1.toInt) (y := (12272)) rfl rfl (by omega))).trans ((if_pos (own_ltT (x := (12288)) (y := p1.toInt) rfl rfl (by omega))).trans ((if_neg (own_ltF (x := p1.toInt) (y := (55296)) rfl rfl (by omega))).trans ((if_pos (own_ltT (x := (63743)) (y := p1.toInt) rfl rfl (by omega))).trans ((if_neg (own_ltF (x := p1.toInt) (y := (64976)) rfl rfl (by omega))).trans ((if_neg (own_ltF (x := (65007)) (y := p1.toInt) rfl rfl (by omega))).trans (rfl))))))))))))))))))))))))))
    exact e1.trans e2.symm
  by_cases k71 : p1.toInt < 65008
  · have e1 : own_f0 p1 = (0 : Int32) := (if_neg (own_eqF (x := p1.toInt) (y := (58)) rfl rfl (by omega))).trans ((if_neg (own_ltF (x := p1.toInt) (y := (65)) rfl rfl (by omega))).trans ((if_pos (own_ltT (x := (90)) (y := p1.toInt) rfl rfl (by omega))).trans ((if_neg (own_eqF (x := p1.toInt) (y := (95)) rfl rfl (by omega))).trans ((if_neg (own_ltF (x := p1.toInt) (y := (97)) rfl rfl (by omega))).trans ((if_pos (own_ltT (x := (122)) (y := p1.toInt) rfl rfl (by omega))).trans ((if_neg (own_ltF (x := p1.toInt) (y := (192)) rfl rfl (by omega))).trans ((if_pos (own_ltT (x := (214)) (y := p1.toInt) rfl rfl (by omega))).trans ((if_neg (own_ltF (x := p1.toInt) (y := (216)) rfl rfl (by omega))).trans ((if_pos (own_ltT (x := (246)) (y := p1.toInt) rfl rfl (by omega))).trans ((if_neg (own_ltF (x := p1.toInt) (y := (248)) rfl rfl (by omega))).trans ((if_pos (own_ltT (x := (767)) (y := p1.toInt) rfl rfl (by omega))).trans ((if_neg (own_ltF (x := p1.toInt) (y := (880)) rfl rfl (by omega))).trans ((if_pos (own_ltT (x := (893)) (y := p1.toInt) rfl rfl (by omega))).trans ((if_neg (own_ltF (x := p1.toInt) (y := (895)) rfl rfl (by omega))).trans ((if_pos (own_ltT (x := (8191)) (y := p1.toInt) rfl rfl (by omega))).trans ((if_neg (own_ltF (x := p1.toInt) (y := (8204)) rfl rfl (by omega))).trans ((if_pos (own_ltT (x := (8205)) (y := p1.toInt) rfl rfl (by omega))).trans ((if_neg (own_ltF (x := p1.toInt) (y := (8304)) rfl rfl (by omega))).trans ((if_pos (own_ltT (x := (8591)) (y := p1.toInt) rfl rfl (by omega))).trans ((if_neg (own_ltF (x := p1.toInt) (y := (11264)) rfl rfl (by omega))).trans ((if_pos (own_ltT (x := (12271)) (y := p1.toInt) rfl rfl (by omega))).trans ((if_neg (own_ltF (x := p1.toInt) (y := (12289)) rfl rfl (by omega))).trans ((if_pos (own_ltT (x := (55295)) (y := p1.toInt) rfl rfl (by omega))).trans ((if_neg (own_ltF (x := p1.toInt) (y := (63744)) rfl rfl (by omega))).trans ((if_pos (own_ltT (x := (64975)) (y := p1.toInt) rfl rfl (by omega))).trans ((if_pos (own_ltT (x := p1.toInt) (y := (65008)) rfl rfl (by omega))).trans ((if_pos (own_ltT (x := p1.toInt) (y := (65536)) rfl rfl (by omega))).trans (rfl))))))))))))))))))))))))))))
    have e2 : own_g0 p1 = (0 : Int32) := (if_neg (own_ltF (x := p1.toInt) (y := (58)) rfl rfl (by omega))).trans ((if_neg (own_ltF (x := (983039)) (y := p1.toInt) rfl rfl (by omega))).trans ((if_neg (own_ltF (x := p1.toInt) (y := (59)) rfl rfl (by omega))).trans ((if_pos (own_ltT (x := (64)) (y := p1.toInt) rfl rfl (by omega))).trans ((if_neg (own_ltF (x := p1.toInt) (y := (91)) rfl rfl (by omega))).trans ((if_pos (own_ltT (x := (94)) (y := p1.toInt) rfl rfl (by omega))).trans ((if_neg (own_eqF (x := p1.toInt) (y := (96)) rfl rfl (by omega))).trans ((if_neg (own_ltF (x := p1.toInt) (y := (123)) rfl rfl (by omega))).trans ((if_pos (own_ltT (x := (191)) (y := p1.toInt) rfl rfl (by omega))).trans ((if_neg (own_eqF (x := p1.toInt) (y := (215)) rfl rfl (by omega))).trans ((if_neg (own_eqF (x := p1.toInt) (y := (247)) rfl rfl (by omega))).trans ((if_neg (own_ltF (x := p1.toInt) (y := (768)) rfl rfl (by omega))).trans ((if_pos (own_ltT (x := (879)) (y := p1.toInt) rfl rfl (by omega))).trans ((if_neg (own_eqF (x := p1.toInt) (y := (894)) rfl rfl (by omega))).trans ((if_neg (own_ltF (x := p1.toInt) (y := (8192)) rfl rfl (by omega))).trans ((if_pos (own_ltT (x := (8203)) (y := p1.toInt) rfl rfl (by omega))).trans ((if_neg (own_ltF (x := p1.toInt) (y := (8206)) rfl rfl (by omega))).trans ((if_pos (own_ltT (x := (8303)) (y := p1.toInt) rfl rfl (by omega))).trans ((if_neg (own_ltF (x := p1.toInt) (y := (8592)) rfl rfl (by omega))).trans ((if_pos (own_ltT (x := (11263)) (y := p1.toInt) rfl rfl (by omega))).trans ((if_neg (own_ltF (x := p1.toInt) (y := (12272)) rfl rfl (by omega))).trans ((if_pos (own_ltT (x := (12288)) (y := p1.toInt) rfl rfl (by omega))).trans ((if_neg (own_ltF (x := p1.toInt) (y := (55296)) rfl rfl (by omega))).trans ((if_pos (own_ltT (x := (63743)) (y := p1.toInt) rfl rfl (by omega))).trans ((if_neg (own_ltF (x := p1.toInt) (y := (64976)) rfl rfl (by omega))).trans ((if_neg (own_ltF (x := (65007)) (y := p1.toInt) rfl rfl (by omega))).trans (rfl))))))))))))))))))))))))))
    exact e1.trans e2.symm
  by_cases k72 : p1.toInt < 65009
  · have e1 : own_f0 p1 = (1 : Int32) := (if_neg (own_eqF (x := p1.toInt) (y := (58)) rfl rfl (by omega))).trans ((if_neg (own_ltF (x := p1.toInt) (y := (65)) rfl rfl (by omega))).trans ((if_pos (own_ltT (x := (90)) (y := p1.toInt) rfl rfl (by omega))).trans ((if_neg (own_eqF (x := p1.toInt) (y := (95)) rfl rfl (by omega))).trans ((if_neg (own_ltF (x := p1.toInt) (y := (97)) rfl rfl (by omega))).trans ((if_pos (own_ltT (x := (122)) (y := p1.toInt) rfl rfl (by omega))).trans ((if_neg (own_ltF (x := p1.toInt) (y := (192)) rfl rfl (by omega))).trans ((if_pos (own_ltT (x := (214)) (y := p1.toInt) rfl rfl (by omega))).trans ((if_neg (own_ltF (x := p1.toInt) (y := (216)) rfl rfl (by omega))).trans ((if_pos (own_ltT (x := (246)) (y := p1.toInt) rfl rfl (by omega))).trans ((if_neg (own_ltF (x := p1.toInt) (y := (248)) rfl rfl (by omega))).trans ((if_pos (own_ltT (x := (767)) (y := p1.toInt) rfl rfl (by omega))).trans ((if_neg (own_ltF (x := p1.toInt) (y := (880)) rfl rfl (by omega))).trans ((if_pos (own_ltT (x := (893)) (y := p1.toInt) rfl rfl (by omega))).trans ((if_neg (own_ltF (x := p1.toInt) (y := (895)) rfl rfl (by omega))).trans ((if_pos (own_ltT (x := (8191)) (y := p1.toInt) rfl rfl (by omega))).trans ((if_neg (own_ltF (x := p1.toInt) (y := (8204)) rfl rfl (by omega))).trans ((if_pos (own_ltT (x := (8205)) (y := p1.toInt) rfl rfl (by omega))).trans ((if_neg (own_ltF (x := p1.toInt) (y := (8304)) rfl rfl (by omega))).trans ((if_pos (own_ltT (x := (8591)) (y := p1.toInt) rfl rfl (by omega))).trans ((if_neg (own_ltF (x := p1.toInt) (y := (11264)) rfl rfl (by omega))).trans ((if_pos (own_ltT (x := (12271)) (y := p1.toInt) rfl rfl (by omega))).trans ((if_neg (own_ltF (x := p1.toInt) (y := (12289)) rfl rfl (by omega))).trans ((if_pos (own_ltT (x := (55295)) (y := p1.toInt) rfl rfl (by omega))).trans ((if_neg (own_ltF (x := p1.toInt) (y := (63744)) rfl rfl (by omega))).trans ((if_pos (own_ltT (x := (64975)) (y := p1.toInt) rfl rfl (by omega))).trans ((if_neg (own_ltF (x := p1.toInt) (y := (65008)) rfl rfl (by omega))).trans ((if_neg (own_ltF (x := (65533)) (y := p1.toInt) rfl rfl (by omega))).trans (rfl))))))))))))))))))))))))))))
    have e2 : own_g0 p1 = (1 : Int32) := (if_neg (own_ltF (x := p1.toInt) (y := (58)) rfl rfl (by omega))).trans ((if_neg (own_ltF (x := (983039)) (y := p1.toInt) rfl rfl (by omega))).trans ((if_neg (own_ltF (x := p1.toInt) (y := (59)) rfl rfl (by omega))).trans ((if_pos (own_ltT (x := (64)) (y := p1.toInt) rfl rfl (by omega))).trans ((if_neg (own_ltF (x := p1.toInt) (y := (91)) rfl rfl (by omega))).trans ((if_pos (own_ltT (x := (94)) (y := p1.toInt) rfl rfl (by omega))).trans ((if_neg (own_eqF (x := p1.toInt) (y := (96)) rfl rfl (by omega))).trans ((if_neg (own_ltF (x := p1.toInt) (y := (123)) rfl rfl (by omega))).trans ((if_pos (own_ltT (x := (191)) (y := p1.toInt) rfl rfl (by omega))).trans ((if_neg (own_eqF (x := p1.toInt) (y := (215)) rfl rfl (by omega))).trans ((if_neg (own_eqF (x := p1.toInt) (y := (247)) rfl rfl (by omega))).trans ((if_neg (own_ltF (x := p1.toInt) (y := (768)) rfl rfl (by omega))).trans ((if_pos (own_ltT (x := (879)) (y := p1.toInt) rfl rfl (by omega))).trans ((if_neg (own_eqF (x := p1.toInt) (y := (894)) rfl rfl (by omega))).trans ((if_neg (own_ltF (x := p1.toInt) (y := (8192)) rfl rfl (by omega))).trans ((if_pos (own_ltT (x := (8203)) (y := p1.toInt) rfl rfl (by omega))).trans ((if_neg (own_ltF (x := p1.toInt) (y := (8206)) rfl rfl (by omega))).trans ((if_pos (own_ltT (x := (8303)) (y := p1.toInt) rfl rfl (by omega))).trans ((if_neg (own_ltF (x := p1.toInt) (y := (8592)) rfl rfl (by omega))).trans ((if_pos (own_ltT (x := (11263)) (y := p1.toInt) rfl rfl (by omega))).trans ((if_neg (own_ltF (x := p1.toInt) (y := (12272)) rfl rfl (by omega))).trans ((if_pos (own_ltT (x := (12288)) (y := p1.toInt) rfl rfl (by omega))).trans ((if_neg (own_ltF (x := p1.toInt) (y := (55296)) rfl rfl (by omega))).trans ((if_pos (own_ltT (x := (63743)) (y := p1.toInt) rfl rfl (by omega))).trans ((if_neg (own_ltF (x := p1.toInt) (y := (64976)) rfl rfl (by omega))).trans ((if_pos (own_ltT (x := (65007)) (y := p1.toInt) rfl rfl (by omega))).trans ((if_pos (own_ltT (x := p1.toInt) (y := (65534)) rfl rfl (by omega))).trans (rfl)))))))))))))))))))))))))))
    exact e1.trans e2.symm
  by_cases k73 : p1.toInt < 65533
  · have e1 : own_f0 p1 = (1 : Int32) := (if_neg (own_eqF (x := p1.toInt) (y := (58)) rfl rfl (by omega))).trans ((if_neg (own_ltF (x := p1.toInt) (y := (65)) rfl rfl (by omega))).trans ((if_pos (own_ltT (x := (90)) (y := p1.toInt) rfl rfl (by omega))).trans ((if_neg (own_eqF (x := p1.toInt) (y := (95)) rfl rfl (by omega))).trans ((if_neg (own_ltF (x := p1.toInt) (y := (97)) rfl rfl (by omega))).trans ((if_pos (own_ltT (x := (122)) (y := p1.toInt) rfl rfl (by omega))).trans ((if_neg (own_ltF (x := p1.toInt) (y := (192)) rfl rfl (by omega))).trans ((if_pos (own_ltT (x := (214)) (y := p1.toInt) rfl rfl (by omega))).trans ((if_neg (own_ltF (x := p1.toInt) (y := (216)) rfl rfl (by omega))).trans ((if_pos (own_ltT (x := (246)) (y := p1.toInt) rfl rfl (by omega))).trans ((if_neg (own_ltF (x := p1.toInt) (y := (248)) rfl rfl (by omega))).trans ((if_pos (own_ltT (x := (767)) (y := p1.toInt) rfl rfl (by omega))).trans ((if_neg (own_ltF (x := p1.toInt) (y := (880)) rfl rfl (by omega))).trans ((if_pos (own_ltT (x := (893)) (y := p1.toInt) rfl rfl (by omega))).trans ((if_neg (own_ltF (x := p1.toInt) (y := (895)) rfl rfl (by omega))).trans ((if_pos (own_ltT (x := (8191)) (y := p1.toInt) rfl rfl (by omega))).trans ((if_neg (own_ltF (x := p1.toInt) (y := (8204)) rfl rfl (by omega))).trans ((if_pos (own_ltT (x := (8205)) (y := p1.toInt) rfl rfl (by omega))).trans ((if_neg (own_ltF (x := p1.toInt) (y := (8304)) rfl rfl (by omega))).trans ((if_pos (own_ltT (x := (8591)) (y := p1.toInt) rfl rfl (by omega))).trans ((if_neg (own_ltF (x := p1.toInt) (y := (11264)) rfl rfl (by omega))).trans ((if_pos (own_ltT (x := (12271)) (y := p1.toInt) rfl rfl (by omega))).trans ((if_neg (own_ltF (x := p1.toInt) (y := (12289)) rfl rfl (by omega))).trans ((if_pos (own_ltT (x := (55295)) (y := p1.toInt) rfl rfl (by omega))).trans ((if_neg (own_ltF (x := p1.toInt) (y := (63744)) rfl rfl (by omega))).trans ((if_pos (own_ltT (x := (64975)) (y := p1.toInt) rfl rfl (by omega))).trans ((if_neg (own_ltF (x := p1.toInt) (y := (65008)) rfl rfl (by omega))).trans ((if_neg (own_ltF (x := (65533)) (y := p1.toInt) rfl rfl (by omega))).trans (rfl))))))))))))))))))))))))))))
    have e2 : own_g0 p1 = (1 : Int32) := (if_neg (own_ltF (x := p1.toInt) (y := (58)) rfl rfl (by omega))).trans ((if_neg (own_ltF (x := (983039)) (y := p1.toInt) rfl rfl (by omega))).trans ((if_neg (own_ltF (x := p1.toInt) (y := (59)) rfl rfl (by omega))).trans ((if_pos (own_ltT (x := (64)) (y := p1.toInt) rfl rfl (by omega))).trans ((if_neg (own_ltF (x := p1.toInt) (y := (91)) rfl rfl (by omega))).trans ((if_pos (own_ltT (x := (94)) (y := p1.toInt) rfl rfl (by omega))).trans ((if_neg (own_eqF (x := p1.toInt) (y := (96)) rfl rfl (by omega))).trans ((if_neg (own_ltF (x := p1.toInt) (y := (123)) rfl rfl (by omega))).trans ((if_pos (own_ltT (x := (191)) (y := p1.toInt) rfl rfl (by omega))).trans ((if_neg (own_eqF (x := p1.toInt) (y := (215)) rfl rfl (by omega))).trans ((if_neg (own_eqF (x := p1.toInt) (y := (247)) rfl rfl (by omega))).trans ((if_neg (own_ltF (x := p1.toInt) (y := (768)) rfl rfl (by omega))).trans ((if_pos (own_ltT (x := (879)) (y := p1.toInt) rfl rfl (by omega))).trans ((if_neg (own_eqF (x := p1.toInt) (y := (894)) rfl rfl (by omega))).trans ((if_neg (own_ltF (x := p1.toInt) (y := (8192)) rfl rfl (by omega))).trans ((if_pos (own_ltT (x := (8203)) (y := p1.toInt) rfl rfl (by omega))).trans ((if_neg (own_ltF (x := p1.toInt) (y := (8206)) rfl rfl (by omega))).trans ((if_pos (own_ltT (x := (8303)) (y := p1.toInt) rfl rfl (by omega))).trans ((if_neg (own_ltF (x := p1.toInt) (y := (8592)) rfl rfl (by omega))).trans ((if_pos (own_ltT (x := (11263)) (y := p1.toInt) rfl rfl (by omega))).trans ((if_neg (own_ltF (x := p1.toInt) (y := (12272)) rfl rfl (by omega))).trans ((if_pos (own_ltT (x := (12288)) (y := p1.toInt) rfl rfl (by omega))).trans ((if_neg (own_ltF (x := p1.toInt) (y := (55296)) rfl rfl (by omega))).trans ((if_pos (own_ltT (x := (63743)) (y := p1.toInt) rfl rfl (by omega))).trans ((if_neg (own_ltF (x := p1.toInt) (y := (64976)) rfl rfl (by omega))).trans ((if_pos (own_ltT (x := (65007)) (y := p1.toInt) rfl rfl (by omega))).trans ((if_pos (own_ltT (x := p1.toInt) (y := (65534)) rfl rfl (by omega))).trans (rfl)))))))))))))))))))))))))))
    exact e1.trans e2.symm
  by_cases k74 : p1.toInt < 65534
  · have e1 : own_f0 p1 = (1 : Int32) := (if_neg (own_eqF (x := p1.toInt) (y := (58)) rfl rfl (by omega))).trans ((if_neg (own_ltF (x := p1.toInt) (y := (65)) rfl rfl (by omega))).trans ((if_pos (own_ltT (x := (90)) (y := p1.toInt) rfl rfl (by omega))).trans ((if_neg (own_eqF (x := p1.toInt) (y := (95)) rfl rfl (by omega))).trans ((if_neg (own_ltF (x := p1.toInt) (y := (97)) rfl rfl (by omega))).trans ((if_pos (own_ltT (x := (122)) (y := p1.toInt) rfl rfl (by omega))).trans ((if_neg (own_ltF (x := p1.toInt) (y := (192)) rfl rfl (by omega))).trans ((if_pos (own_ltT (x := (214)) (y := p1.toInt) rfl rfl (by omega))).trans ((if_neg (own_ltF (x := p1.toInt) (y := (216)) rfl rfl (by omega))).trans ((if_pos (own_ltT (x := (246)) (y := p1.toInt) rfl rfl (by omega))).trans ((if_neg (own_ltF (x := p1.toInt) (y := (248)) rfl rfl (by omega))).trans ((if_pos (own_ltT (x := (767)) (y := p1.toInt) rfl rfl (by omega))).trans ((if_neg (own_ltF (x := p1.toInt) (y := (880)) rfl rfl (by omega))).trans ((if_pos (own_ltT (x := (893)) (y := p1.toInt) rfl rfl (by omega))).trans ((if_neg (own_ltF (x := p1.toInt) (y := (895)) rfl rfl (by omega))).trans ((if_pos (own_ltT (x := (8191)) (y := p1.toInt) rfl rfl (by omega))).trans ((if_neg (own_ltF (x := p1.toInt) (y := (8204)) rfl rfl (by omega))).trans ((if_pos (own_ltT (x := (8205)) (y := p1.toInt) rfl rfl (by omega))).trans ((if_neg (own_ltF (x := p1.toInt) (y := (8304)) rfl rfl (by omega))).trans ((if_pos (own_ltT (x := (8591)) (y := p1.toInt) rfl rfl (by omega))).trans ((if_neg (own_ltF (x := p1.toInt) (y := (11264)) rfl rfl (by omega))).trans ((if_pos (own_ltT (x := (12271)) (y := p1.toInt) rfl rfl (by omega))).trans ((if_neg (own_ltF (x := p1.toInt) (y := (12289)) rfl rfl (by omega))).trans ((if_pos (own_ltT (x := (55295)) (y := p1.toInt) rfl rfl (by omega))).trans ((if_neg (own_ltF (x := p1.toInt) (y := (63744)) rfl rfl (by omega))).trans ((if_pos (own_ltT (x := (64975)) (y := p1.toInt) rfl rfl (by omega))).trans ((if_neg (own_ltF (x := p1.toInt) (y := (65008)) rfl rfl (by omega))).trans ((if_neg (own_ltF (x := (65533)) (y := p1.toInt) rfl rfl (by omega))).trans (rfl))))))))))))))))))))))))))))
    have e2 : own_g0 p1 = (1 : Int32) := (if_neg (own_ltF (x := p1.toInt) (y := (58)) rfl rfl (by omega))).trans ((if_neg (own_ltF (x := (983039)) (y := p1.toInt) rfl rfl (by omega))).trans ((if_neg (own_ltF (x := p1.toInt) (y := (59)) rfl rfl (by omega))).trans ((if_pos (own_ltT (x := (64)) (y := p1.toInt) rfl rfl (by omega))).trans ((if_neg (own_ltF (x := p1.toInt) (y := (91)) rfl rfl (by omega))).trans ((if_pos (own_ltT (x := (94)) (y := p1.toInt) rfl rfl (by omega))).trans ((if_neg (own_eqF (x := p1.toInt) (y := (96)) rfl rfl (by omega))).trans ((if_neg (own_ltF (x := p1.toInt) (y := (123)) rfl rfl (by omega))).trans ((if_pos (own_ltT (x := (191)) (y := p1.toInt) rfl rfl (by omega))).trans ((if_neg (own_eqF (x := p1.toInt) (y := (215)) rfl rfl (by omega))).trans ((if_neg (own_eqF (x := p1.toInt) (y := (247)) rfl rfl (by omega))).trans ((if_neg (own_ltF (x := p1.toInt) (y := (768)) rfl rfl (by omega))).trans ((if_pos (own_ltT (x := (879)) (y := p1.toInt) rfl rfl (by omega))).trans ((if_neg (own_eqF (x := p1.toInt) (y := (894)) rfl rfl (by omega))).trans ((if_neg (own_ltF (x := p1.toInt) (y := (8192)) rfl rfl (by omega))).trans ((if_pos (own_ltT (x := (8203)) (y := p1.toInt) rfl rfl (by omega))).trans ((if_neg (own_ltF (x := p1.toInt) (y := (8206)) rfl rfl (by omega))).trans ((if_pos (own_ltT (x := (8303)) (y := p1.toInt) rfl rfl (by omega))).trans ((if_neg (own_ltF (x := p1.toInt) (y := (8592)) rfl rfl (by omega))).trans ((if_pos (own_ltT (x := (11263)) (y := p1.toInt) rfl rfl (by omega))).trans ((if_neg (own_ltF (x := p1.toInt) (y := (12272)) rfl rfl (by omega))).trans ((if_pos (own_ltT (x := (12288)) (y := p1.toInt) rfl rfl (by omega))).trans ((if_neg (own_ltF (x := p1.toInt) (y := (55296)) rfl rfl (by omega))).trans ((if_pos (own_ltT (x := (63743)) (y := p1.toInt) rfl rfl (by omega))).trans ((if_neg (own_ltF (x := p1.toInt) (y := (64976)) rfl rfl (by omega))).trans ((if_pos (own_ltT (x := (65007)) (y := p1.toInt) rfl rfl (by omega))).trans ((if_pos (own_ltT (x := p1.toInt) (y := (65534)) rfl rfl (by omega))).trans (rfl)))))))))))))))))))))))))))
    exact e1.trans e2.symm
  by_cases k75 : p1.toInt < 65535
  · have e1 : own_f0 p1 = (0 : Int32) := (if_neg (own_eqF (x := p1.toInt) (y := (58)) rfl rfl (by omega))).trans ((if_neg (own_ltF (x := p1.toInt) (y := (65)) rfl rfl (by omega))).trans ((if_pos (own_ltT (x := (90)) (y := p1.toInt) rfl rfl (by omega))).trans ((if_neg (own_eqF (x := p1.toInt) (y := (95)) rfl rfl (by omega))).trans ((if_neg (own_ltF (x := p1.toInt) (y := (97)) rfl rfl (by omega))).trans ((if_pos (own_ltT (x := (122)) (y := p1.toInt) rfl rfl (by omega))).trans ((if_neg (own_ltF (x := p1.toInt) (y := (192)) rfl rfl (by omega))).trans ((if_pos (own_ltT (x := (214)) (y := p1.toInt) rfl rfl (by omega))).trans ((if_neg (own_ltF (x := p1.toInt) (y := (216)) rfl rfl (by omega))).trans ((if_pos (own_ltT (x := (246)) (y := p1.toInt) rfl rfl (by omega))).trans ((if_neg (own_ltF (x := p1.toInt) (y := (248)) rfl rfl (by omega))).trans ((if_pos (own_ltT (x := (767)) (y := p1.toInt) rfl rfl (by omega))).trans ((if_neg (own_ltF (x := p1.toInt) (y := (880)) rfl rfl (by omega))).trans ((if_pos (own_ltT (x := (893)) (y := p1.toInt) rfl rfl (by omega))).trans ((if_neg (own_ltF (x := p1.toInt) (y := (895)) rfl rfl (by omega))).trans ((if_pos (own_ltT (x := (8191)) (y := p1.toInt) rfl rfl (by omega))).trans ((if_neg (own_ltF (x := p1.toInt) (y := (8204)) rfl rfl (by omega))).trans ((if_pos (own_ltT (x := (8205)) (y := p1.toInt) rfl rfl (by omega))).trans ((if_neg (own_ltF (x := p1.toInt) (y := (8304)) rfl rfl (by omega))).trans ((if_pos (own_ltT (x := (8591)) (y := p1.toInt) rfl rfl (by omega))).trans ((if_neg (own_ltF (x := p1.toInt) (y := (11264)) rfl rfl (by omega))).trans ((if_pos (own_ltT (x := (12271)) (y := p1.toInt) rfl rfl (by omega))).trans ((if_neg (own_ltF (x := p1.toInt) (y := (12289)) rfl rfl (by omega))).trans ((if_pos (own_ltT (x := (55295)) (y := p1.toInt) rfl rfl (by omega))).trans ((if_neg (own_ltF (x := p1.toInt) (y := (63744)) rfl rfl (by omega))).trans ((if_pos (own_ltT (x := (64975)) (y := p1.toInt) rfl rfl (by omega))).trans ((if_neg (own_ltF (x := p1.toInt) (y := (65008)) rfl rfl (by omega))).trans ((if_pos (own_ltT (x := (65533)) (y := p1.toInt) rfl rfl (by omega))).trans ((if_pos (own_ltT (x := p1.toInt) (y := (65536)) rfl rfl (by omega))).trans (rfl)))))))))))))))))))))))))))))
    have e2 : own_g0 p1 = (0 : Int32) := (if_neg (own_ltF (x := p1.toInt) (y := (58)) rfl rfl (by omega))).trans ((if_neg (own_ltF (x := (983039)) (y := p1.toInt) rfl rfl (by omega))).trans ((if_neg (own_ltF (x := p1.toInt) (y := (59)) rfl rfl (by omega))).trans ((if_pos (own_ltT (x := (64)) (y := p1.toInt) rfl rfl (by omega))).trans ((if_neg (own_ltF (x := p1.toInt) (y := (91)) rfl rfl (by omega))).trans ((if_pos (own_ltT (x := (94)) (y := p1.toInt) rfl rfl (by omega))).trans ((if_neg (own_eqF (x := p1.toInt) (y := (96)) rfl rfl (by omega))).trans ((if_neg (own_ltF (x := p1.toInt) (y := (123)) rfl rfl (by omega))).trans ((if_pos (own_ltT (x := (191)) (y := p1.toInt) rfl rfl (by omega))).trans ((if_neg (own_eqF (x := p1.toInt) (y := (215)) rfl rfl (by omega))).trans ((if_neg (own_eqF (x := p1.toInt) (y := (247)) rfl rfl (by omega))).trans ((if_neg (own_ltF (x := p1.toInt) (y := (768)) rfl rfl (by omega))).trans ((if_pos (own_ltT (x := (879)) (y := p1.toInt) rfl rfl (by omega))).trans ((if_neg (own_eqF (x := p1.toInt) (y := (894)) rfl rfl (by omega))).trans ((if_neg (own_ltF (x := p1.toInt) (y := (8192)) rfl rfl (by omega))).trans ((if_pos (own_ltT (x := (8203)) (y := p1.toInt) rfl rfl (by omega))).trans ((if_neg (own_ltF (x := p1.toInt) (y := (8206)) rfl rfl (by omega))).trans ((if_pos (own_ltT (x := (8303)) (y := p1.toInt) rfl rfl (by omega))).trans ((if_neg (own_ltF (x := p1.toInt) (y := (8592)) rfl rfl (by omega))).trans ((if_pos (own_ltT (x := (11263)) (y := p1.toInt) rfl rfl (by omega))).trans ((if_neg (own_ltF (x := p1.toInt) (y := (12272)) rfl rfl (by omega))).trans ((if_pos (own_ltT (x := (12288)) (y := p1.toInt) rfl rfl (by omega))).trans ((if_neg (own_ltF (x := p1.toInt) (y := (55296)) rfl rfl (by omega))).trans ((if_pos (own_ltT (x := (63743)) (y := p1.toInt) rfl rfl (by omega))).trans ((if_neg (own_ltF (x := p1.toInt) (y := (64976)) rfl rfl (by omega))).trans ((if_pos (own_ltT (x := (65007)) (y := p1.toInt) rfl rfl (by omega))).trans ((if_neg (own_ltF (x := p1.toInt) (y := (65534)) rfl rfl (by omega))).trans ((if_neg (own_ltF (x := (65535)) (y := p1.toInt) rfl rfl (by omega))).trans (rfl))))))))))))))))))))))))))))
    exact e1.trans e2.symm
  by_cases k76 : p1.toInt < 65536
  · have e1 : own_f0 p1 = (0 : Int32) := (if_neg (own_eqF (x := p1.toInt) (y := (58)) rfl rfl (by omega))).trans ((if_neg (own_ltF (x := p1.toInt) (y := (65)) rfl rfl (by omega))).trans ((if_pos (own_ltT (x := (90)) (y := p1.toInt) rfl rfl (by omega))).trans ((if_neg (own_eqF (x := p1.toInt) (y := (95)) rfl rfl (by omega))).trans ((if_neg (own_ltF (x := p1.toInt) (y := (97)) rfl rfl (by omega))).trans ((if_pos (own_ltT (x := (122)) (y := p1.toInt) rfl rfl (by omega))).trans ((if_neg (own_ltF (x := p1.toInt) (y := (192)) rfl rfl (by omega))).trans ((if_pos (own_ltT (x := (214)) (y := p1.toInt) rfl rfl (by omega))).trans ((if_neg (own_ltF (x := p1.toInt) (y := (216)) rfl rfl (by omega))).trans ((if_pos (own_ltT (x := (246)) (y := p1.toInt) rfl rfl (by omega))).trans ((if_neg (own_ltF (x := p1.toInt) (y := (248)) rfl rfl (by omega))).trans ((if_pos (own_ltT (x := (767)) (y := p1.toInt) rfl rfl (by omega))).trans ((if_neg (own_ltF (x := p1.toInt) (y := (880)) rfl rfl (by omega))).trans ((if_pos (own_ltT (x := (893)) (y := p1.toInt) rfl rfl (by omega))).trans ((if_neg (own_ltF (x := p1.toInt) (y := (895)) rfl rfl (by omega))).trans ((if_pos (own_ltT (x := (8191)) (y := p1.toInt) rfl rfl (by omega))).trans ((if_neg (own_ltF (x := p1.toInt) (y := (8204)) rfl rfl (by omega))).trans ((if_pos (own_ltT (x := (8205)) (y := p1.toInt) rfl rfl (by omega))).trans ((if_neg (own_ltF (x := p1.toInt) (y := (8304)) rfl rfl (by omega))).trans ((if_pos (own_ltT (x := (8591)) (y := p1.toInt) rfl rfl (by omega))).trans ((if_neg (own_ltF (x := p1.toInt) (y := (11264)) rfl rfl (by omega))).trans ((if_pos (own_ltT (x := (12271)) (y := p1.toInt) rfl rfl (by omega))).trans ((if_neg (own_ltF (x := p1.toInt) (y := (12289)) rfl rfl (by omega))).trans ((if_pos (own_ltT (x := (55295)) (y := p1.toInt) rfl rfl (by omega))).trans ((if_neg (own_ltF (x := p1.toInt) (y := (63744)) rfl rfl (by omega))).trans ((if_pos (own_ltT (x := (64975)) (y := p1.toInt) rfl rfl (by omega))).trans ((if_neg (own_ltF (x := p1.toInt) (y := (65008)) rfl rfl (by omega))).trans ((if_pos (own_ltT (x := (65533)) (y := p1.toInt) rfl rfl (by omega))).trans ((if_pos (own_ltT (x := p1.toInt) (y := (65536)) rfl rfl (by omega))).trans (rfl)))))))))))))))))))))))))))))
    have e2 : own_g0 p1 = (0 : Int32) := (if_neg (own_ltF (x := p1.toInt) (y := (58)) rfl rfl (by omega))).trans ((if_neg (own_ltF (x := (983039)) (y := p1.toInt) rfl rfl (by omega))).trans ((if_neg (own_ltF (x := p1.toInt) (y := (59)) rfl rfl (by omega))).trans ((if_pos (own_ltT (x := (64)) (y := p1.toInt) rfl rfl (by omega))).trans ((if_neg (own_ltF (x := p1.toInt) (y := (91)) rfl rfl (by omega))).trans ((if_pos (own_ltT (x := (94)) (y := p1.toInt) rfl rfl (by omega))).trans ((if_neg (own_eqF (x := p1.toInt) (y := (96)) rfl rfl (by omega))).trans ((if_neg (own_ltF (x := p1.toInt) (y := (123)) rfl rfl (by omega))).trans ((if_pos (own_ltT (x := (191)) (y := p1.toInt) rfl rfl (by omega))).trans ((if_neg (own_eqF (x := p1.toInt) (y := (215)) rfl rfl (by omega))).trans ((if_neg (own_eqF (x := p1.toInt) (y := (247)) rfl rfl (by omega))).trans ((if_neg (own_ltF (x := p1.toInt) (y := (768)) rfl rfl (by omega))).trans ((if_pos (own_ltT (x := (879)) (y := p1.toInt) rfl rfl (by omega))).trans ((if_neg (own_eqF (x := p1.toInt) (y := (894)) rfl rfl (by omega))).trans ((if_neg (own_ltF (x := p1.toInt) (y := (8192)) rfl rfl (by omega))).trans ((if_pos (own_ltT (x := (8203)) (y := p1.toInt) rfl rfl (by omega))).trans ((if_neg (own_ltF (x := p1.toInt) (y := (8206)) rfl rfl (by omega))).trans ((if_pos (own_ltT (x := (8303)) (y := p1.toInt) rfl rfl (by omega))).trans ((if_neg (own_ltF (x := p1.toInt) (y := (8592)) rfl rfl (by omega))).trans ((if_pos (own_ltT (x := (11263)) (y := p1.toInt) rfl rfl (by omega))).trans ((if_neg (own_ltF (x := p1.toInt) (y := (12272)) rfl rfl (by omega))).trans ((if_pos (own_ltT (x := (12288)) (y := p1.toInt) rfl rfl (by omega))).trans ((if_neg (own_ltF (x := p1.toInt) (y := (55296)) rfl rfl (by omega))).trans ((if_pos (own_ltT (x := (63743)) (y := p1.toInt) rfl rfl (by omega))).trans ((if_neg (own_ltF (x := p1.toInt) (y := (64976)) rfl rfl (by omega))).trans ((if_pos (own_ltT (x := (65007)) (y := p1.toInt) rfl rfl (by omega))).trans ((if_neg (own_ltF (x := p1.toInt) (y := (65534)) rfl rfl (by omega))).trans ((if_neg (own_ltF (x := (65535)) (y := p1.toInt) rfl rfl (by omega))).trans (rfl))))))))))))))))))))))))))))
    exact e1.trans e2.symm
  by_cases k77 : p1.toInt < 65537
  · have e1 : own_f0 p1 = (1 : Int32) := (if_neg (own_eqF (x := p1.toInt) (y := (58)) rfl rfl (by omega))).trans ((if_neg (own_ltF (x := p1.toInt) (y := (65)) rfl rfl (by omega))).trans ((if_pos (own_ltT (x := (90)) (y := p1.toInt) rfl rfl (by omega))).trans ((if_neg (own_eqF (x := p1.toInt) (y := (95)) rfl rfl (by omega))).trans ((if_neg (own_ltF (x := p1.toInt) (y := (97)) rfl rfl (by omega))).trans ((if_pos (own_ltT (x := (122)) (y := p1.toInt) rfl rfl (by omega))).trans ((if_neg (own_ltF (x := p1.toInt) (y := (192)) rfl rfl (by omega))).trans ((if_pos (own_ltT (x := (214)) (y := p1.toInt) rfl rfl (by omega))).trans ((if_neg (own_ltF (x := p1.toInt) (y := (216)) rfl rfl (by omega))).trans ((if_pos (own_ltT (x := (246)) (y := p1.toInt) rfl rfl (by omega))).trans ((if_neg (own_ltF (x := p1.toInt) (y := (248)) rfl rfl (by omega))).trans ((if_pos (own_ltT (x := (767)) (y := p1.toInt) rfl rfl (by omega))).trans ((if_neg (own_ltF (x := p1.toInt) (y := (880)) rfl rfl (by omega))).trans ((if_pos (own_ltT (x := (893)) (y := p1.toInt) rfl rfl (by omega))).trans ((if_neg (own_ltF (x := p1.toInt) (y := (895)) rfl rfl (by omega))).trans ((if_pos (own_ltT (x := (8191)) (y := p1.toInt) rfl rfl (by omega))).trans ((if_neg (own_ltF (x := p1.toInt) (y := (8204)) rfl rfl (by omega))).trans ((if_pos (own_ltT (x := (8205)) (y := p1.toInt) rfl rfl (by omega))).trans ((if_neg (own_ltF (x := p1.toInt) (y := (8304)) rfl rfl (by omega))).trans ((if_pos (own_ltT (x := (8591)) (y := p1.toInt) rfl rfl (by omega))).trans ((if_neg (own_ltF (x := p1.toInt) (y := (11264)) rfl rfl (by omega))).trans ((if_pos (own_ltT (x := (12271)) (y := p1.toInt) rfl rfl (by omega))).trans ((if_neg (own_ltF (x := p1.toInt) (y := (12289)) rfl rfl (by omega))).trans ((if_pos (own_ltT (x := (55295)) (y := p1.toInt) rfl rfl (by omega))).trans ((if_neg (own_ltF (x := p1.toInt) (y := (63744)) rfl rfl (by omega))).trans ((if_pos (own_ltT (x := (64975)) (y := p1.toInt) rfl rfl (by omega))).trans ((if_neg (own_ltF (x := p1.toInt) (y := (65008)) rfl rfl (by omega))).trans ((if_pos (own_ltT (x := (65533)) (y := p1.toInt) rfl rfl (by omega))).trans ((if_neg (own_ltF (x := p1.toInt) (y := (65536)) rfl rfl (by omega))).trans ((if_neg (own_ltF (x := (983039)) (y := p1.toInt) rfl rfl (by omega))).trans (rfl))))))))))))))))))))))))))))))
    have e2 : own_g0 p1 = (1 : Int32) := (if_neg (own_ltF (x := p1.toInt) (y := (58)) rfl rfl (by omega))).trans ((if_neg (own_ltF (x := (983039)) (y := p1.toInt) rfl rfl (by omega))).trans ((if_neg (own_ltF (x := p1.toInt) (y := (59)) rfl rfl (by omega))).trans ((if_pos (own_ltT (x := (64)) (y := p1.toInt) rfl rfl (by omega))).trans ((if_neg (own_ltF (x := p1.toInt) (y := (91)) rfl rfl (by omega))).trans ((if_pos (own_ltT (x := (94)) (y := p1.toInt) rfl rfl (by omega))).trans ((if_neg (own_eqF (x := p1.toInt) (y := (96)) rfl rfl (by omega))).trans ((if_neg (own_ltF (x := p1.toInt) (y := (123)) rfl rfl (by omega))).trans ((if_pos (own_ltT (x := (191)) (y := p1.toInt) rfl rfl (by omega))).trans ((if_neg (own_eqF (x := p1.toInt) (y := (215)) rfl rfl (by omega))).trans ((if_neg (own_eqF (x := p1.toInt) (y := (247)) rfl rfl (by omega))).trans ((if_neg (own_ltF (x := p1.toInt) (y := (768)) rfl rfl (by omega))).trans ((if_pos (own_ltT (x := (879)) (y := p1.toInt) rfl rfl (by omega))).trans ((if_neg (own_eqF (x := p1.toInt) (y := (894)) rfl rfl (by omega))).trans ((if_neg (own_ltF (x := p1.toInt) (y := (8192)) rfl rfl (by omega))).trans ((if_pos (own_ltT (x := (8203)) (y := p1.toInt) rfl rfl (by omega))).trans ((if_neg (own_ltF (x := p1.toInt) (y := (8206)) rfl rfl (by omega))).trans ((if_pos (own_ltT (x := (8303)) (y := p1.toInt) rfl rfl (by omega))).trans ((if_neg (own_ltF (x := p1.toInt) (y := (8592)) rfl rfl (by omega))).trans ((if_pos (own_ltT (x := (11263)) (y := p1.toInt) rfl rfl (by omega))).trans ((if_neg (own_ltF (x := p1.toInt) (y := (12272)) rfl rfl (by omega))).trans ((if_pos (own_ltT (x := (12288)) (y := p1.toInt) rfl rfl (by omega))).trans ((if_neg (own_ltF (x := p1.toInt) (y := (55296)) rfl rfl (by omega))).trans ((if_pos (own_ltT (x := (63743)) (y := p1.toInt) rfl rfl (by omega))).trans ((if_neg (own_ltF (x := p1.toInt) (y := (64976)) rfl rfl (by omega))).trans ((if_pos (own_ltT (x := (65007)) (y := p1.toInt) rfl rfl (by omega))).trans ((if_neg (own_ltF (x := p1.toInt) (y := (65534)) rfl rfl (by omega))).trans ((if_pos (own_ltT (x := (65535)) (y := p1.toInt) rfl rfl (by omega))).trans (rfl))))))))))))))))))))))))))))
    exact e1.trans e2.symm
  by_cases k78 : p1.toInt < 983039
  · have e1 : own_f0 p1 = (1 : Int32) := (if_neg (own_eqF (x := p1.toInt) (y := (58)) rfl rfl (by omega))).trans ((if_neg (own_ltF (x := p1.toInt) (y := (65)) rfl rfl (by omega))).trans ((if_pos (own_ltT (x := (90)) (y := p1.toInt) rfl rfl (by omega))).trans ((if_neg (own_eqF (x := p1.toInt) (y := (95)) rfl rfl (by omega))).trans ((if_neg (own_ltF (x := p1.toInt) (y := (97)) rfl rfl (by omega))).trans ((if_pos (own_ltT (x := (122)) (y := p1.toInt) rfl rfl (by omega))).trans ((if_neg (own_ltF (x := p1.toInt) (y := (192)) rfl rfl (by omega))).trans ((if_pos (own_ltT (x := (214)) (y := p1.toInt) rfl rfl (by omega))).trans ((if_neg (own_ltF (x := p1.toInt) (y := (216)) rfl rfl (by omega))).trans ((if_pos (own_ltT (x := (246)) (y := p1.toInt) rfl rfl (by omega))).trans ((if_neg (own_ltF (x := p1.toInt) (y := (248)) rfl rfl (by omega))).trans ((if_pos (own_ltT (x := (767)) (y := p1.toInt) rfl rfl (by omega))).trans ((if_neg (own_ltF (x := p1.toInt) (y := (880)) rfl rfl (by omega))).trans ((if_pos (own_ltT (x := (893)) (y := p1.toInt) rfl rfl (by omega))).trans ((if_neg (own_ltF (x := p1.toInt) (y := (895)) rfl rfl (by omega))).trans ((if_pos (own_ltT (x := (8191)) (y := p1.toInt) rfl rfl (by omega))).trans ((if_neg (own_ltF (x := p1.toInt) (y := (8204)) rfl rfl (by omega))).trans ((if_pos (own_ltT (x := (8205)) (y := p1.toInt) rfl rfl (by omega))).trans ((if_neg (own_ltF (x := p1.toInt) (y := (8304)) rfl rfl (by omega))).trans ((if_pos (own_ltT (x := (8591)) (y := p1.toInt) rfl rfl (by omega))).trans ((if_neg (own_ltF (x := p1.toInt) (y := (11264)) rfl rfl (by omega))).trans ((if_pos (own_ltT (x := (12271)) (y := p1.toInt) rfl rfl (by omega))).trans ((if_neg (own_ltF (x := p1.toInt) (y := (12289)) rfl rfl (by omega))).trans ((if_pos (own_ltT (x := (55295)) (y := p1.toInt) rfl rfl (by omega))).trans ((if_neg (own_ltF (x := p1.toInt) (y := (63744)) rfl rfl (by omega))).trans ((if_pos (own_ltT (x := (64975)) (y := p1.toInt) rfl rfl (by omega))).trans ((if_neg (own_ltF (x := p1.toInt) (y := (65008)) rfl rfl (by omega))).trans ((if_pos (own_ltT (x := (65533)) (y := p1.toInt) rfl rfl (by omega))).trans ((if_neg (own_ltF (x := p1.toInt) (y := (65536)) rfl rfl (by omega))).trans ((if_neg (own_ltF (x := (983039)) (y := p1.toInt) rfl rfl (by omega))).trans (rfl))))))))))))))))))))))))))))))
    have e2 : own_g0 p1 = (1 : Int32) := (if_neg (own_ltF (x := p1.toInt) (y := (58)) rfl rfl (by omega))).trans ((if_neg (own_ltF (x := (983039)) (y := p1.toInt) rfl rfl (by omega))).trans ((if_neg (own_ltF (x := p1.toInt) (y := (59)) rfl rfl (by omega))).trans ((if_pos (own_ltT (x := (64)) (y := p1.toInt) rfl rfl (by omega))).trans ((if_neg (own_ltF (x := p1.toInt) (y := (91)) rfl rfl (by omega))).trans ((if_pos (own_ltT (x := (94)) (y := p1.toInt) rfl rfl (by omega))).trans ((if_neg (own_eqF (x := p1.toInt) (y := (96)) rfl rfl (by omega))).trans ((if_neg (own_ltF (x := p1.toInt) (y := (123)) rfl rfl (by omega))).trans ((if_pos (own_ltT (x := (191)) (y := p1.toInt) rfl rfl (by omega))).trans ((if_neg (own_eqF (x := p1.toInt) (y := (215)) rfl rfl (by omega))).trans ((if_neg (own_eqF (x := p1.toInt) (y := (247)) rfl rfl (by omega))).trans ((if_neg (own_ltF (x := p1.toInt) (y := (768)) rfl rfl (by omega))).trans ((if_pos (own_ltT (x := (879)) (y := p1.toInt) rfl rfl (by omega))).trans ((if_neg (own_eqF (x := p1.toInt) (y := (894)) rfl rfl (by omega))).trans ((if_neg (own_ltF (x := p1.toInt) (y := (8192)) rfl rfl (by omega))).trans ((if_pos (own_ltT (x := (8203)) (y := p1.toInt) rfl rfl (by omega))).trans ((if_neg (own_ltF (x := p1.toInt) (y := (8206)) rfl rfl (by omega))).trans ((if_pos (own_ltT (x := (8303)) (y := p1.toInt) rfl rfl (by omega))).trans ((if_neg (own_ltF (x := p1.toInt) (y := (8592)) rfl rfl (by omega))).trans ((if_pos (own_ltT (x := (11263)) (y := p1.toInt) rfl rfl (by omega))).trans ((if_neg (own_ltF (x := p1.toInt) (y := (12272)) rfl rfl (by omega))).trans ((if_pos (own_ltT (x := (12288)) (y := p1.toInt) rfl rfl (by omega))).trans ((if_neg (own_ltF (x := p1.toInt) (y := (55296)) rfl rfl (by omega))).trans ((if_pos (own_ltT (x := (63743)) (y := p1.toInt) rfl rfl (by omega))).trans ((if_neg (own_ltF (x := p1.toInt) (y := (64976)) rfl rfl (by omega))).trans ((if_pos (own_ltT (x := (65007)) (y := p1.toInt) rfl rfl (by omega))).trans ((if_neg (own_ltF (x := p1.toInt) (y := (65534)) rfl rfl (by omega))).trans ((if_pos (own_ltT (x := (65535)) (y := p1.toInt) rfl rfl (by omega))).trans (rfl))))))))))))))))))))))))))))
    exact e1.trans e2.symm
  by_cases k79 : p1.toInt < 983040
  · have e1 : own_f0 p1 = (1 : Int32) := (if_neg (own_eqF (x := p1.toInt) (y := (58)) rfl rfl (by omega))).trans ((if_neg (own_ltF (x := p1.toInt) (y := (65)) rfl rfl (by omega))).trans ((if_pos (own_ltT (x := (90)) (y := p1.toInt) rfl rfl (by omega))).trans ((if_neg (own_eqF (x := p1.toInt) (y := (95)) rfl rfl (by omega))).trans ((if_neg (own_ltF (x := p1.toInt) (y := (97)) rfl rfl (by omega))).trans ((if_pos (own_ltT (x := (122)) (y := p1.toInt) rfl rfl (by omega))).trans ((if_neg (own_ltF (x := p1.toInt) (y := (192)) rfl rfl (by omega))).trans ((if_pos (own_ltT (x := (214)) (y := p1.toInt) rfl rfl (by omega))).trans ((if_neg (own_ltF (x := p1.toInt) (y := (216)) rfl rfl (by omega))).trans ((if_pos (own_ltT (x := (246)) (y := p1.toInt) rfl rfl (by omega))).trans ((if_neg (own_ltF (x := p1.toInt) (y := (248)) rfl rfl (by omega))).trans ((if_pos (own_ltT (x := (767)) (y := p1.toInt) rfl rfl (by omega))).trans ((if_neg (own_ltF (x := p1.toInt) (y := (880)) rfl rfl (by omega))).trans ((if_pos (own_ltT (x := (893)) (y := p1.toInt) rfl rfl (by omega))).trans ((if_neg (own_ltF (x := p1.toInt) (y := (895)) rfl rfl (by omega))).trans ((if_pos (own_ltT (x := (8191)) (y := p1.toInt) rfl rfl (by omega))).trans ((if_neg (own_ltF (x := p1.toInt) (y := (8204)) rfl rfl (by omega))).trans ((if_pos (own_ltT (x := (8205)) (y := p1.toInt) rfl rfl (by omega))).trans ((if_neg (own_ltF (x := p1.toInt) (y := (8304)) rfl rfl (by omega))).trans ((if_pos (own_ltT (x := (8591)) (y := p1.toInt) rfl rfl (by omega))).trans ((if_neg (own_ltF (x := p1.toInt) (y := (11264)) rfl rfl (by omega))).trans ((if_pos (own_ltT (x := (12271)) (y := p1.toInt) rfl rfl (by omega))).trans ((if_neg (own_ltF (x := p1.toInt) (y := (12289)) rfl rfl (by omega))).trans ((if_pos (own_ltT (x := (55295)) (y := p1.toInt) rfl rfl (by omega))).trans ((if_neg (own_ltF (x := p1.toInt) (y := (63744)) rfl rfl (by omega))).trans ((if_pos (own_ltT (x := (64975)) (y := p1.toInt) rfl rfl (by omega))).trans ((if_neg (own_ltF (x := p1.toInt) (y := (65008)) rfl rfl (by omega))).trans ((if_pos (own_ltT (x := (65533)) (y := p1.toInt) rfl rfl (by omega))).trans ((if_neg (own_ltF (x := p1.toInt) (y := (65536)) rfl rfl (by omega))).trans ((if_neg (own_ltF (x := (983039)) (y := p1.toInt) rfl rfl (by omega))).trans (rfl))))))))))))))))))))))))))))))
    have e2 : own_g0 p1 = (1 : Int32) := (if_neg (own_ltF (x := p1.toInt) (y := (58)) rfl rfl (by omega))).trans ((if_neg (own_ltF (x := (983039)) (y := p1.toInt) rfl rfl (by omega))).trans ((if_neg (own_ltF (x := p1.toInt) (y := (59)) rfl rfl (by omega))).trans ((if_pos (own_ltT (x := (64)) (y := p1.toInt) rfl rfl (by omega))).trans ((if_neg (own_ltF (x := p1.toInt) (y := (91)) rfl rfl (by omega))).trans ((if_pos (own_ltT (x := (94)) (y := p1.toInt) rfl rfl (by omega))).trans ((if_neg (own_eqF (x := p1.toInt) (y := (96)) rfl rfl (by omega))).trans ((if_neg (own_ltF (x := p1.toInt) (y := (123)) rfl rfl (by omega))).trans ((if_pos (own_ltT (x := (191)) (y := p1.toInt) rfl rfl (by omega))).trans ((if_neg (own_eqF (x := p1.toInt) (y := (215)) rfl rfl (by omega))).trans ((if_neg (own_eqF (x := p1.toInt) (y := (247)) rfl rfl (by omega))).trans ((if_neg (own_ltF (x := p1.toInt) (y := (768)) rfl rfl (by omega))).trans ((if_pos (own_ltT (x := (879)) (y := p1.toInt) rfl rfl (by omega))).trans ((if_neg (own_eqF (x := p1.toInt) (y := (894)) rfl rfl (by omega))).trans ((if_neg (own_ltF (x := p1.toInt) (y := (8192)) rfl rfl (by omega))).trans ((if_pos (own_ltT (x := (8203)) (y := p1.toInt) rfl rfl (by omega))).trans ((if_neg (own_ltF (x := p1.toInt) (y := (8206)) rfl rfl (by omega))).trans ((if_pos (own_ltT (x := (8303)) (y := p1.toInt) rfl rfl (by omega))).trans ((if_neg (own_ltF (x := p1.toInt) (y := (8592)) rfl rfl (by omega))).trans ((if_pos (own_ltT (x := (11263)) (y := p1.toInt) rfl rfl (by omega))).trans ((if_neg (own_ltF (x := p1.toInt) (y := (12272)) rfl rfl (by omega))).trans ((if_pos (own_ltT (x := (12288)) (y := p1.toInt) rfl rfl (by omega))).trans ((if_neg (own_ltF (x := p1.toInt) (y := (55296)) rfl rfl (by omega))).trans ((if_pos (own_ltT (x := (63743)) (y := p1.toInt) rfl rfl (by omega))).trans ((if_neg (own_ltF (x := p1.toInt) (y := (64976)) rfl rfl (by omega))).trans ((if_pos (own_ltT (x := (65007)) (y := p1.toInt) rfl rfl (by omega))).trans ((if_neg (own_ltF (x := p1.toInt) (y := (65534)) rfl rfl (by omega))).trans ((if_pos (own_ltT (x := (65535)) (y := p1.toInt) rfl rfl (by omega))).trans (rfl))))))))))))))))))))))))))))
    exact e1.trans e2.symm
  have e1 : own_f0 p1 = (0 : Int32) := (if_neg (own_eqF (x := p1.toInt) (y := (58)) rfl rfl (by omega))).trans ((if_neg (own_ltF (x := p1.toInt) (y := (65)) rfl rfl (by omega))).trans ((if_pos (own_ltT (x := (90)) (y := p1.toInt) rfl rfl (by omega))).trans ((if_neg (own_eqF (x := p1.toInt) (y := (95)) rfl rfl (by omega))).trans ((if_neg (own_ltF (x := p1.toInt) (y := (97)) rfl rfl (by omega))).trans ((if_pos (own_ltT (x := (122)) (y := p1.toInt) rfl rfl (by omega))).trans ((if_neg (own_ltF (x := p1.toInt) (y := (192)) rfl rfl (by omega))).trans ((if_pos (own_ltT (x := (214)) (y := p1.toInt) rfl rfl (by omega))).trans ((if_neg (own_ltF (x := p1.toInt) (y := (216)) rfl rfl (by omega))).trans ((if_pos (own_ltT (x := (246)) (y := p1.toInt) rfl rfl (by omega))).trans ((if_neg (own_ltF (x := p1.toInt) (y := (248)) rfl rfl (by omega))).trans ((if_pos (own_ltT (x := (767)) (y := p1.toInt) rfl rfl (by omega))).trans ((if_neg (own_ltF (x := p1.toInt) (y := (880)) rfl rfl (by omega))).trans ((if_pos (own_ltT (x := (893)) (y := p1.toInt) rfl rfl (by omega))).trans ((if_neg (own_ltF (x := p1.toInt) (y := (895)) rfl rfl (by omega))).trans ((if_pos (own_ltT (x := (8191)) (y := p1.toInt) rfl rfl (by omega))).trans ((if_neg (own_ltF (x := p1.toInt) (y := (8204)) rfl rfl (by omega))).trans ((if_pos (own_ltT (x := (8205)) (y := p1.toInt) rfl rfl (by omega))).trans ((if_neg (own_ltF (x := p1.toInt) (y := (8304)) rfl rfl (by omega))).trans ((if_pos (own_ltT (x := (8591)) (y := p1.toInt) rfl rfl (by omega))).trans ((if_neg (own_ltF (x := p1.toInt) (y := (11264)) rfl rfl (by omega))).trans ((if_pos (own_ltT (x := (12271)) (y := p1.toInt) rfl rfl (by omega))).trans ((if_neg (own_ltF (x := p1.toInt) (y := (12289)) rfl rfl (by omega))).trans ((if_pos (own_ltT (x := (55295)) (y := p1.toInt) rfl rfl (by omega))).trans ((if_neg (own_ltF (x := p1.toInt) (y := (63744)) rfl rfl (by omega))).trans ((if_pos (own_ltT (x := (64975)) (y := p1.toInt) rfl rfl (by omega))).trans ((if_neg (own_ltF (x := p1.toInt) (y := (65008)) rfl rfl (by omega))).trans ((if_pos (own_ltT (x := (65533)) (y := p1.toInt) rfl rfl (by omega))).trans ((if_neg (own_ltF (x := p1.toInt) (y := (65536)) rfl rfl (by omega))).trans ((if_pos (own_ltT (x := (983039)) (y := p1.toInt) rfl rfl (by omega))).trans (rfl))))))))))))))))))))))))))))))
  have e2 : own_g0 p1 = (0 : Int32) := (if_neg (own_ltF (x := p1.toInt) (y := (58)) rfl rfl (by omega))).trans ((if_pos (own_ltT (x := (983039)) (y := p1.toInt) rfl rfl (by omega))).trans (rfl))
  exact e1.trans e2.symm
theorem ef_rm0 (m : MethodId) (x0 : Int32) (x1 : Int32) (x2 : Int32) : entryFrame m #[(.int x0), (.int x1), (.int x2)] maxLocals = mkF m 0 #[.val (.int x0), .val (.int x1), .val (.int x2), .unset, .unset, .unset, .unset, .unset, .unset] [] := by first | (simp [entryFrame, mkF, argsToLocals, Value.category, maxLocals]; done) | rfl
theorem pd__I_Z : parseMethodDescriptor "(I)Z" = some ⟨[.int], some .boolean⟩ := by decide +kernel
def Q_rm0 (Z : State) (p1 : Int32) (p2 : Int32) (p3 : Int32) (h0 : Heap) (n0 : Nat) (v : Option Value) (h : Heap) (L : List Loc) : Prop := v = some (.int (1 : Int32)) ∧ Fr n0 L
set_option maxRecDepth 65536 in
set_option maxHeartbeats 40000000 in
theorem rm0 (l : Launch) (Z : State) (a0 : Array Value) (hw : ∀ d ∈ tables_1, d.before a0 Z = true) (ws : List Jvm.Cond) (p1 : Int32) (p2 : Int32) (p3 : Int32) (h0 : Heap) (n0 : Nat) (Z0 : n0 ≤ h0.size) :
    MetFree l x (head1 (Jvm.Cond.code x code maxLocals ret :: ws) room_1) (fun a U => a = #[(.int p1), (.int p2), (.int p3)] ∧ Z.Warmed39 U.vm ∧ U.heap = h0) (fun _ _ _ _ _ => True) (fun _ U o U' => ∃ v L, o = .returned v ∧ Q_rm0 Z p1 p2 p3 h0 n0 v U'.heap L ∧ FrameEnd U o U' L 16 192) := by
  refine MetFree.of_bodySF (plainFor_of_name pn_com_example_yarkon_yarkon_document_DocumentCharactersIsNameStartCharPinLaw) hisR ?_
  intro p e s m args below meth c s₁ Bd hml0 hP hK
  obtain ⟨rfl, hZ, hh⟩ := hP
  have hx := Bd.exec
  have hby := Bd.bytes
  have hml : c.maxLocals = 9 := hml0
  have hown : s.vm.findClass "com/example/yarkon/yarkon/document/DocumentCharactersIsNameStartCharPinLaw" = some m.cls := findClass_of_methodNamed Bd.named
  have hnm := (name_of_methodNamed Bd.named Bd.method).1
  have X0 : Stand p l e room_1 s m #[(.int p1), (.int p2), (.int p3)] below meth c s₁ [] 0 0 := Stand.of_body Bd
  have e0 : s₁.heap = h0 := by rw [← hh, Bd.state]; rfl
  have N0 := Fr.nil n0
  have pre0 : ∀ t, Steps p.tables e below (s₁.setTop (mkF m 0 #[.val (.int p1), .val (.int p2), .val (.int p3), .unset, .unset, .unset, .unset, .unset, .unset] [])) t → Steps p.tables e below (s₁.setTop (entryFrame m #[(.int p1), (.int p2), (.int p3)] maxLocals)) t := fun t kT => castTop (ef_rm0 m p1 p2 p3) kT
  have pre1 : ∀ t, Steps p.tables e below (s₁.setTop (mkF m 2 #[.val (.int p1), .val (.int p2), .val (.int p3), .unset, .unset, .unset, .unset, .unset, .unset] [(.int (34 : Int32))])) t → Steps p.tables e below (s₁.setTop (entryFrame m #[(.int p1), (.int p2), (.int p3)] maxLocals)) t := fun t kT => pre0 t (by
    show Steps p.tables e below (s₁.setTop (mkF m 0 #[.val (.int p1), .val (.int p2), .val (.int p3), .unset, .unset, .unset, .unset, .unset, .unset] [])) _
    refine XS.bipush X0.here hx rfl (hb hby at_0) ?_
    exact kT)
  obtain ⟨T2, h2, k2, X2, e2, E2, A2, st2⟩ := newP X0 hx hZ (hw _ (List.mem_of_getElem? (i := 0) rfl)) e0 (g := (mkF m 2 #[.val (.int p1), .val (.int p2), .val (.int p3), .unset, .unset, .unset, .unset, .unset, .unset] [(.int (34 : Int32))])) rfl (hb hby at_2) rfl (by decide) (cap := 34) (by decide) (by decide) (by decide) (by decide)
  obtain ⟨b1, g2⟩ : ∃ z, z = h0.size := ⟨_, rfl⟩
  rw [← g2] at A2 st2
  have g_b1 : n0 ≤ b1 := Nat.le_trans Z0 (Nat.le_of_eq g2.symm)
  have pre3 : ∀ t, Steps p.tables e below (T2.setTop (mkF m 4 #[.val (.int p1), .val (.int p2), .val (.int p3), .unset, .unset, .unset, .unset, .unset, .unset] [(.ref b1)])) t → Steps p.tables e below (s₁.setTop (entryFrame m #[(.int p1), (.int p2), (.int p3)] maxLocals)) t := fun t kT => pre1 t (st2 t kT)
  have sz2 : n0 ≤ h2.size := Nat.le_trans Z0 E2.1
  have V_b1 : own_Ar Z h2 b1 .int 34 (fun _ => (.int (0 : Int32))) := own_Ar.new A2 (by decide)
  obtain ⟨co4, Ao4, So4, Ho4⟩ := id V_b1
  have io4 := (own_ld So4 Ho4 (j := (0 : Int32)) (i := 0) (by decide) (show (0 : Int32).toNatClampNeg = 0 from rfl) (by decide) rfl).1
  have pre5 : ∀ t, Steps p.tables e below (T2.setTop (mkF m 8 #[.val (.int p1), .val (.int p2), .val (.int p3), .unset, .unset, .unset, .unset, .unset, .unset] [(.int (58 : Int32)), (.int (0 : Int32)), (.ref b1), (.ref b1)])) t → Steps p.tables e below (s₁.setTop (entryFrame m #[(.int p1), (.int p2), (.int p3)] maxLocals)) t := fun t kT => pre3 t (by
    show Steps p.tables e below (T2.setTop (mkF m 4 #[.val (.int p1), .val (.int p2), .val (.int p3), .unset, .unset, .unset, .unset, .unset, .unset] [(.ref b1)])) _
    refine XS.dup X2.here hx rfl (hb hby at_4) rfl rfl ?_
    show Steps p.tables e below (T2.setTop (mkF m 5 #[.val (.int p1), .val (.int p2), .val (.int p3), .unset, .unset, .unset, .unset, .unset, .unset] [(.ref b1), (.ref b1)])) _
    refine XS.iconst X2.here hx rfl (hb hby at_5) ?_
    show Steps p.tables e below (T2.setTop (mkF m 6 #[.val (.int p1), .val (.int p2), .val (.int p3), .unset, .unset, .unset, .unset, .unset, .unset] [(.int (0 : Int32)), (.ref b1), (.ref b1)])) _
    refine XS.bipush X2.here hx rfl (hb hby at_6) ?_
    exact kT)
  obtain ⟨T6, h6, X6, e6, W6, st6⟩ := stI X2 hx hZ e2 Ao4 (j := (0 : Int32)) io4 (g := (mkF m 8 #[.val (.int p1), .val (.int p2), .val (.int p3), .unset, .unset, .unset, .unset, .unset, .unset] [(.int (58 : Int32)), (.int (0 : Int32)), (.ref b1), (.ref b1)])) rfl rfl (hb hby at_8)
  rw [(show (0 : Int32).toNatClampNeg = 0 from rfl)] at W6
  have pre7 : ∀ t, Steps p.tables e below (T6.setTop (mkF m 9 #[.val (.int p1), .val (.int p2), .val (.int p3), .unset, .unset, .unset, .unset, .unset, .unset] [(.ref b1)])) t → Steps p.tables e below (s₁.setTop (entryFrame m #[(.int p1), (.int p2), (.int p3)] maxLocals)) t := fun t kT => pre5 t (st6 t kT)
  have sz6 : n0 ≤ h6.size := Nat.le_trans sz2 (Keep.of_wr W6).1
  obtain ⟨gv6, V_b1_e6⟩ := own_wk (V_b1 : own_Ar Z _ b1 .int 34 (fun _ => (.int (0 : Int32)))) W6
  have N6 := Fr.snoc X6 N0 g_b1
  obtain ⟨co8, Ao8, So8, Ho8⟩ := id V_b1_e6
  have io8 := (own_ld So8 Ho8 (j := (1 : Int32)) (i := 1) (by decide) (show (1 : Int32).toNatClampNeg = 1 from rfl) (by decide) rfl).1
  have pre9 : ∀ t, Steps p.tables e below (T6.setTop (mkF m 13 #[.val (.int p1), .val (.int p2), .val (.int p3), .unset, .unset, .unset, .unset, .unset, .unset] [(.int (65 : Int32)), (.int (1 : Int32)), (.ref b1), (.ref b1)])) t → Steps p.tables e below (s₁.setTop (entryFrame m #[(.int p1), (.int p2), (.int p3)] maxLocals)) t := fun t kT => pre7 t (by
    show Steps p.tables e below (T6.setTop (mkF m 9 #[.val (.int p1), .val (.int p2), .val (.int p3), .unset, .unset, .unset, .unset, .unset, .unset] [(.ref b1)])) _
    refine XS.dup X6.here hx rfl (hb hby at_9) rfl rfl ?_
    show Steps p.tables e below (T6.setTop (mkF m 10 #[.val (.int p1), .val (.int p2), .val (.int p3), .unset, .unset, .unset, .unset, .unset, .unset] [(.ref b1), (.ref b1)])) _
    refine XS.iconst X6.here hx rfl (hb hby at_10) ?_
    show Steps p.tables e below (T6.setTop (mkF m 11 #[.val (.int p1), .val (.int p2), .val (.int p3), .unset, .unset, .unset, .unset, .unset, .unset] [(.int (1 : Int32)), (.ref b1), (.ref b1)])) _
    refine XS.bipush X6.here hx rfl (hb hby at_11) ?_
    exact kT)
  obtain ⟨T10, h10, X10, e10, W10, st10⟩ := stI X6 hx hZ e6 Ao8 (j := (1 : Int32)) io8 (g := (mkF m 13 #[.val (.int p1), .val (.int p2), .val (.int p3), .unset, .unset, .unset, .unset, .unset, .unset] [(.int (65 : Int32)), (.int (1 : Int32)), (.ref b1), (.ref b1)])) rfl rfl (hb hby at_13)
  rw [(show (1 : Int32).toNatClampNeg = 1 from rfl)] at W10
  have pre11 : ∀ t, Steps p.tables e below (T10.setTop (mkF m 14 #[.val (.int p1), .val (.int p2), .val (.int p3), .unset, .unset, .unset, .unset, .unset, .unset] [(.ref b1)])) t → Steps p.tables e below (s₁.setTop (entryFrame m #[(.int p1), (.int p2), (.int p3)] maxLocals)) t := fun t kT => pre9 t (st10 t kT)
  have sz10 : n0 ≤ h10.size := Nat.le_trans sz6 (Keep.of_wr W10).1
  obtain ⟨gv10, V_b1_e10⟩ := own_wk (V_b1_e6 : own_Ar Z _ b1 .int 34 (fun i => .int (gv6 i))) W10
  have N10 := Fr.snoc X10 N6 g_b1
  obtain ⟨co12, Ao12, So12, Ho12⟩ := id V_b1_e10
  have io12 := (own_ld So12 Ho12 (j := (2 : Int32)) (i := 2) (by decide) (show (2 : Int32).toNatClampNeg = 2 from rfl) (by decide) rfl).1
  have pre13 : ∀ t, Steps p.tables e below (T10.setTop (mkF m 18 #[.val (.int p1), .val (.int p2), .val (.int p3), .unset, .unset, .unset, .unset, .unset, .unset] [(.int (90 : Int32)), (.int (2 : Int32)), (.ref b1), (.ref b1)])) t → Steps p.tables e below (s₁.setTop (entryFrame m #[(.int p1), (.int p2), (.int p3)] maxLocals)) t := fun t kT => pre11 t (by
    show Steps p.tables e below (T10.setTop (mkF m 14 #[.val (.int p1), .val (.int p2), .val (.int p3), .unset, .unset, .unset, .unset, .unset, .unset] [(.ref b1)])) _
    refine XS.dup X10.here hx rfl (hb hby at_14) rfl rfl ?_
    show Steps p.tables e below (T10.setTop (mkF m 15 #[.val (.int p1), .val (.int p2), .val (.int p3), .unset, .unset, .unset, .unset, .unset, .unset] [(.ref b1), (.ref b1)])) _
    refine XS.iconst X10.here hx rfl (hb hby at_15) ?_
    show Steps p.tables e below (T10.setTop (mkF m 16 #[.val (.int p1), .val (.int p2), .val (.int p3), .unset, .unset, .unset, .unset, .unset, .unset] [(.int (2 : Int32)), (.ref b1), (.ref b1)])) _
    refine XS.bipush X10.here hx rfl (hb hby at_16) ?_
    exact kT)
  obtain ⟨T14, h14, X14, e14, W14, st14⟩ := stI X10 hx hZ e10 Ao12 (j := (2 : Int32)) io12 (g := (mkF m 18 #[.val (.int p1), .val (.int p2), .val (.int p3), .unset, .unset, .unset, .unset, .unset, .unset] [(.int (90 : Int32)), (.int (2 : Int32)), (.ref b1), (.ref b1)])) rfl rfl (hb hby at_18)
  rw [(show (2 : Int32).toNatClampNeg = 2 from rfl)] at W14
  have pre15 : ∀ t, Steps p.tables e below (T14.setTop (mkF m 19 #[.val (.int p1), .val (.int p2), .val (.int p3), .unset, .unset, .unset, .unset, .unset, .unset] [(.ref b1)])) t → Steps p.tables e below (s₁.setTop (entryFrame m #[(.int p1), (.int p2), (.int p3)] maxLocals)) t := fun t kT => pre13 t (st14 t kT)
  have sz14 : n0 ≤ h14.size := Nat.le_trans sz10 (Keep.of_wr W14).1
  obtain ⟨gv14, V_b1_e14⟩ := own_wk (V_b1_e10 : own_Ar Z _ b1 .int 34 (fun i => .int (gv10 i))) W14
  have N14 := Fr.snoc X14 N10 g_b1
  obtain ⟨co16, Ao16, So16, Ho16⟩ := id V_b1_e14
  have io16 := (own_ld So16 Ho16 (j := (3 : Int32)) (i := 3) (by decide) (show (3 : Int32).toNatClampNeg = 3 from rfl) (by decide) rfl).1
  have pre17 : ∀ t, Steps p.tables e below (T14.setTop (mkF m 23 #[.val (.int p1), .val (.int p2), .val (.int p3), .unset, .unset, .unset, .unset, .unset, .unset] [(.int (95 : Int32)), (.int (3 : Int32)), (.ref b1), (.ref b1)])) t → Steps p.tables e below (s₁.setTop (entryFrame m #[(.int p1), (.int p2), (.int p3)] maxLocals)) t := fun t kT => pre15 t (by
    show Steps p.tables e below (T14.setTop (mkF m 19 #[.val (.int p1), .val (.int p2), .val (.int p3), .unset, .unset, .unset, .unset, .unset, .unset] [(.ref b1)])) _
    refine XS.dup X14.here hx rfl (hb hby at_19) rfl rfl ?_
    show Steps p.tables e below (T14.setTop (mkF m 20 #[.val (.int p1), .val (.int p2), .val (.int p3), .unset, .unset, .unset, .unset, .unset, .unset] [(.ref b1), (.ref b1)])) _
    refine XS.iconst X14.here hx rfl (hb hby at_20) ?_
    show Steps p.tables e below (T14.setTop (mkF m 21 #[.val (.int p1), .val (.int p2), .val (.int p3), .unset, .unset, .unset, .unset, .unset, .unset] [(.int (3 : Int32)), (.ref b1), (.ref b1)])) _
    refine XS.bipush X14.here hx rfl (hb hby at_21) ?_
    exact kT)
  obtain ⟨T18, h18, X18, e18, W18, st18⟩ := stI X14 hx hZ e14 Ao16 (j := (3 : Int32)) io16 (g := (mkF m 23 #[.val (.int p1), .val (.int p2), .val (.int p3), .unset, .unset, .unset, .unset, .unset, .unset] [(.int (95 : Int32)), (.int (3 : Int32)), (.ref b1), (.ref b1)])) rfl rfl (hb hby at_23)
  rw [(show (3 : Int32).toNatClampNeg = 3 from rfl)] at W18
  have pre19 : ∀ t, Steps p.tables e below (T18.setTop (mkF m 24 #[.val (.int p1), .val (.int p2), .val (.int p3), .unset, .unset, .unset, .unset, .unset, .unset] [(.ref b1)])) t → Steps p.tables e below (s₁.setTop (entryFrame m #[(.int p1), (.int p2), (.int p3)] maxLocals)) t := fun t kT => pre17 t (st18 t kT)
  have sz18 : n0 ≤ h18.size := Nat.le_trans sz14 (Keep.of_wr W18).1
  obtain ⟨gv18, V_b1_e18⟩ := own_wk (V_b1_e14 : own_Ar Z _ b1 .int 34 (fun i => .int (gv14 i))) W18
  have N18 := Fr.snoc X18 N14 g_b1
  obtain ⟨co20, Ao20, So20, Ho20⟩ := id V_b1_e18
  have io20 := (own_ld So20 Ho20 (j := (4 : Int32)) (i := 4) (by decide) (show (4 : Int32).toNatClampNeg = 4 from rfl) (by decide) rfl).1
  have pre21 : ∀ t, Steps p.tables e below (T18.setTop (mkF m 28 #[.val (.int p1), .val (.int p2), .val (.int p3), .unset, .unset, .unset, .unset, .unset, .unset] [(.int (97 : Int32)), (.int (4 : Int32)), (.ref b1), (.ref b1)])) t → Steps p.tables e below (s₁.setTop (entryFrame m #[(.int p1), (.int p2), (.int p3)] maxLocals)) t := fun t kT => pre19 t (by
    show Steps p.tables e below (T18.setTop (mkF m 24 #[.val (.int p1), .val (.int p2), .val (.int p3), .unset, .unset, .unset, .unset, .unset, .unset] [(.ref b1)])) _
    refine XS.dup X18.here hx rfl (hb hby at_24) rfl rfl ?_
    show Steps p.tables e below (T18.setTop (mkF m 25 #[.val (.int p1), .val (.int p2), .val (.int p3), .unset, .unset, .unset, .unset, .unset, .unset] [(.ref b1), (.ref b1)])) _
    refine XS.iconst X18.here hx rfl (hb hby at_25) ?_
    show Steps p.tables e below (T18.setTop (mkF m 26 #[.val (.int p1), .val (.int p2), .val (.int p3), .unset, .unset, .unset, .unset, .unset, .unset] [(.int (4 : Int32)), (.ref b1), (.ref b1)])) _
    refine XS.bipush X18.here hx rfl (hb hby at_26) ?_
    exact kT)
  obtain ⟨T22, h22, X22, e22, W22, st22⟩ := stI X18 hx hZ e18 Ao20 (j := (4 : Int32)) io20 (g := (mkF m 28 #[.val (.int p1), .val (.int p2), .val (.int p3), .unset, .unset, .unset, .unset, .unset, .unset] [(.int (97 : Int32)), (.int (4 : Int32)), (.ref b1), (.ref b1)])) rfl rfl (hb hby at_28)
  rw [(show (4 : Int32).toNatClampNeg = 4 from rfl)] at W22
  have pre23 : ∀ t, Steps p.tables e below (T22.setTop (mkF m 29 #[.val (.int p1), .val (.int p2), .val (.int p3), .unset, .unset, .unset, .unset, .unset, .unset] [(.ref b1)])) t → Steps p.tables e below (s₁.setTop (entryFrame m #[(.int p1), (.int p2), (.int p3)] maxLocals)) t := fun t kT => pre21 t (st22 t kT)
  have sz22 : n0 ≤ h22.size := Nat.le_trans sz18 (Keep.of_wr W22).1
  obtain ⟨gv22, V_b1_e22⟩ := own_wk (V_b1_e18 : own_Ar Z _ b1 .int 34 (fun i => .int (gv18 i))) W22
  have N22 := Fr.snoc X22 N18 g_b1
  obtain ⟨co24, Ao24, So24, Ho24⟩ := id V_b1_e22
  have io24 := (own_ld So24 Ho24 (j := (5 : Int32)) (i := 5) (by decide) (show (5 : Int32).toNatClampNeg = 5 from rfl) (by decide) rfl).1
  have pre25 : ∀ t, Steps p.tables e below (T22.setTop (mkF m 33 #[.val (.int p1), .val (.int p2), .val (.int p3), .unset, .unset, .unset, .unset, .unset, .unset] [(.int (122 : Int32)), (.int (5 : Int32)), (.ref b1), (.ref b1)])) t → Steps p.tables e below (s₁.setTop (entryFrame m #[(.int p1), (.int p2), (.int p3)] maxLocals)) t := fun t kT => pre23 t (by
    show Steps p.tables e below (T22.setTop (mkF m 29 #[.val (.int p1), .val (.int p2), .val (.int p3), .unset, .unset, .unset, .unset, .unset, .unset] [(.ref b1)])) _
    refine XS.dup X22.here hx rfl (hb hby at_29) rfl rfl ?_
    show Steps p.tables e below (T22.setTop (mkF m 30 #[.val (.int p1), .val (.int p2), .val (.int p3), .unset, .unset, .unset, .unset, .unset, .unset] [(.ref b1), (.ref b1)])) _
    refine XS.iconst X22.here hx rfl (hb hby at_30) ?_
    show Steps p.tables e below (T22.setTop (mkF m 31 #[.val (.int p1), .val (.int p2), .val (.int p3), .unset, .unset, .unset, .unset, .unset, .unset] [(.int (5 : Int32)), (.ref b1), (.ref b1)])) _
    refine XS.bipush X22.here hx rfl (hb hby at_31) ?_
    exact kT)
  obtain ⟨T26, h26, X26, e26, W26, st26⟩ := stI X22 hx hZ e22 Ao24 (j := (5 : Int32)) io24 (g := (mkF m 33 #[.val (.int p1), .val (.int p2), .val (.int p3), .unset, .unset, .unset, .unset, .unset, .unset] [(.int (122 : Int32)), (.int (5 : Int32)), (.ref b1), (.ref b1)])) rfl rfl (hb hby at_33)
  rw [(show (5 : Int32).toNatClampNeg = 5 from rfl)] at W26
  have pre27 : ∀ t, Steps p.tables e below (T26.setTop (mkF m 34 #[.val (.int p1), .val (.int p2), .val (.int p3), .unset, .unset, .unset, .unset, .unset, .unset] [(.ref b1)])) t → Steps p.tables e below (s₁.setTop (entryFrame m #[(.int p1), (.int p2), (.int p3)] maxLocals)) t := fun t kT => pre25 t (st26 t kT)
  have sz26 : n0 ≤ h26.size := Nat.le_trans sz22 (Keep.of_wr W26).1
  obtain ⟨gv26, V_b1_e26⟩ := own_wk (V_b1_e22 : own_Ar Z _ b1 .int 34 (fun i => .int (gv22 i))) W26
  have N26 := Fr.snoc X26 N22 g_b1
  obtain ⟨co28, Ao28, So28, Ho28⟩ := id V_b1_e26
  have io28 := (own_ld So28 Ho28 (j := (6 : Int32)) (i := 6) (by decide) (show (6 : Int32).toNatClampNeg = 6 from rfl) (by decide) rfl).1
  have pre29 : ∀ t, Steps p.tables e below (T26.setTop (mkF m 40 #[.val (.int p1), .val (.int p2), .val (.int p3), .unset, .unset, .unset, .unset, .unset, .unset] [(.int (192 : Int32)), (.int (6 : Int32)), (.ref b1), (.ref b1)])) t → Steps p.tables e below (s₁.setTop (entryFrame m #[(.int p1), (.int p2), (.int p3)] maxLocals)) t := fun t kT => pre27 t (by
    show Steps p.tables e below (T26.setTop (mkF m 34 #[.val (.int p1), .val (.int p2), .val (.int p3), .unset, .unset, .unset, .unset, .unset, .unset] [(.ref b1)])) _
    refine XS.dup X26.here hx rfl (hb hby at_34) rfl rfl ?_
    show Steps p.tables e below (T26.setTop (mkF m 35 #[.val (.int p1), .val (.int p2), .val (.int p3), .unset, .unset, .unset, .unset, .unset, .unset] [(.ref b1), (.ref b1)])) _
    refine XS.bipush X26.here hx rfl (hb hby at_35) ?_
    show Steps p.tables e below (T26.setTop (mkF m 37 #[.val (.int p1), .val (.int p2), .val (.int p3), .unset, .unset, .unset, .unset, .unset, .unset] [(.int (6 : Int32)), (.ref b1), (.ref b1)])) _
    refine XS.sipush X26.here hx rfl (hb hby at_37) ?_
    exact kT)
  obtain ⟨T30, h30, X30, e30, W30, st30⟩ := stI X26 hx hZ e26 Ao28 (j := (6 : Int32)) io28 (g := (mkF m 40 #[.val (.int p1), .val (.int p2), .val (.int p3), .unset, .unset, .unset, .unset, .unset, .unset] [(.int (192 : Int32)), (.int (6 : Int32)), (.ref b1), (.ref b1)])) rfl rfl (hb hby at_40)
  rw [(show (6 : Int32).toNatClampNeg = 6 from rfl)] at W30
  have pre31 : ∀ t, Steps p.tables e below (T30.setTop (mkF m 41 #[.val (.int p1), .val (.int p2), .val (.int p3), .unset, .unset, .unset, .unset, .unset, .unset] [(.ref b1)])) t → Steps p.tables e below (s₁.setTop (entryFrame m #[(.int p1), (.int p2), (.int p3)] maxLocals)) t := fun t kT => pre29 t (st30 t kT)
  have sz30 : n0 ≤ h30.size := Nat.le_trans sz26 (Keep.of_wr W30).1
  obtain ⟨gv30, V_b1_e30⟩ := own_wk (V_b1_e26 : own_Ar Z _ b1 .int 34 (fun i => .int (gv26 i))) W30
  have N30 := Fr.snoc X30 N26 g_b1
  obtain ⟨co32, Ao32, So32, Ho32⟩ := id V_b1_e30
  have io32 := (own_ld So32 Ho32 (j := (7 : Int32)) (i := 7) (by decide) (show (7 : Int32).toNatClampNeg = 7 from rfl) (by decide) rfl).1
  have pre33 : ∀ t, Steps p.tables e below (T30.setTop (mkF m 47 #[.val (.int p1), .val (.int p2), .val (.int p3), .unset, .unset, .unset, .unset, .unset, .unset] [(.int (214 : Int32)), (.int (7 : Int32)), (.ref b1), (.ref b1)])) t → Steps p.tables e below (s₁.setTop (entryFrame m #[(.int p1), (.int p2), (.int p3)] maxLocals)) t := fun t kT => pre31 t (by
    show Steps p.tables e below (T30.setTop (mkF m 41 #[.val (.int p1), .val (.int p2), .val (.int p3), .unset, .unset, .unset, .unset, .unset, .unset] [(.ref b1)])) _
    refine XS.dup X30.here hx rfl (hb hby at_41) rfl rfl ?_
    show Steps p.tables e below (T30.setTop (mkF m 42 #[.val (.int p1), .val (.int p2), .val (.int p3), .unset, .unset, .unset, .unset, .unset, .unset] [(.ref b1), (.ref b1)])) _
    refine XS.bipush X30.here hx rfl (hb hby at_42) ?_
    show Steps p.tables e below (T30.setTop (mkF m 44 #[.val (.int p1), .val (.int p2), .val (.int p3), .unset, .unset, .unset, .unset, .unset, .unset] [(.int (7 : Int32)), (.ref b1), (.ref b1)])) _
    refine XS.sipush X30.here hx rfl (hb hby at_44) ?_
    exact kT)
  obtain ⟨T34, h34, X34, e34, W34, st34⟩ := stI X30 hx hZ e30 Ao32 (j := (7 : Int32)) io32 (g := (mkF m 47 #[.val (.int p1), .val (.int p2), .val (.int p3), .unset, .unset, .unset, .unset, .unset, .unset] [(.int (214 : Int32)), (.int (7 : Int32)), (.ref b1), (.ref b1)])) rfl rfl (hb hby at_47)
  rw [(show (7 : Int32).toNatClampNeg = 7 from rfl)] at W34
  have pre35 : ∀ t, Steps p.tables e below (T34.setTop (mkF m 48 #[.val (.int p1), .val (.int p2), .val (.int p3), .unset, .unset, .unset, .unset, .unset, .unset] [(.ref b1)])) t → Steps p.tables e below (s₁.setTop (entryFrame m #[(.int p1), (.int p2), (.int p3)] maxLocals)) t := fun t kT => pre33 t (st34 t kT)
  have sz34 : n0 ≤ h34.size := Nat.le_trans sz30 (Keep.of_wr W34).1
  obtain ⟨gv34, V_b1_e34⟩ := own_wk (V_b1_e30 : own_Ar Z _ b1 .int 34 (fun i => .int (gv30 i))) W34
  have N34 := Fr.snoc X34 N30 g_b1
  obtain ⟨co36, Ao36, So36, Ho36⟩ := id V_b1_e34
  have io36 := (own_ld So36 Ho36 (j := (8 : Int32)) (i := 8) (by decide) (show (8 : Int32).toNatClampNeg = 8 from rfl) (by decide) rfl).1
  have pre37 : ∀ t, Steps p.tables e below (T34.setTop (mkF m 54 #[.val (.int p1), .val (.int p2), .val (.int p3), .unset, .unset, .unset, .unset, .unset, .unset] [(.int (216 : Int32)), (.int (8 : Int32)), (.ref b1), (.ref b1)])) t → Steps p.tables e below (s₁.setTop (entryFrame m #[(.int p1), (.int p2), (.int p3)] maxLocals)) t := fun t kT => pre35 t (by
    show Steps p.tables e below (T34.setTop (mkF m 48 #[.val (.int p1), .val (.int p2), .val (.int p3), .unset, .unset, .unset, .unset, .unset, .unset] [(.ref b1)])) _
    refine XS.dup X34.here hx rfl (hb hby at_48) rfl rfl ?_
    show Steps p.tables e below (T34.setTop (mkF m 49 #[.val (.int p1), .val (.int p2), .val (.int p3), .unset, .unset, .unset, .unset, .unset, .unset] [(.ref b1), (.ref b1)])) _
    refine XS.bipush X34.here hx rfl (hb hby at_49) ?_
    show Steps p.tables e below (T34.setTop (mkF m 51 #[.val (.int p1), .val (.int p2), .val (.int p3), .unset, .unset, .unset, .unset, .unset, .unset] [(.int (8 : Int32)), (.ref b1), (.ref b1)])) _
    refine XS.sipush X34.here hx rfl (hb hby at_51) ?_
    exact kT)
  obtain ⟨T38, h38, X38, e38, W38, st38⟩ := stI X34 hx hZ e34 Ao36 (j := (8 : Int32)) io36 (g := (mkF m 54 #[.val (.int p1), .val (.int p2), .val (.int p3), .unset, .unset, .unset, .unset, .unset, .unset] [(.int (216 : Int32)), (.int (8 : Int32)), (.ref b1), (.ref b1)])) rfl rfl (hb hby at_54)
  rw [(show (8 : Int32).toNatClampNeg = 8 from rfl)] at W38
  have pre39 : ∀ t, Steps p.tables e below (T38.setTop (mkF m 55 #[.val (.int p1), .val (.int p2), .val (.int p3), .unset, .unset, .unset, .unset, .unset, .unset] [(.ref b1)])) t → Steps p.tables e below (s₁.setTop (entryFrame m #[(.int p1), (.int p2), (.int p3)] maxLocals)) t := fun t kT => pre37 t (st38 t kT)
  have sz38 : n0 ≤ h38.size := Nat.le_trans sz34 (Keep.of_wr W38).1
  obtain ⟨gv38, V_b1_e38⟩ := own_wk (V_b1_e34 : own_Ar Z _ b1 .int 34 (fun i => .int (gv34 i))) W38
  have N38 := Fr.snoc X38 N34 g_b1
  obtain ⟨co40, Ao40, So40, Ho40⟩ := id V_b1_e38
  have io40 := (own_ld So40 Ho40 (j := (9 : Int32)) (i := 9) (by decide) (show (9 : Int32).toNatClampNeg = 9 from rfl) (by decide) rfl).1
  have pre41 : ∀ t, Steps p.tables e below (T38.setTop (mkF m 61 #[.val (.int p1), .val (.int p2), .val (.int p3), .unset, .unset, .unset, .unset, .unset, .unset] [(.int (246 : Int32)), (.int (9 : Int32)), (.ref b1), (.ref b1)])) t → Steps p.tables e below (s₁.setTop (entryFrame m #[(.int p1), (.int p2), (.int p3)] maxLocals)) t := fun t kT => pre39 t (by
    show Steps p.tables e below (T38.setTop (mkF m 55 #[.val (.int p1), .val (.int p2), .val (.int p3), .unset, .unset, .unset, .unset, .unset, .unset] [(.ref b1)])) _
    refine XS.dup X38.here hx rfl (hb hby at_55) rfl rfl ?_
    show Steps p.tables e below (T38.setTop (mkF m 56 #[.val (.int p1), .val (.int p2), .val (.int p3), .unset, .unset, .unset, .unset, .unset, .unset] [(.ref b1), (.ref b1)])) _
    refine XS.bipush X38.here hx rfl (hb hby at_56) ?_
    show Steps p.tables e below (T38.setTop (mkF m 58 #[.val (.int p1), .val (.int p2), .val (.int p3), .unset, .unset, .unset, .unset, .unset, .unset] [(.int (9 : Int32)), (.ref b1), (.ref b1)])) _
    refine XS.sipush X38.here hx rfl (hb hby at_58) ?_
    exact kT)
  obtain ⟨T42, h42, X42, e42, W42, st42⟩ := stI X38 hx hZ e38 Ao40 (j := (9 : Int32)) io40 (g := (mkF m 61 #[.val (.int p1), .val (.int p2), .val (.int p3), .unset, .unset, .unset, .unset, .unset, .unset] [(.int (246 : Int32)), (.int (9 : Int32)), (.ref b1), (.ref b1)])) rfl rfl (hb hby at_61)
  rw [(show (9 : Int32).toNatClampNeg = 9 from rfl)] at W42
  have pre43 : ∀ t, Steps p.tables e below (T42.setTop (mkF m 62 #[.val (.int p1), .val (.int p2), .val (.int p3), .unset, .unset, .unset, .unset, .unset, .unset] [(.ref b1)])) t → Steps p.tables e below (s₁.setTop (entryFrame m #[(.int p1), (.int p2), (.int p3)] maxLocals)) t := fun t kT => pre41 t (st42 t kT)
  have sz42 : n0 ≤ h42.size := Nat.le_trans sz38 (Keep.of_wr W42).1
  obtain ⟨gv42, V_b1_e42⟩ := own_wk (V_b1_e38 : own_Ar Z _ b1 .int 34 (fun i => .int (gv38 i))) W42
  have N42 := Fr.snoc X42 N38 g_b1
  obtain ⟨co44, Ao44, So44, Ho44⟩ := id V_b1_e42
  have io44 := (own_ld So44 Ho44 (j := (10 : Int32)) (i := 10) (by decide) (show (10 : Int32).toNatClampNeg = 10 from rfl) (by decide) rfl).1
  have pre45 : ∀ t, Steps p.tables e below (T42.setTop (mkF m 68 #[.val (.int p1), .val (.int p2), .val (.int p3), .unset, .unset, .unset, .unset, .unset, .unset] [(.int (248 : Int32)), (.int (10 : Int32)), (.ref b1), (.ref b1)])) t → Steps p.tables e below (s₁.setTop (entryFrame m #[(.int p1), (.int p2), (.int p3)] maxLocals)) t := fun t kT => pre43 t (by
    show Steps p.tables e below (T42.setTop (mkF m 62 #[.val (.int p1), .val (.int p2), .val (.int p3), .unset, .unset, .unset, .unset, .unset, .unset] [(.ref b1)])) _
    refine XS.dup X42.here hx rfl (hb hby at_62) rfl rfl ?_
    show Steps p.tables e below (T42.setTop (mkF m 63 #[.val (.int p1), .val (.int p2), .val (.int p3), .unset, .unset, .unset, .unset, .unset, .unset] [(.ref b1), (.ref b1)])) _
    refine XS.bipush X42.here hx rfl (hb hby at_63) ?_
    show Steps p.tables e below (T42.setTop (mkF m 65 #[.val (.int p1), .val (.int p2), .val (.int p3), .unset, .unset, .unset, .unset, .unset, .unset] [(.int (10 : Int32)), (.ref b1), (.ref b1)])) _
    refine XS.sipush X42.here hx rfl (hb hby at_65) ?_
    exact kT)
  obtain ⟨T46, h46, X46, e46, W46, st46⟩ := stI X42 hx hZ e42 Ao44 (j := (10 : Int32)) io44 (g := (mkF m 68 #[.val (.int p1), .val (.int p2), .val (.int p3), .unset, .unset, .unset, .unset, .unset, .unset] [(.int (248 : Int32)), (.int (10 : Int32)), (.ref b1), (.ref b1)])) rfl rfl (hb hby at_68)
  rw [(show (10 : Int32).toNatClampNeg = 10 from rfl)] at W46
  have pre47 : ∀ t, Steps p.tables e below (T46.setTop (mkF m 69 #[.val (.int p1), .val (.int p2), .val (.int p3), .unset, .unset, .unset, .unset, .unset, .unset] [(.ref b1)])) t → Steps p.tables e below (s₁.setTop (entryFrame m #[(.int p1), (.int p2), (.int p3)] maxLocals)) t := fun t kT => pre45 t (st46 t kT)
  have sz46 : n0 ≤ h46.size := Nat.le_trans sz42 (Keep.of_wr W46).1
  obtain ⟨gv46, V_b1_e46⟩ := own_wk (V_b1_e42 : own_Ar Z _ b1 .int 34 (fun i => .int (gv42 i))) W46
  have N46 := Fr.snoc X46 N42 g_b1
  obtain ⟨co48, Ao48, So48, Ho48⟩ := id V_b1_e46
  have io48 := (own_ld So48 Ho48 (j := (11 : Int32)) (i := 11) (by decide) (show (11 : Int32).toNatClampNeg = 11 from rfl) (by decide) rfl).1
  have pre49 : ∀ t, Steps p.tables e below (T46.setTop (mkF m 75 #[.val (.int p1), .val (.int p2), .val (.int p3), .unset, .unset, .unset, .unset, .unset, .unset] [(.int (767 : Int32)), (.int (11 : Int32)), (.ref b1), (.ref b1)])) t → Steps p.tables e below (s₁.setTop (entryFrame m #[(.int p1), (.int p2), (.int p3)] maxLocals)) t := fun t kT => pre47 t (by
    show Steps p.tables e below (T46.setTop (mkF m 69 #[.val (.int p1), .val (.int p2), .val (.int p3), .unset, .unset, .unset, .unset, .unset, .unset] [(.ref b1)])) _
    refine XS.dup X46.here hx rfl (hb hby at_69) rfl rfl ?_
    show Steps p.tables e below (T46.setTop (mkF m 70 #[.val (.int p1), .val (.int p2), .val (.int p3), .unset, .unset, .unset, .unset, .unset, .unset] [(.ref b1), (.ref b1)])) _
    refine XS.bipush X46.here hx rfl (hb hby at_70) ?_
    show Steps p.tables e below (T46.setTop (mkF m 72 #[.val (.int p1), .val (.int p2), .val (.int p3), .unset, .unset, .unset, .unset, .unset, .unset] [(.int (11 : Int32)), (.ref b1), (.ref b1)])) _
    refine XS.sipush X46.here hx rfl (hb hby at_72) ?_
    exact kT)
  obtain ⟨T50, h50, X50, e50, W50, st50⟩ := stI X46 hx hZ e46 Ao48 (j := (11 : Int32)) io48 (g := (mkF m 75 #[.val (.int p1), .val (.int p2), .val (.int p3), .unset, .unset, .unset, .unset, .unset, .unset] [(.int (767 : Int32)), (.int (11 : Int32)), (.ref b1), (.ref b1)])) rfl rfl (hb hby at_75)
  rw [(show (11 : Int32).toNatClampNeg = 11 from rfl)] at W50
  have pre51 : ∀ t, Steps p.tables e below (T50.setTop (mkF m 76 #[.val (.int p1), .val (.int p2), .val (.int p3), .unset, .unset, .unset, .unset, .unset, .unset] [(.ref b1)])) t → Steps p.tables e below (s₁.setTop (entryFrame m #[(.int p1), (.int p2), (.int p3)] maxLocals)) t := fun t kT => pre49 t (st50 t kT)
  have sz50 : n0 ≤ h50.size := Nat.le_trans sz46 (Keep.of_wr W50).1
  obtain ⟨gv50, V_b1_e50⟩ := own_wk (V_b1_e46 : own_Ar Z _ b1 .int 34 (fun i => .int (gv46 i))) W50
  have N50 := Fr.snoc X50 N46 g_b1
  obtain ⟨co52, Ao52, So52, Ho52⟩ := id V_b1_e50
  have io52 := (own_ld So52 Ho52 (j := (12 : Int32)) (i := 12) (by decide) (show (12 : Int32).toNatClampNeg = 12 from rfl) (by decide) rfl).1
  have pre53 : ∀ t, Steps p.tables e below (T50.setTop (mkF m 82 #[.val (.int p1), .val (.int p2), .val (.int p3), .unset, .unset, .unset, .unset, .unset, .unset] [(.int (880 : Int32)), (.int (12 : Int32)), (.ref b1), (.ref b1)])) t → Steps p.tables e below (s₁.setTop (entryFrame m #[(.int p1), (.int p2), (.int p3)] maxLocals)) t := fun t kT => pre51 t (by
    show Steps p.tables e below (T50.setTop (mkF m 76 #[.val (.int p1), .val (.int p2), .val (.int p3), .unset, .unset, .unset, .unset, .unset, .unset] [(.ref b1)])) _
    refine XS.dup X50.here hx rfl (hb hby at_76) rfl rfl ?_
    show Steps p.tables e below (T50.setTop (mkF m 77 #[.val (.int p1), .val (.int p2), .val (.int p3), .unset, .unset, .unset, .unset, .unset, .unset] [(.ref b1), (.ref b1)])) _
    refine XS.bipush X50.here hx rfl (hb hby at_77) ?_
    show Steps p.tables e below (T50.setTop (mkF m 79 #[.val (.int p1), .val (.int p2), .val (.int p3), .unset, .unset, .unset, .unset, .unset, .unset] [(.int (12 : Int32)), (.ref b1), (.ref b1)])) _
    refine XS.sipush X50.here hx rfl (hb hby at_79) ?_
    exact kT)
  obtain ⟨T54, h54, X54, e54, W54, st54⟩ := stI X50 hx hZ e50 Ao52 (j := (12 : Int32)) io52 (g := (mkF m 82 #[.val (.int p1), .val (.int p2), .val (.int p3), .unset, .unset, .unset, .unset, .unset, .unset] [(.int (880 : Int32)), (.int (12 : Int32)), (.ref b1), (.ref b1)])) rfl rfl (hb hby at_82)
  rw [(show (12 : Int32).toNatClampNeg = 12 from rfl)] at W54
  have pre55 : ∀ t, Steps p.tables e below (T54.setTop (mkF m 83 #[.val (.int p1), .val (.int p2), .val (.int p3), .unset, .unset, .unset, .unset, .unset, .unset] [(.ref b1)])) t → Steps p.tables e below (s₁.setTop (entryFrame m #[(.int p1), (.int p2), (.int p3)] maxLocals)) t := fun t kT => pre53 t (st54 t kT)
  have sz54 : n0 ≤ h54.size := Nat.le_trans sz50 (Keep.of_wr W54).1
  obtain ⟨gv54, V_b1_e54⟩ := own_wk (V_b1_e50 : own_Ar Z _ b1 .int 34 (fun i => .int (gv50 i))) W54
  have N54 := Fr.snoc X54 N50 g_b1
  obtain ⟨co56, Ao56, So56, Ho56⟩ := id V_b1_e54
  have io56 := (own_ld So56 Ho56 (j := (13 : Int32)) (i := 13) (by decide) (show (13 : Int32).toNatClampNeg = 13 from rfl) (by decide) rfl).1
  have pre57 : ∀ t, Steps p.tables e below (T54.setTop (mkF m 89 #[.val (.int p1), .val (.int p2), .val (.int p3), .unset, .unset, .unset, .unset, .unset, .unset] [(.int (893 : Int32)), (.int (13 : Int32)), (.ref b1), (.ref b1)])) t → Steps p.tables e below (s₁.setTop (entryFrame m #[(.int p1), (.int p2), (.int p3)] maxLocals)) t := fun t kT => pre55 t (by
    show Steps p.tables e below (T54.setTop (mkF m 83 #[.val (.int p1), .val (.int p2), .val (.int p3), .unset, .unset, .unset, .unset, .unset, .unset] [(.ref b1)])) _
    refine XS.dup X54.here hx rfl (hb hby at_83) rfl rfl ?_
    show Steps p.tables e below (T54.setTop (mkF m 84 #[.val (.int p1), .val (.int p2), .val (.int p3), .unset, .unset, .unset, .unset, .unset, .unset] [(.ref b1), (.ref b1)])) _
    refine XS.bipush X54.here hx rfl (hb hby at_84) ?_
    show Steps p.tables e below (T54.setTop (mkF m 86 #[.val (.int p1), .val (.int p2), .val (.int p3), .unset, .unset, .unset, .unset, .unset, .unset] [(.int (13 : Int32)), (.ref b1), (.ref b1)])) _
    refine XS.sipush X54.here hx rfl (hb hby at_86) ?_
    exact kT)
  obtain ⟨T58, h58, X58, e58, W58, st58⟩ := stI X54 hx hZ e54 Ao56 (j := (13 : Int32)) io56 (g := (mkF m 89 #[.val (.int p1), .val (.int p2), .val (.int p3), .unset, .unset, .unset, .unset, .unset, .unset] [(.int (893 : Int32)), (.int (13 : Int32)), (.ref b1), (.ref b1)])) rfl rfl (hb hby at_89)
  rw [(show (13 : Int32).toNatClampNeg = 13 from rfl)] at W58
  have pre59 : ∀ t, Steps p.tables e below (T58.setTop (mkF m 90 #[.val (.int p1), .val (.int p2), .val (.int p3), .unset, .unset, .unset, .unset, .unset, .unset] [(.ref b1)])) t → Steps p.tables e below (s₁.setTop (entryFrame m #[(.int p1), (.int p2), (.int p3)] maxLocals)) t := fun t kT => pre57 t (st58 t kT)
  have sz58 : n0 ≤ h58.size := Nat.le_trans sz54 (Keep.of_wr W58).1
  obtain ⟨gv58, V_b1_e58⟩ := own_wk (V_b1_e54 : own_Ar Z _ b1 .int 34 (fun i => .int (gv54 i))) W58
  have N58 := Fr.snoc X58 N54 g_b1
  obtain ⟨co60, Ao60, So60, Ho60⟩ := id V_b1_e58
  have io60 := (own_ld So60 Ho60 (j := (14 : Int32)) (i := 14) (by decide) (show (14 : Int32).toNatClampNeg = 14 from rfl) (by decide) rfl).1
  have pre61 : ∀ t, Steps p.tables e below (T58.setTop (mkF m 96 #[.val (.int p1), .val (.int p2), .val (.int p3), .unset, .unset, .unset, .unset, .unset, .unset] [(.int (895 : Int32)), (.int (14 : Int32)), (.ref b1), (.ref b1)])) t → Steps p.tables e below (s₁.setTop (entryFrame m #[(.int p1), (.int p2), (.int p3)] maxLocals)) t := fun t kT => pre59 t (by
    show Steps p.tables e below (T58.setTop (mkF m 90 #[.val (.int p1), .val (.int p2), .val (.int p3), .unset, .unset, .unset, .unset, .unset, .unset] [(.ref b1)])) _
    refine XS.dup X58.here hx rfl (hb hby at_90) rfl rfl ?_
    show Steps p.tables e below (T58.setTop (mkF m 91 #[.val (.int p1), .val (.int p2), .val (.int p3), .unset, .unset, .unset, .unset, .unset, .unset] [(.ref b1), (.ref b1)])) _
    refine XS.bipush X58.here hx rfl (hb hby at_91) ?_
    show Steps p.tables e below (T58.setTop (mkF m 93 #[.val (.int p1), .val (.int p2), .val (.int p3), .unset, .unset, .unset, .unset, .unset, .unset] [(.int (14 : Int32)), (.ref b1), (.ref b1)])) _
    refine XS.sipush X58.here hx rfl (hb hby at_93) ?_
    exact kT)
  obtain ⟨T62, h62, X62, e62, W62, st62⟩ := stI X58 hx hZ e58 Ao60 (j := (14 : Int32)) io60 (g := (mkF m 96 #[.val (.int p1), .val (.int p2), .val (.int p3), .unset, .unset, .unset, .unset, .unset, .unset] [(.int (895 : Int32)), (.int (14 : Int32)), (.ref b1), (.ref b1)])) rfl rfl (hb hby at_96)
  rw [(show (14 : Int32).toNatClampNeg = 14 from rfl)] at W62
  have pre63 : ∀ t, Steps p.tables e below (T62.setTop (mkF m 97 #[.val (.int p1), .val (.int p2), .val (.int p3), .unset, .unset, .unset, .unset, .unset, .unset] [(.ref b1)])) t → Steps p.tables e below (s₁.setTop (entryFrame m #[(.int p1), (.int p2), (.int p3)] maxLocals)) t := fun t kT => pre61 t (st62 t kT)
  have sz62 : n0 ≤ h62.size := Nat.le_trans sz58 (Keep.of_wr W62).1
  obtain ⟨gv62, V_b1_e62⟩ := own_wk (V_b1_e58 : own_Ar Z _ b1 .int 34 (fun i => .int (gv58 i))) W62
  have N62 := Fr.snoc X62 N58 g_b1
  obtain ⟨co64, Ao64, So64, Ho64⟩ := id V_b1_e62
  have io64 := (own_ld So64 Ho64 (j := (15 : Int32)) (i := 15) (by decide) (show (15 : Int32).toNatClampNeg = 15 from rfl) (by decide) rfl).1
  have pre65 : ∀ t, Steps p.tables e below (T62.setTop (mkF m 103 #[.val (.int p1), .val (.int p2), .val (.int p3), .unset, .unset, .unset, .unset, .unset, .unset] [(.int (8191 : Int32)), (.int (15 : Int32)), (.ref b1), (.ref b1)])) t → Steps p.tables e below (s₁.setTop (entryFrame m #[(.int p1), (.int p2), (.int p3)] maxLocals)) t := fun t kT => pre63 t (by
    show Steps p.tables e below (T62.setTop (mkF m 97 #[.val (.int p1), .val (.int p2), .val (.int p3), .unset, .unset, .unset, .unset, .unset, .unset] [(.ref b1)])) _
    refine XS.dup X62.here hx rfl (hb hby at_97) rfl rfl ?_
    show Steps p.tables e below (T62.setTop (mkF m 98 #[.val (.int p1), .val (.int p2), .val (.int p3), .unset, .unset, .unset, .unset, .unset, .unset] [(.ref b1), (.ref b1)])) _
    refine XS.bipush X62.here hx rfl (hb hby at_98) ?_
    show Steps p.tables e below (T62.setTop (mkF m 100 #[.val (.int p1), .val (.int p2), .val (.int p3), .unset, .unset, .unset, .unset, .unset, .unset] [(.int (15 : Int32)), (.ref b1), (.ref b1)])) _
    refine XS.sipush X62.here hx rfl (hb hby at_100) ?_
    exact kT)
  obtain ⟨T66, h66, X66, e66, W66, st66⟩ := stI X62 hx hZ e62 Ao64 (j := (15 : Int32)) io64 (g := (mkF m 103 #[.val (.int p1), .val (.int p2), .val (.int p3), .unset, .unset, .unset, .unset, .unset, .unset] [(.int (8191 : Int32)), (.int (15 : Int32)), (.ref b1), (.ref b1)])) rfl rfl (hb hby at_103)
  rw [(show (15 : Int32).toNatClampNeg = 15 from rfl)] at W66
  have pre67 : ∀ t, Steps p.tables e below (T66.setTop (mkF m 104 #[.val (.int p1), .val (.int p2), .val (.int p3), .unset, .unset, .unset, .unset, .unset, .unset] [(.ref b1)])) t → Steps p.tables e below (s₁.setTop (entryFrame m #[(.int p1), (.int p2), (.int p3)] maxLocals)) t := fun t kT => pre65 t (st66 t kT)
  have sz66 : n0 ≤ h66.size := Nat.le_trans sz62 (Keep.of_wr W66).1
  obtain ⟨gv66, V_b1_e66⟩ := own_wk (V_b1_e62 : own_Ar Z _ b1 .int 34 (fun i => .int (gv62 i))) W66
  have N66 := Fr.snoc X66 N62 g_b1
  obtain ⟨co68, Ao68, So68, Ho68⟩ := id V_b1_e66
  have io68 := (own_ld So68 Ho68 (j := (16 : Int32)) (i := 16) (by decide) (show (16 : Int32).toNatClampNeg = 16 from rfl) (by decide) rfl).1
  have pre69 : ∀ t, Steps p.tables e below (T66.setTop (mkF m 110 #[.val (.int p1), .val (.int p2), .val (.int p3), .unset, .unset, .unset, .unset, .unset, .unset] [(.int (8204 : Int32)), (.int (16 : Int32)), (.ref b1), (.ref b1)])) t → Steps p.tables e below (s₁.setTop (entryFrame m #[(.int p1), (.int p2), (.int p3)] maxLocals)) t := fun t kT => pre67 t (by
    show Steps p.tables e below (T66.setTop (mkF m 104 #[.val (.int p1), .val (.int p2), .val (.int p3), .unset, .unset, .unset, .unset, .unset, .unset] [(.ref b1)])) _
    refine XS.dup X66.here hx rfl (hb hby at_104) rfl rfl ?_
    show Steps p.tables e below (T66.setTop (mkF m 105 #[.val (.int p1), .val (.int p2), .val (.int p3), .unset, .unset, .unset, .unset, .unset, .unset] [(.ref b1), (.ref b1)])) _
    refine XS.bipush X66.here hx rfl (hb hby at_105) ?_
    show Steps p.tables e below (T66.setTop (mkF m 107 #[.val (.int p1), .val (.int p2), .val (.int p3), .unset, .unset, .unset, .unset, .unset, .unset] [(.int (16 : Int32)), (.ref b1), (.ref b1)])) _
    refine XS.sipush X66.here hx rfl (hb hby at_107) ?_
    exact kT)
  obtain ⟨T70, h70, X70, e70, W70, st70⟩ := stI X66 hx hZ e66 Ao68 (j := (16 : Int32)) io68 (g := (mkF m 110 #[.val (.int p1), .val (.int p2), .val (.int p3), .unset, .unset, .unset, .unset, .unset, .unset] [(.int (8204 : Int32)), (.int (16 : Int32)), (.ref b1), (.ref b1)])) rfl rfl (hb hby at_110)
  rw [(show (16 : Int32).toNatClampNeg = 16 from rfl)] at W70
  have pre71 : ∀ t, Steps p.tables e below (T70.setTop (mkF m 111 #[.val (.int p1), .val (.int p2), .val (.int p3), .unset, .unset, .unset, .unset, .unset, .unset] [(.ref b1)])) t → Steps p.tables e below (s₁.setTop (entryFrame m #[(.int p1), (.int p2), (.int p3)] maxLocals)) t := fun t kT => pre69 t (st70 t kT)
  have sz70 : n0 ≤ h70.size := Nat.le_trans sz66 (Keep.of_wr W70).1
  obtain ⟨gv70, V_b1_e70⟩ := own_wk (V_b1_e66 : own_Ar Z _ b1 .int 34 (fun i => .int (gv66 i))) W70
  have N70 := Fr.snoc X70 N66 g_b1
  obtain ⟨co72, Ao72, So72, Ho72⟩ := id V_b1_e70
  have io72 := (own_ld So72 Ho72 (j := (17 : Int32)) (i := 17) (by decide) (show (17 : Int32).toNatClampNeg = 17 from rfl) (by decide) rfl).1
  have pre73 : ∀ t, Steps p.tables e below (T70.setTop (mkF m 117 #[.val (.int p1), .val (.int p2), .val (.int p3), .unset, .unset, .unset, .unset, .unset, .unset] [(.int (8205 : Int32)), (.int (17 : Int32)), (.ref b1), (.ref b1)])) t → Steps p.tables e below (s₁.setTop (entryFrame m #[(.int p1), (.int p2), (.int p3)] maxLocals)) t := fun t kT => pre71 t (by
    show Steps p.tables e below (T70.setTop (mkF m 111 #[.val (.int p1), .val (.int p2), .val (.int p3), .unset, .unset, .unset, .unset, .unset, .unset] [(.ref b1)])) _
    refine XS.dup X70.here hx rfl (hb hby at_111) rfl rfl ?_
    show Steps p.tables e below (T70.setTop (mkF m 112 #[.val (.int p1), .val (.int p2), .val (.int p3), .unset, .unset, .unset, .unset, .unset, .unset] [(.ref b1), (.ref b1)])) _
    refine XS.bipush X70.here hx rfl (hb hby at_112) ?_
    show Steps p.tables e below (T70.setTop (mkF m 114 #[.val (.int p1), .val (.int p2), .val (.int p3), .unset, .unset, .unset, .unset, .unset, .unset] [(.int (17 : Int32)), (.ref b1), (.ref b1)])) _
    refine XS.sipush X70.here hx rfl (hb hby at_114) ?_
    exact kT)
  obtain ⟨T74, h74, X74, e74, W74, st74⟩ := stI X70 hx hZ e70 Ao72 (j := (17 : Int32)) io72 (g := (mkF m 117 #[.val (.int p1), .val (.int p2), .val (.int p3), .unset, .unset, .unset, .unset, .unset, .unset] [(.int (8205 : Int32)), (.int (17 : Int32)), (.ref b1), (.ref b1)])) rfl rfl (hb hby at_117)
  rw [(show (17 : Int32).toNatClampNeg = 17 from rfl)] at W74
  have pre75 : ∀ t, Steps p.tables e below (T74.setTop (mkF m 118 #[.val (.int p1), .val (.int p2), .val (.int p3), .unset, .unset, .unset, .unset, .unset, .unset] [(.ref b1)])) t → Steps p.tables e below (s₁.setTop (entryFrame m #[(.int p1), (.int p2), (.int p3)] maxLocals)) t := fun t kT => pre73 t (st74 t kT)
  have sz74 : n0 ≤ h74.size := Nat.le_trans sz70 (Keep.of_wr W74).1
  obtain ⟨gv74, V_b1_e74⟩ := own_wk (V_b1_e70 : own_Ar Z _ b1 .int 34 (fun i => .int (gv70 i))) W74
  have N74 := Fr.snoc X74 N70 g_b1
  obtain ⟨co76, Ao76, So76, Ho76⟩ := id V_b1_e74
  have io76 := (own_ld So76 Ho76 (j := (18 : Int32)) (i := 18) (by decide) (show (18 : Int32).toNatClampNeg = 18 from rfl) (by decide) rfl).1
  have pre77 : ∀ t, Steps p.tables e below (T74.setTop (mkF m 124 #[.val (.int p1), .val (.int p2), .val (.int p3), .unset, .unset, .unset, .unset, .unset, .unset] [(.int (8304 : Int32)), (.int (18 : Int32)), (.ref b1), (.ref b1)])) t → Steps p.tables e below (s₁.setTop (entryFrame m #[(.int p1), (.int p2), (.int p3)] maxLocals)) t := fun t kT => pre75 t (by
    show Steps p.tables e below (T74.setTop (mkF m 118 #[.val (.int p1), .val (.int p2), .val (.int p3), .unset, .unset, .unset, .unset, .unset, .unset] [(.ref b1)])) _
    refine XS.dup X74.here hx rfl (hb hby at_118) rfl rfl ?_
    show Steps p.tables e below (T74.setTop (mkF m 119 #[.val (.int p1), .val (.int p2), .val (.int p3), .unset, .unset, .unset, .unset, .unset, .unset] [(.ref b1), (.ref b1)])) _
    refine XS.bipush X74.here hx rfl (hb hby at_119) ?_
    show Steps p.tables e below (T74.setTop (mkF m 121 #[.val (.int p1), .val (.int p2), .val (.int p3), .unset, .unset, .unset, .unset, .unset, .unset] [(.int (18 : Int32)), (.ref b1), (.ref b1)])) _
    refine XS.sipush X74.here hx rfl (hb hby at_121) ?_
    exact kT)
  obtain ⟨T78, h78, X78, e78, W78, st78⟩ := stI X74 hx hZ e74 Ao76 (j := (18 : Int32)) io76 (g := (mkF m 124 #[.val (.int p1), .val (.int p2), .val (.int p3), .unset, .unset, .unset, .unset, .unset, .unset] [(.int (8304 : Int32)), (.int (18 : Int32)), (.ref b1), (.ref b1)])) rfl rfl (hb hby at_124)
  rw [(show (18 : Int32).toNatClampNeg = 18 from rfl)] at W78
  have pre79 : ∀ t, Steps p.tables e below (T78.setTop (mkF m 125 #[.val (.int p1), .val (.int p2), .val (.int p3), .unset, .unset, .unset, .unset, .unset, .unset] [(.ref b1)])) t → Steps p.tables e below (s₁.setTop (entryFrame m #[(.int p1), (.int p2), (.int p3)] maxLocals)) t := fun t kT => pre77 t (st78 t kT)
  have sz78 : n0 ≤ h78.size := Nat.le_trans sz74 (Keep.of_wr W78).1
  obtain ⟨gv78, V_b1_e78⟩ := own_wk (V_b1_e74 : own_Ar Z _ b1 .int 34 (fun i => .int (gv74 i))) W78
  have N78 := Fr.snoc X78 N74 g_b1
  obtain ⟨co80, Ao80, So80, Ho80⟩ := id V_b1_e78
  have io80 := (own_ld So80 Ho80 (j := (19 : Int32)) (i := 19) (by decide) (show (19 : Int32).toNatClampNeg = 19 from rfl) (by decide) rfl).1
  have pre81 : ∀ t, Steps p.tables e below (T78.setTop (mkF m 131 #[.val (.int p1), .val (.int p2), .val (.int p3), .unset, .unset, .unset, .unset, .unset, .unset] [(.int (8591 : Int32)), (.int (19 : Int32)), (.ref b1), (.ref b1)])) t → Steps p.tables e below (s₁.setTop (entryFrame m #[(.int p1), (.int p2), (.int p3)] maxLocals)) t := fun t kT => pre79 t (by
    show Steps p.tables e below (T78.setTop (mkF m 125 #[.val (.int p1), .val (.int p2), .val (.int p3), .unset, .unset, .unset, .unset, .unset, .unset] [(.ref b1)])) _
    refine XS.dup X78.here hx rfl (hb hby at_125) rfl rfl ?_
    show Steps p.tables e below (T78.setTop (mkF m 126 #[.val (.int p1), .val (.int p2), .val (.int p3), .unset, .unset, .unset, .unset, .unset, .unset] [(.ref b1), (.ref b1)])) _
    refine XS.bipush X78.here hx rfl (hb hby at_126) ?_
    show Steps p.tables e below (T78.setTop (mkF m 128 #[.val (.int p1), .val (.int p2), .val (.int p3), .unset, .unset, .unset, .unset, .unset, .unset] [(.int (19 : Int32)), (.ref b1), (.ref b1)])) _
    refine XS.sipush X78.here hx rfl (hb hby at_128) ?_
    exact kT)
  obtain ⟨T82, h82, X82, e82, W82, st82⟩ := stI X78 hx hZ e78 Ao80 (j := (19 : Int32)) io80 (g := (mkF m 131 #[.val (.int p1), .val (.int p2), .val (.int p3), .unset, .unset, .unset, .unset, .unset, .unset] [(.int (8591 : Int32)), (.int (19 : Int32)), (.ref b1), (.ref b1)])) rfl rfl (hb hby at_131)
  rw [(show (19 : Int32).toNatClampNeg = 19 from rfl)] at W82
  have pre83 : ∀ t, Steps p.tables e below (T82.setTop (mkF m 132 #[.val (.int p1), .val (.int p2), .val (.int p3), .unset, .unset, .unset, .unset, .unset, .unset] [(.ref b1)])) t → Steps p.tables e below (s₁.setTop (entryFrame m #[(.int p1), (.int p2), (.int p3)] maxLocals)) t := fun t kT => pre81 t (st82 t kT)
  have sz82 : n0 ≤ h82.size := Nat.le_trans sz78 (Keep.of_wr W82).1
  obtain ⟨gv82, V_b1_e82⟩ := own_wk (V_b1_e78 : own_Ar Z _ b1 .int 34 (fun i => .int (gv78 i))) W82
  have N82 := Fr.snoc X82 N78 g_b1
  obtain ⟨co84, Ao84, So84, Ho84⟩ := id V_b1_e82
  have io84 := (own_ld So84 Ho84 (j := (20 : Int32)) (i := 20) (by decide) (show (20 : Int32).toNatClampNeg = 20 from rfl) (by decide) rfl).1
  have pre85 : ∀ t, Steps p.tables e below (T82.setTop (mkF m 138 #[.val (.int p1), .val (.int p2), .val (.int p3), .unset, .unset, .unset, .unset, .unset, .unset] [(.int (11264 : Int32)), (.int (20 : Int32)), (.ref b1), (.ref b1)])) t → Steps p.tables e below (s₁.setTop (entryFrame m #[(.int p1), (.int p2), (.int p3)] maxLocals)) t := fun t kT => pre83 t (by
    show Steps p.tables e below (T82.setTop (mkF m 132 #[.val (.int p1), .val (.int p2), .val (.int p3), .unset, .unset, .unset, .unset, .unset, .unset] [(.ref b1)])) _
    refine XS.dup X82.here hx rfl (hb hby at_132) rfl rfl ?_
    show Steps p.tables e below (T82.setTop (mkF m 133 #[.val (.int p1), .val (.int p2), .val (.int p3), .unset, .unset, .unset, .unset, .unset, .unset] [(.ref b1), (.ref b1)])) _
    refine XS.bipush X82.here hx rfl (hb hby at_133) ?_
    show Steps p.tables e below (T82.setTop (mkF m 135 #[.val (.int p1), .val (.int p2), .val (.int p3), .unset, .unset, .unset, .unset, .unset, .unset] [(.int (20 : Int32)), (.ref b1), (.ref b1)])) _
    refine XS.sipush X82.here hx rfl (hb hby at_135) ?_
    exact kT)
  obtain ⟨T86, h86, X86, e86, W86, st86⟩ := stI X82 hx hZ e82 Ao84 (j := (20 : Int32)) io84 (g := (mkF m 138 #[.val (.int p1), .val (.int p2), .val (.int p3), .unset, .unset, .unset, .unset, .unset, .unset] [(.int (11264 : Int32)), (.int (20 : Int32)), (.ref b1), (.ref b1)])) rfl rfl (hb hby at_138)
  rw [(show (20 : Int32).toNatClampNeg = 20 from rfl)] at W86
  have pre87 : ∀ t, Steps p.tables e below (T86.setTop (mkF m 139 #[.val (.int p1), .val (.int p2), .val (.int p3), .unset, .unset, .unset, .unset, .unset, .unset] [(.ref b1)])) t → Steps p.tables e below (s₁.setTop (entryFrame m #[(.int p1), (.int p2), (.int p3)] maxLocals)) t := fun t kT => pre85 t (st86 t kT)
  have sz86 : n0 ≤ h86.size := Nat.le_trans sz82 (Keep.of_wr W86).1
  obtain ⟨gv86, V_b1_e86⟩ := own_wk (V_b1_e82 : own_Ar Z _ b1 .int 34 (fun i => .int (gv82 i))) W86
  have N86 := Fr.snoc X86 N82 g_b1
  obtain ⟨co88, Ao88, So88, Ho88⟩ := id V_b1_e86
  have io88 := (own_ld So88 Ho88 (j := (21 : Int32)) (i := 21) (by decide) (show (21 : Int32).toNatClampNeg = 21 from rfl) (by decide) rfl).1
  have pre89 : ∀ t, Steps p.tables e below (T86.setTop (mkF m 145 #[.val (.int p1), .val (.int p2), .val (.int p3), .unset, .unset, .unset, .unset, .unset, .unset] [(.int (12271 : Int32)), (.int (21 : Int32)), (.ref b1), (.ref b1)])) t → Steps p.tables e below (s₁.setTop (entryFrame m #[(.int p1), (.int p2), (.int p3)] maxLocals)) t := fun t kT => pre87 t (by
    show Steps p.tables e below (T86.setTop (mkF m 139 #[.val (.int p1), .val (.int p2), .val (.int p3), .unset, .unset, .unset, .unset, .unset, .unset] [(.ref b1)])) _
    refine XS.dup X86.here hx rfl (hb hby at_139) rfl rfl ?_
    show Steps p.tables e below (T86.setTop (mkF m 140 #[.val (.int p1), .val (.int p2), .val (.int p3), .unset, .unset, .unset, .unset, .unset, .unset] [(.ref b1), (.ref b1)])) _
    refine XS.bipush X86.here hx rfl (hb hby at_140) ?_
    show Steps p.tables e below (T86.setTop (mkF m 142 #[.val (.int p1), .val (.int p2), .val (.int p3), .unset, .unset, .unset, .unset, .unset, .unset] [(.int (21 : Int32)), (.ref b1), (.ref b1)])) _
    refine XS.sipush X86.here hx rfl (hb hby at_142) ?_
    exact kT)
  obtain ⟨T90, h90, X90, e90, W90, st90⟩ := stI X86 hx hZ e86 Ao88 (j := (21 : Int32)) io88 (g := (mkF m 145 #[.val (.int p1), .val (.int p2), .val (.int p3), .unset, .unset, .unset, .unset, .unset, .unset] [(.int (12271 : Int32)), (.int (21 : Int32)), (.ref b1), (.ref b1)])) rfl rfl (hb hby at_145)
  rw [(show (21 : Int32).toNatClampNeg = 21 from rfl)] at W90
  have pre91 : ∀ t, Steps p.tables e below (T90.setTop (mkF m 146 #[.val (.int p1), .val (.int p2), .val (.int p3), .unset, .unset, .unset, .unset, .unset, .unset] [(.ref b1)])) t → Steps p.tables e below (s₁.setTop (entryFrame m #[(.int p1), (.int p2), (.int p3)] maxLocals)) t := fun t kT => pre89 t (st90 t kT)
  have sz90 : n0 ≤ h90.size := Nat.le_trans sz86 (Keep.of_wr W90).1
  obtain ⟨gv90, V_b1_e90⟩ := own_wk (V_b1_e86 : own_Ar Z _ b1 .int 34 (fun i => .int (gv86 i))) W90
  have N90 := Fr.snoc X90 N86 g_b1
  obtain ⟨co92, Ao92, So92, Ho92⟩ := id V_b1_e90
  have io92 := (own_ld So92 Ho92 (j := (22 : Int32)) (i := 22) (by decide) (show (22 : Int32).toNatClampNeg = 22 from rfl) (by decide) rfl).1
  have pre93 : ∀ t, Steps p.tables e below (T90.setTop (mkF m 152 #[.val (.int p1), .val (.int p2), .val (.int p3), .unset, .unset, .unset, .unset, .unset, .unset] [(.int (12289 : Int32)), (.int (22 : Int32)), (.ref b1), (.ref b1)])) t → Steps p.tables e below (s₁.setTop (entryFrame m #[(.int p1), (.int p2), (.int p3)] maxLocals)) t := fun t kT => pre91 t (by
    show Steps p.tables e below (T90.setTop (mkF m 146 #[.val (.int p1), .val (.int p2), .val (.int p3), .unset, .unset, .unset, .unset, .unset, .unset] [(.ref b1)])) _
    refine XS.dup X90.here hx rfl (hb hby at_146) rfl rfl ?_
    show Steps p.tables e below (T90.setTop (mkF m 147 #[.val (.int p1), .val (.int p2), .val (.int p3), .unset, .unset, .unset, .unset, .unset, .unset] [(.ref b1), (.ref b1)])) _
    refine XS.bipush X90.here hx rfl (hb hby at_147) ?_
    show Steps p.tables e below (T90.setTop (mkF m 149 #[.val (.int p1), .val (.int p2), .val (.int p3), .unset, .unset, .unset, .unset, .unset, .unset] [(.int (22 : Int32)), (.ref b1), (.ref b1)])) _
    refine XS.sipush X90.here hx rfl (hb hby at_149) ?_
    exact kT)
  obtain ⟨T94, h94, X94, e94, W94, st94⟩ := stI X90 hx hZ e90 Ao92 (j := (22 : Int32)) io92 (g := (mkF m 152 #[.val (.int p1), .val (.int p2), .val (.int p3), .unset, .unset, .unset, .unset, .unset, .unset] [(.int (12289 : Int32)), (.int (22 : Int32)), (.ref b1), (.ref b1)])) rfl rfl (hb hby at_152)
  rw [(show (22 : Int32).toNatClampNeg = 22 from rfl)] at W94
  have pre95 : ∀ t, Steps p.tables e below (T94.setTop (mkF m 153 #[.val (.int p1), .val (.int p2), .val (.int p3), .unset, .unset, .unset, .unset, .unset, .unset] [(.ref b1)])) t → Steps p.tables e below (s₁.setTop (entryFrame m #[(.int p1), (.int p2), (.int p3)] maxLocals)) t := fun t kT => pre93 t (st94 t kT)
  have sz94 : n0 ≤ h94.size := Nat.le_trans sz90 (Keep.of_wr W94).1
  obtain ⟨gv94, V_b1_e94⟩ := own_wk (V_b1_e90 : own_Ar Z _ b1 .int 34 (fun i => .int (gv90 i))) W94
  have N94 := Fr.snoc X94 N90 g_b1
  obtain ⟨co96, Ao96, So96, Ho96⟩ := id V_b1_e94
  have io96 := (own_ld So96 Ho96 (j := (23 : Int32)) (i := 23) (by decide) (show (23 : Int32).toNatClampNeg = 23 from rfl) (by decide) rfl).1
  have pre97 : ∀ t, Steps p.tables e below (T94.setTop (mkF m 158 #[.val (.int p1), .val (.int p2), .val (.int p3), .unset, .unset, .unset, .unset, .unset, .unset] [(.int (55295 : Int32)), (.int (23 : Int32)), (.ref b1), (.ref b1)])) t → Steps p.tables e below (s₁.setTop (entryFrame m #[(.int p1), (.int p2), (.int p3)] maxLocals)) t := fun t kT => pre95 t (by
    show Steps p.tables e below (T94.setTop (mkF m 153 #[.val (.int p1), .val (.int p2), .val (.int p3), .unset, .unset, .unset, .unset, .unset, .unset] [(.ref b1)])) _
    refine XS.dup X94.here hx rfl (hb hby at_153) rfl rfl ?_
    show Steps p.tables e below (T94.setTop (mkF m 154 #[.val (.int p1), .val (.int p2), .val (.int p3), .unset, .unset, .unset, .unset, .unset, .unset] [(.ref b1), (.ref b1)])) _
    refine XS.bipush X94.here hx rfl (hb hby at_154) ?_
    show Steps p.tables e below (T94.setTop (mkF m 156 #[.val (.int p1), .val (.int p2), .val (.int p3), .unset, .unset, .unset, .unset, .unset, .unset] [(.int (23 : Int32)), (.ref b1), (.ref b1)])) _
    refine X94.ldcI hx hown (mvT hZ (hw _ (List.mem_of_getElem? (i := 1) rfl))) rfl (hb hby at_156) ?_
    exact kT)
  obtain ⟨T98, h98, X98, e98, W98, st98⟩ := stI X94 hx hZ e94 Ao96 (j := (23 : Int32)) io96 (g := (mkF m 158 #[.val (.int p1), .val (.int p2), .val (.int p3), .unset, .unset, .unset, .unset, .unset, .unset] [(.int (55295 : Int32)), (.int (23 : Int32)), (.ref b1), (.ref b1)])) rfl rfl (hb hby at_158)
  rw [(show (23 : Int32).toNatClampNeg = 23 from rfl)] at W98
  have pre99 : ∀ t, Steps p.tables e below (T98.setTop (mkF m 159 #[.val (.int p1), .val (.int p2), .val (.int p3), .unset, .unset, .unset, .unset, .unset, .unset] [(.ref b1)])) t → Steps p.tables e below (s₁.setTop (entryFrame m #[(.int p1), (.int p2), (.int p3)] maxLocals)) t := fun t kT => pre97 t (st98 t kT)
  have sz98 : n0 ≤ h98.size := Nat.le_trans sz94 (Keep.of_wr W98).1
  obtain ⟨gv98, V_b1_e98⟩ := own_wk (V_b1_e94 : own_Ar Z _ b1 .int 34 (fun i => .int (gv94 i))) W98
  have N98 := Fr.snoc X98 N94 g_b1
  obtain ⟨co100, Ao100, So100, Ho100⟩ := id V_b1_e98
  have io100 := (own_ld So100 Ho100 (j := (24 : Int32)) (i := 24) (by decide) (show (24 : Int32).toNatClampNeg = 24 from rfl) (by decide) rfl).1
  have pre101 : ∀ t, Steps p.tables e below (T98.setTop (mkF m 164 #[.val (.int p1), .val (.int p2), .val (.int p3), .unset, .unset, .unset, .unset, .unset, .unset] [(.int (63744 : Int32)), (.int (24 : Int32)), (.ref b1), (.ref b1)])) t → Steps p.tables e below (s₁.setTop (entryFrame m #[(.int p1), (.int p2), (.int p3)] maxLocals)) t := fun t kT => pre99 t (by
    show Steps p.tables e below (T98.setTop (mkF m 159 #[.val (.int p1), .val (.int p2), .val (.int p3), .unset, .unset, .unset, .unset, .unset, .unset] [(.ref b1)])) _
    refine XS.dup X98.here hx rfl (hb hby at_159) rfl rfl ?_
    show Steps p.tables e below (T98.setTop (mkF m 160 #[.val (.int p1), .val (.int p2), .val (.int p3), .unset, .unset, .unset, .unset, .unset, .unset] [(.ref b1), (.ref b1)])) _
    refine XS.bipush X98.here hx rfl (hb hby at_160) ?_
    show Steps p.tables e below (T98.setTop (mkF m 162 #[.val (.int p1), .val (.int p2), .val (.int p3), .unset, .unset, .unset, .unset, .unset, .unset] [(.int (24 : Int32)), (.ref b1), (.ref b1)])) _
    refine X98.ldcI hx hown (mvT hZ (hw _ (List.mem_of_getElem? (i := 2) rfl))) rfl (hb hby at_162) ?_
    exact kT)
  obtain ⟨T102, h102, X102, e102, W102, st102⟩ := stI X98 hx hZ e98 Ao100 (j := (24 : Int32)) io100 (g := (mkF m 164 #[.val (.int p1), .val (.int p2), .val (.int p3), .unset, .unset, .unset, .unset, .unset, .unset] [(.int (63744 : Int32)), (.int (24 : Int32)), (.ref b1), (.ref b1)])) rfl rfl (hb hby at_164)
  rw [(show (24 : Int32).toNatClampNeg = 24 from rfl)] at W102
  have pre103 : ∀ t, Steps p.tables e below (T102.setTop (mkF m 165 #[.val (.int p1), .val (.int p2), .val (.int p3), .unset, .unset, .unset, .unset, .unset, .unset] [(.ref b1)])) t → Steps p.tables e below (s₁.setTop (entryFrame m #[(.int p1), (.int p2), (.int p3)] maxLocals)) t := fun t kT => pre101 t (st102 t kT)
  have sz102 : n0 ≤ h102.size := Nat.le_trans sz98 (Keep.of_wr W102).1
  obtain ⟨gv102, V_b1_e102⟩ := own_wk (V_b1_e98 : own_Ar Z _ b1 .int 34 (fun i => .int (gv98 i))) W102
  have N102 := Fr.snoc X102 N98 g_b1
  obtain ⟨co104, Ao104, So104, Ho104⟩ := id V_b1_e102
  have io104 := (own_ld So104 Ho104 (j := (25 : Int32)) (i := 25) (by decide) (show (25 : Int32).toNatClampNeg = 25 from rfl) (by decide) rfl).1
  have pre105 : ∀ t, Steps p.tables e below (T102.setTop (mkF m 170 #[.val (.int p1), .val (.int p2), .val (.int p3), .unset, .unset, .unset, .unset, .unset, .unset] [(.int (64975 : Int32)), (.int (25 : Int32)), (.ref b1), (.ref b1)])) t → Steps p.tables e below (s₁.setTop (entryFrame m #[(.int p1), (.int p2), (.int p3)] maxLocals)) t := fun t kT => pre103 t (by
    show Steps p.tables e below (T102.setTop (mkF m 165 #[.val (.int p1), .val (.int p2), .val (.int p3), .unset, .unset, .unset, .unset, .unset, .unset] [(.ref b1)])) _
    refine XS.dup X102.here hx rfl (hb hby at_165) rfl rfl ?_
    show Steps p.tables e below (T102.setTop (mkF m 166 #[.val (.int p1), .val (.int p2), .val (.int p3), .unset, .unset, .unset, .unset, .unset, .unset] [(.ref b1), (.ref b1)])) _
    refine XS.bipush X102.here hx rfl (hb hby at_166) ?_
    show Steps p.tables e below (T102.setTop (mkF m 168 #[.val (.int p1), .val (.int p2), .val (.int p3), .unset, .unset, .unset, .unset, .unset, .unset] [(.int (25 : Int32)), (.ref b1), (.ref b1)])) _
    refine X102.ldcI hx hown (mvT hZ (hw _ (List.mem_of_getElem? (i := 3) rfl))) rfl (hb hby at_168) ?_
    exact kT)
  obtain ⟨T106, h106, X106, e106, W106, st106⟩ := stI X102 hx hZ e102 Ao104 (j := (25 : Int32)) io104 (g := (mkF m 170 #[.val (.int p1), .val (.int p2), .val (.int p3), .unset, .unset, .unset, .unset, .unset, .unset] [(.int (64975 : Int32)), (.int (25 : Int32)), (.ref b1), (.ref b1)])) rfl rfl (hb hby at_170)
  rw [(show (25 : Int32).toNatClampNeg = 25 from rfl)] at W106
  have pre107 : ∀ t, Steps p.tables e below (T106.setTop (mkF m 171 #[.val (.int p1), .val (.int p2), .val (.int p3), .unset, .unset, .unset, .unset, .unset, .unset] [(.ref b1)])) t → Steps p.tables e below (s₁.setTop (entryFrame m #[(.int p1), (.int p2), (.int p3)] maxLocals)) t := fun t kT => pre105 t (st106 t kT)
  have sz106 : n0 ≤ h106.size := Nat.le_trans sz102 (Keep.of_wr W106).1
  obtain ⟨gv106, V_b1_e106⟩ := own_wk (V_b1_e102 : own_Ar Z _ b1 .int 34 (fun i => .int (gv102 i))) W106
  have N106 := Fr.snoc X106 N102 g_b1
  obtain ⟨co108, Ao108, So108, Ho108⟩ := id V_b1_e106
  have io108 := (own_ld So108 Ho108 (j := (26 : Int32)) (i := 26) (by decide) (show (26 : Int32).toNatClampNeg = 26 from rfl) (by decide) rfl).1
  have pre109 : ∀ t, Steps p.tables e below (T106.setTop (mkF m 176 #[.val (.int p1), .val (.int p2), .val (.int p3), .unset, .unset, .unset, .unset, .unset, .unset] [(.int (65008 : Int32)), (.int (26 : Int32)), (.ref b1), (.ref b1)])) t → Steps p.tables e below (s₁.setTop (entryFrame m #[(.int p1), (.int p2), (.int p3)] maxLocals)) t := fun t kT => pre107 t (by
    show Steps p.tables e below (T106.setTop (mkF m 171 #[.val (.int p1), .val (.int p2), .val (.int p3), .unset, .unset, .unset, .unset, .unset, .unset] [(.ref b1)])) _
    refine XS.dup X106.here hx rfl (hb hby at_171) rfl rfl ?_
    show Steps p.tables e below (T106.setTop (mkF m 172 #[.val (.int p1), .val (.int p2), .val (.int p3), .unset, .unset, .unset, .unset, .unset, .unset] [(.ref b1), (.ref b1)])) _
    refine XS.bipush X106.here hx rfl (hb hby at_172) ?_
    show Steps p.tables e below (T106.setTop (mkF m 174 #[.val (.int p1), .val (.int p2), .val (.int p3), .unset, .unset, .unset, .unset, .unset, .unset] [(.int (26 : Int32)), (.ref b1), (.ref b1)])) _
    refine X106.ldcI hx hown (mvT hZ (hw _ (List.mem_of_getElem? (i := 4) rfl))) rfl (hb hby at_174) ?_
    exact kT)
  obtain ⟨T110, h110, X110, e110, W110, st110⟩ := stI X106 hx hZ e106 Ao108 (j := (26 : Int32)) io108 (g := (mkF m 176 #[.val (.int p1), .val (.int p2), .val (.int p3), .unset, .unset, .unset, .unset, .unset, .unset] [(.int (65008 : Int32)), (.int (26 : Int32)), (.ref b1), (.ref b1)])) rfl rfl (hb hby at_176)
  rw [(show (26 : Int32).toNatClampNeg = 26 from rfl)] at W110
  have pre111 : ∀ t, Steps p.tables e below (T110.setTop (mkF m 177 #[.val (.int p1), .val (.int p2), .val (.int p3), .unset, .unset, .unset, .unset, .unset, .unset] [(.ref b1)])) t → Steps p.tables e below (s₁.setTop (entryFrame m #[(.int p1), (.int p2), (.int p3)] maxLocals)) t := fun t kT => pre109 t (st110 t kT)
  have sz110 : n0 ≤ h110.size := Nat.le_trans sz106 (Keep.of_wr W110).1
  obtain ⟨gv110, V_b1_e110⟩ := own_wk (V_b1_e106 : own_Ar Z _ b1 .int 34 (fun i => .int (gv106 i))) W110
  have N110 := Fr.snoc X110 N106 g_b1
  obtain ⟨co112, Ao112, So112, Ho112⟩ := id V_b1_e110
  have io112 := (own_ld So112 Ho112 (j := (27 : Int32)) (i := 27) (by decide) (show (27 : Int32).toNatClampNeg = 27 from rfl) (by decide) rfl).1
  have pre113 : ∀ t, Steps p.tables e below (T110.setTop (mkF m 182 #[.val (.int p1), .val (.int p2), .val (.int p3), .unset, .unset, .unset, .unset, .unset, .unset] [(.int (65533 : Int32)), (.int (27 : Int32)), (.ref b1), (.ref b1)])) t → Steps p.tables e below (s₁.setTop (entryFrame m #[(.int p1), (.int p2), (.int p3)] maxLocals)) t := fun t kT => pre111 t (by
    show Steps p.tables e below (T110.setTop (mkF m 177 #[.val (.int p1), .val (.int p2), .val (.int p3), .unset, .unset, .unset, .unset, .unset, .unset] [(.ref b1)])) _
    refine XS.dup X110.here hx rfl (hb hby at_177) rfl rfl ?_
    show Steps p.tables e below (T110.setTop (mkF m 178 #[.val (.int p1), .val (.int p2), .val (.int p3), .unset, .unset, .unset, .unset, .unset, .unset] [(.ref b1), (.ref b1)])) _
    refine XS.bipush X110.here hx rfl (hb hby at_178) ?_
    show Steps p.tables e below (T110.setTop (mkF m 180 #[.val (.int p1), .val (.int p2), .val (.int p3), .unset, .unset, .unset, .unset, .unset, .unset] [(.int (27 : Int32)), (.ref b1), (.ref b1)])) _
    refine X110.ldcI hx hown (mvT hZ (hw _ (List.mem_of_getElem? (i := 5) rfl))) rfl (hb hby at_180) ?_
    exact kT)
  obtain ⟨T114, h114, X114, e114, W114, st114⟩ := stI X110 hx hZ e110 Ao112 (j := (27 : Int32)) io112 (g := (mkF m 182 #[.val (.int p1), .val (.int p2), .val (.int p3), .unset, .unset, .unset, .unset, .unset, .unset] [(.int (65533 : Int32)), (.int (27 : Int32)), (.ref b1), (.ref b1)])) rfl rfl (hb hby at_182)
  rw [(show (27 : Int32).toNatClampNeg = 27 from rfl)] at W114
  have pre115 : ∀ t, Steps p.tables e below (T114.setTop (mkF m 183 #[.val (.int p1), .val (.int p2), .val (.int p3), .unset, .unset, .unset, .unset, .unset, .unset] [(.ref b1)])) t → Steps p.tables e below (s₁.setTop (entryFrame m #[(.int p1), (.int p2), (.int p3)] maxLocals)) t := fun t kT => pre113 t (st114 t kT)
  have sz114 : n0 ≤ h114.size := Nat.le_trans sz110 (Keep.of_wr W114).1
  obtain ⟨gv114, V_b1_e114⟩ := own_wk (V_b1_e110 : own_Ar Z _ b1 .int 34 (fun i => .int (gv110 i))) W114
  have N114 := Fr.snoc X114 N110 g_b1
  obtain ⟨co116, Ao116, So116, Ho116⟩ := id V_b1_e114
  have io116 := (own_ld So116 Ho116 (j := (28 : Int32)) (i := 28) (by decide) (show (28 : Int32).toNatClampNeg = 28 from rfl) (by decide) rfl).1
  have pre117 : ∀ t, Steps p.tables e below (T114.setTop (mkF m 188 #[.val (.int p1), .val (.int p2), .val (.int p3), .unset, .unset, .unset, .unset, .unset, .unset] [(.int (65536 : Int32)), (.int (28 : Int32)), (.ref b1), (.ref b1)])) t → Steps p.tables e below (s₁.setTop (entryFrame m #[(.int p1), (.int p2), (.int p3)] maxLocals)) t := fun t kT => pre115 t (by
    show Steps p.tables e below (T114.setTop (mkF m 183 #[.val (.int p1), .val (.int p2), .val (.int p3), .unset, .unset, .unset, .unset, .unset, .unset] [(.ref b1)])) _
    refine XS.dup X114.here hx rfl (hb hby at_183) rfl rfl ?_
    show Steps p.tables e below (T114.setTop (mkF m 184 #[.val (.int p1), .val (.int p2), .val (.int p3), .unset, .unset, .unset, .unset, .unset, .unset] [(.ref b1), (.ref b1)])) _
    refine XS.bipush X114.here hx rfl (hb hby at_184) ?_
    show Steps p.tables e below (T114.setTop (mkF m 186 #[.val (.int p1), .val (.int p2), .val (.int p3), .unset, .unset, .unset, .unset, .unset, .unset] [(.int (28 : Int32)), (.ref b1), (.ref b1)])) _
    refine X114.ldcI hx hown (mvT hZ (hw _ (List.mem_of_getElem? (i := 6) rfl))) rfl (hb hby at_186) ?_
    exact kT)
  obtain ⟨T118, h118, X118, e118, W118, st118⟩ := stI X114 hx hZ e114 Ao116 (j := (28 : Int32)) io116 (g := (mkF m 188 #[.val (.int p1), .val (.int p2), .val (.int p3), .unset, .unset, .unset, .unset, .unset, .unset] [(.int (65536 : Int32)), (.int (28 : Int32)), (.ref b1), (.ref b1)])) rfl rfl (hb hby at_188)
  rw [(show (28 : Int32).toNatClampNeg = 28 from rfl)] at W118
  have pre119 : ∀ t, Steps p.tables e below (T118.setTop (mkF m 189 #[.val (.int p1), .val (.int p2), .val (.int p3), .unset, .unset, .unset, .unset, .unset, .unset] [(.ref b1)])) t → Steps p.tables e below (s₁.setTop (entryFrame m #[(.int p1), (.int p2), (.int p3)] maxLocals)) t := fun t kT => pre117 t (st118 t kT)
  have sz118 : n0 ≤ h118.size := Nat.le_trans sz114 (Keep.of_wr W118).1
  obtain ⟨gv118, V_b1_e118⟩ := own_wk (V_b1_e114 : own_Ar Z _ b1 .int 34 (fun i => .int (gv114 i))) W118
  have N118 := Fr.snoc X118 N114 g_b1
  obtain ⟨co120, Ao120, So120, Ho120⟩ := id V_b1_e118
  have io120 := (own_ld So120 Ho120 (j := (29 : Int32)) (i := 29) (by decide) (show (29 : Int32).toNatClampNeg = 29 from rfl) (by decide) rfl).1
  have pre121 : ∀ t, Steps p.tables e below (T118.setTop (mkF m 194 #[.val (.int p1), .val (.int p2), .val (.int p3), .unset, .unset, .unset, .unset, .unset, .unset] [(.int (983039 : Int32)), (.int (29 : Int32)), (.ref b1), (.ref b1)])) t → Steps p.tables e below (s₁.setTop (entryFrame m #[(.int p1), (.int p2), (.int p3)] maxLocals)) t := fun t kT => pre119 t (by
    show Steps p.tables e below (T118.setTop (mkF m 189 #[.val (.int p1), .val (.int p2), .val (.int p3), .unset, .unset, .unset, .unset, .unset, .unset] [(.ref b1)])) _
    refine XS.dup X118.here hx rfl (hb hby at_189) rfl rfl ?_
    show Steps p.tables e below (T118.setTop (mkF m 190 #[.val (.int p1), .val (.int p2), .val (.int p3), .unset, .unset, .unset, .unset, .unset, .unset] [(.ref b1), (.ref b1)])) _
    refine XS.bipush X118.here hx rfl (hb hby at_190) ?_
    show Steps p.tables e below (T118.setTop (mkF m 192 #[.val (.int p1), .val (.int p2), .val (.int p3), .unset, .unset, .unset, .unset, .unset, .unset] [(.int (29 : Int32)), (.ref b1), (.ref b1)])) _
    refine X118.ldcI hx hown (mvT hZ (hw _ (List.mem_of_getElem? (i := 7) rfl))) rfl (hb hby at_192) ?_
    exact kT)
  obtain ⟨T122, h122, X122, e122, W122, st122⟩ := stI X118 hx hZ e118 Ao120 (j := (29 : Int32)) io120 (g := (mkF m 194 #[.val (.int p1), .val (.int p2), .val (.int p3), .unset, .unset, .unset, .unset, .unset, .unset] [(.int (983039 : Int32)), (.int (29 : Int32)), (.ref b1), (.ref b1)])) rfl rfl (hb hby at_194)
  rw [(show (29 : Int32).toNatClampNeg = 29 from rfl)] at W122
  have pre123 : ∀ t, Steps p.tables e below (T122.setTop (mkF m 195 #[.val (.int p1), .val (.int p2), .val (.int p3), .unset, .unset, .unset, .unset, .unset, .unset] [(.ref b1)])) t → Steps p.tables e below (s₁.setTop (entryFrame m #[(.int p1), (.int p2), (.int p3)] maxLocals)) t := fun t kT => pre121 t (st122 t kT)
  have sz122 : n0 ≤ h122.size := Nat.le_trans sz118 (Keep.of_wr W122).1
  obtain ⟨gv122, V_b1_e122⟩ := own_wk (V_b1_e118 : own_Ar Z _ b1 .int 34 (fun i => .int (gv118 i))) W122
  have N122 := Fr.snoc X122 N118 g_b1
  obtain ⟨co124, Ao124, So124, Ho124⟩ := id V_b1_e122
  have io124 := (own_ld So124 Ho124 (j := (30 : Int32)) (i := 30) (by decide) (show (30 : Int32).toNatClampNeg = 30 from rfl) (by decide) rfl).1
  have pre125 : ∀ t, Steps p.tables e below (T122.setTop (mkF m 199 #[.val (.int p1), .val (.int p2), .val (.int p3), .unset, .unset, .unset, .unset, .unset, .unset] [(.int (0 : Int32)), (.int (30 : Int32)), (.ref b1), (.ref b1)])) t → Steps p.tables e below (s₁.setTop (entryFrame m #[(.int p1), (.int p2), (.int p3)] maxLocals)) t := fun t kT => pre123 t (by
    show Steps p.tables e below (T122.setTop (mkF m 195 #[.val (.int p1), .val (.int p2), .val (.int p3), .unset, .unset, .unset, .unset, .unset, .unset] [(.ref b1)])) _
    refine XS.dup X122.here hx rfl (hb hby at_195) rfl rfl ?_
    show Steps p.tables e below (T122.setTop (mkF m 196 #[.val (.int p1), .val (.int p2), .val (.int p3), .unset, .unset, .unset, .unset, .unset, .unset] [(.ref b1), (.ref b1)])) _
    refine XS.bipush X122.here hx rfl (hb hby at_196) ?_
    show Steps p.tables e below (T122.setTop (mkF m 198 #[.val (.int p1), .val (.int p2), .val (.int p3), .unset, .unset, .unset, .unset, .unset, .unset] [(.int (30 : Int32)), (.ref b1), (.ref b1)])) _
    refine XS.iconst X122.here hx rfl (hb hby at_198) ?_
    exact kT)
  obtain ⟨T126, h126, X126, e126, W126, st126⟩ := stI X122 hx hZ e122 Ao124 (j := (30 : Int32)) io124 (g := (mkF m 199 #[.val (.int p1), .val (.int p2), .val (.int p3), .unset, .unset, .unset, .unset, .unset, .unset] [(.int (0 : Int32)), (.int (30 : Int32)), (.ref b1), (.ref b1)])) rfl rfl (hb hby at_199)
  rw [(show (30 : Int32).toNatClampNeg = 30 from rfl)] at W126
  have pre127 : ∀ t, Steps p.tables e below (T126.setTop (mkF m 200 #[.val (.int p1), .val (.int p2), .val (.int p3), .unset, .unset, .unset, .unset, .unset, .unset] [(.ref b1)])) t → Steps p.tables e below (s₁.setTop (entryFrame m #[(.int p1), (.int p2), (.int p3)] maxLocals)) t := fun t kT => pre125 t (st126 t kT)
  have sz126 : n0 ≤ h126.size := Nat.le_trans sz122 (Keep.of_wr W126).1
  obtain ⟨gv126, V_b1_e126⟩ := own_wk (V_b1_e122 : own_Ar Z _ b1 .int 34 (fun i => .int (gv122 i))) W126
  have N126 := Fr.snoc X126 N122 g_b1
  obtain ⟨co128, Ao128, So128, Ho128⟩ := id V_b1_e126
  have io128 := (own_ld So128 Ho128 (j := (31 : Int32)) (i := 31) (by decide) (show (31 : Int32).toNatClampNeg = 31 from rfl) (by decide) rfl).1
  have pre129 : ∀ t, Steps p.tables e below (T126.setTop (mkF m 205 #[.val (.int p1), .val (.int p2), .val (.int p3), .unset, .unset, .unset, .unset, .unset, .unset] [(.int (1114111 : Int32)), (.int (31 : Int32)), (.ref b1), (.ref b1)])) t → Steps p.tables e below (s₁.setTop (entryFrame m #[(.int p1), (.int p2), (.int p3)] maxLocals)) t := fun t kT => pre127 t (by
    show Steps p.tables e below (T126.setTop (mkF m 200 #[.val (.int p1), .val (.int p2), .val (.int p3), .unset, .unset, .unset, .unset, .unset, .unset] [(.ref b1)])) _
    refine XS.dup X126.here hx rfl (hb hby at_200) rfl rfl ?_
    show Steps p.tables e below (T126.setTop (mkF m 201 #[.val (.int p1), .val (.int p2), .val (.int p3), .unset, .unset, .unset, .unset, .unset, .unset] [(.ref b1), (.ref b1)])) _
    refine XS.bipush X126.here hx rfl (hb hby at_201) ?_
    show Steps p.tables e below (T126.setTop (mkF m 203 #[.val (.int p1), .val (.int p2), .val (.int p3), .unset, .unset, .unset, .unset, .unset, .unset] [(.int (31 : Int32)), (.ref b1), (.ref b1)])) _
    refine X126.ldcI hx hown (mvT hZ (hw _ (List.mem_of_getElem? (i := 8) rfl))) rfl (hb hby at_203) ?_
    exact kT)
  obtain ⟨T130, h130, X130, e130, W130, st130⟩ := stI X126 hx hZ e126 Ao128 (j := (31 : Int32)) io128 (g := (mkF m 205 #[.val (.int p1), .val (.int p2), .val (.int p3), .unset, .unset, .unset, .unset, .unset, .unset] [(.int (1114111 : Int32)), (.int (31 : Int32)), (.ref b1), (.ref b1)])) rfl rfl (hb hby at_205)
  rw [(show (31 : Int32).toNatClampNeg = 31 from rfl)] at W130
  have pre131 : ∀ t, Steps p.tables e below (T130.setTop (mkF m 206 #[.val (.int p1), .val (.int p2), .val (.int p3), .unset, .unset, .unset, .unset, .unset, .unset] [(.ref b1)])) t → Steps p.tables e below (s₁.setTop (entryFrame m #[(.int p1), (.int p2), (.int p3)] maxLocals)) t := fun t kT => pre129 t (st130 t kT)
  have sz130 : n0 ≤ h130.size := Nat.le_trans sz126 (Keep.of_wr W130).1
  obtain ⟨gv130, V_b1_e130⟩ := own_wk (V_b1_e126 : own_Ar Z _ b1 .int 34 (fun i => .int (gv126 i))) W130
  have N130 := Fr.snoc X130 N126 g_b1
  obtain ⟨co132, Ao132, So132, Ho132⟩ := id V_b1_e130
  have io132 := (own_ld So132 Ho132 (j := (32 : Int32)) (i := 32) (by decide) (show (32 : Int32).toNatClampNeg = 32 from rfl) (by decide) rfl).1
  have pre133 : ∀ t, Steps p.tables e below (T130.setTop (mkF m 211 #[.val (.int p1), .val (.int p2), .val (.int p3), .unset, .unset, .unset, .unset, .unset, .unset] [(.int (-2147483646 : Int32)), (.int (32 : Int32)), (.ref b1), (.ref b1)])) t → Steps p.tables e below (s₁.setTop (entryFrame m #[(.int p1), (.int p2), (.int p3)] maxLocals)) t := fun t kT => pre131 t (by
    show Steps p.tables e below (T130.setTop (mkF m 206 #[.val (.int p1), .val (.int p2), .val (.int p3), .unset, .unset, .unset, .unset, .unset, .unset] [(.ref b1)])) _
    refine XS.dup X130.here hx rfl (hb hby at_206) rfl rfl ?_
    show Steps p.tables e below (T130.setTop (mkF m 207 #[.val (.int p1), .val (.int p2), .val (.int p3), .unset, .unset, .unset, .unset, .unset, .unset] [(.ref b1), (.ref b1)])) _
    refine XS.bipush X130.here hx rfl (hb hby at_207) ?_
    show Steps p.tables e below (T130.setTop (mkF m 209 #[.val (.int p1), .val (.int p2), .val (.int p3), .unset, .unset, .unset, .unset, .unset, .unset] [(.int (32 : Int32)), (.ref b1), (.ref b1)])) _
    refine X130.ldcI hx hown (mvT hZ (hw _ (List.mem_of_getElem? (i := 9) rfl))) rfl (hb hby at_209) ?_
    exact kT)
  obtain ⟨T134, h134, X134, e134, W134, st134⟩ := stI X130 hx hZ e130 Ao132 (j := (32 : Int32)) io132 (g := (mkF m 211 #[.val (.int p1), .val (.int p2), .val (.int p3), .unset, .unset, .unset, .unset, .unset, .unset] [(.int (-2147483646 : Int32)), (.int (32 : Int32)), (.ref b1), (.ref b1)])) rfl rfl (hb hby at_211)
  rw [(show (32 : Int32).toNatClampNeg = 32 from rfl)] at W134
  have pre135 : ∀ t, Steps p.tables e below (T134.setTop (mkF m 212 #[.val (.int p1), .val (.int p2), .val (.int p3), .unset, .unset, .unset, .unset, .unset, .unset] [(.ref b1)])) t → Steps p.tables e below (s₁.setTop (entryFrame m #[(.int p1), (.int p2), (.int p3)] maxLocals)) t := fun t kT => pre133 t (st134 t kT)
  have sz134 : n0 ≤ h134.size := Nat.le_trans sz130 (Keep.of_wr W134).1
  obtain ⟨gv134, V_b1_e134⟩ := own_wk (V_b1_e130 : own_Ar Z _ b1 .int 34 (fun i => .int (gv130 i))) W134
  have N134 := Fr.snoc X134 N130 g_b1
  obtain ⟨co136, Ao136, So136, Ho136⟩ := id V_b1_e134
  have io136 := (own_ld So136 Ho136 (j := (33 : Int32)) (i := 33) (by decide) (show (33 : Int32).toNatClampNeg = 33 from rfl) (by decide) rfl).1
  have pre137 : ∀ t, Steps p.tables e below (T134.setTop (mkF m 217 #[.val (.int p1), .val (.int p2), .val (.int p3), .unset, .unset, .unset, .unset, .unset, .unset] [(.int (2147483645 : Int32)), (.int (33 : Int32)), (.ref b1), (.ref b1)])) t → Steps p.tables e below (s₁.setTop (entryFrame m #[(.int p1), (.int p2), (.int p3)] maxLocals)) t := fun t kT => pre135 t (by
    show Steps p.tables e below (T134.setTop (mkF m 212 #[.val (.int p1), .val (.int p2), .val (.int p3), .unset, .unset, .unset, .unset, .unset, .unset] [(.ref b1)])) _
    refine XS.dup X134.here hx rfl (hb hby at_212) rfl rfl ?_
    show Steps p.tables e below (T134.setTop (mkF m 213 #[.val (.int p1), .val (.int p2), .val (.int p3), .unset, .unset, .unset, .unset, .unset, .unset] [(.ref b1), (.ref b1)])) _
    refine XS.bipush X134.here hx rfl (hb hby at_213) ?_
    show Steps p.tables e below (T134.setTop (mkF m 215 #[.val (.int p1), .val (.int p2), .val (.int p3), .unset, .unset, .unset, .unset, .unset, .unset] [(.int (33 : Int32)), (.ref b1), (.ref b1)])) _
    refine X134.ldcI hx hown (mvT hZ (hw _ (List.mem_of_getElem? (i := 10) rfl))) rfl (hb hby at_215) ?_
    exact kT)
  obtain ⟨T138, h138, X138, e138, W138, st138⟩ := stI X134 hx hZ e134 Ao136 (j := (33 : Int32)) io136 (g := (mkF m 217 #[.val (.int p1), .val (.int p2), .val (.int p3), .unset, .unset, .unset, .unset, .unset, .unset] [(.int (2147483645 : Int32)), (.int (33 : Int32)), (.ref b1), (.ref b1)])) rfl rfl (hb hby at_217)
  rw [(show (33 : Int32).toNatClampNeg = 33 from rfl)] at W138
  have pre139 : ∀ t, Steps p.tables e below (T138.setTop (mkF m 218 #[.val (.int p1), .val (.int p2), .val (.int p3), .unset, .unset, .unset, .unset, .unset, .unset] [(.ref b1)])) t → Steps p.tables e below (s₁.setTop (entryFrame m #[(.int p1), (.int p2), (.int p3)] maxLocals)) t := fun t kT => pre137 t (st138 t kT)
  have sz138 : n0 ≤ h138.size := Nat.le_trans sz134 (Keep.of_wr W138).1
  obtain ⟨gv138, V_b1_e138⟩ := own_wk (V_b1_e134 : own_Ar Z _ b1 .int 34 (fun i => .int (gv134 i))) W138
  have N138 := Fr.snoc X138 N134 g_b1
  obtain ⟨co140, Ao140, So140, Ho140⟩ := id V_b1_e138
  have pre141 : ∀ t, Steps p.tables e below (T138.setTop (mkF m 227 #[.val (.int p1), .val (.int p2), .val (.int p3), .val (.ref b1), .unset, .unset, .unset, .unset, .unset] [(.int ((p2 &&& (2147483647 : Int32)) - ((p2 &&& (2147483647 : Int32)) / (34 : Int32)) * (34 : Int32))), (.ref b1)])) t → Steps p.tables e below (s₁.setTop (entryFrame m #[(.int p1), (.int p2), (.int p3)] maxLocals)) t := fun t kT => pre139 t (by
    show Steps p.tables e below (T138.setTop (mkF m 218 #[.val (.int p1), .val (.int p2), .val (.int p3), .unset, .unset, .unset, .unset, .unset, .unset] [(.ref b1)])) _
    refine XS.astoreN X138.here hx rfl (hb hby at_218) rfl rfl (l' := #[.val (.int p1), .val (.int p2), .val (.int p3), .val (.ref b1), .unset, .unset, .unset, .unset, .unset]) rfl ?_
    show Steps p.tables e below (T138.setTop (mkF m 219 #[.val (.int p1), .val (.int p2), .val (.int p3), .val (.ref b1), .unset, .unset, .unset, .unset, .unset] [])) _
    refine XS.aloadN X138.here hx rfl (hb hby at_219) rfl rfl ?_
    show Steps p.tables e below (T138.setTop (mkF m 220 #[.val (.int p1), .val (.int p2), .val (.int p3), .val (.ref b1), .unset, .unset, .unset, .unset, .unset] [(.ref b1)])) _
    refine XS.iloadN X138.here hx rfl (hb hby at_220) rfl ?_
    show Steps p.tables e below (T138.setTop (mkF m 221 #[.val (.int p1), .val (.int p2), .val (.int p3), .val (.ref b1), .unset, .unset, .unset, .unset, .unset] [(.int p2), (.ref b1)])) _
    refine X138.ldcI hx hown (mvT hZ (hw _ (List.mem_of_getElem? (i := 11) rfl))) rfl (hb hby at_221) ?_
    show Steps p.tables e below (T138.setTop (mkF m 223 #[.val (.int p1), .val (.int p2), .val (.int p3), .val (.ref b1), .unset, .unset, .unset, .unset, .unset] [(.int (2147483647 : Int32)), (.int p2), (.ref b1)])) _
    refine XS.iand X138.here hx rfl (hb hby at_223) rfl ?_
    show Steps p.tables e below (T138.setTop (mkF m 224 #[.val (.int p1), .val (.int p2), .val (.int p3), .val (.ref b1), .unset, .unset, .unset, .unset, .unset] [(.int (p2 &&& (2147483647 : Int32))), (.ref b1)])) _
    refine XS.aloadN X138.here hx rfl (hb hby at_224) rfl rfl ?_
    show Steps p.tables e below (T138.setTop (mkF m 225 #[.val (.int p1), .val (.int p2), .val (.int p3), .val (.ref b1), .unset, .unset, .unset, .unset, .unset] [(.ref b1), (.int (p2 &&& (2147483647 : Int32))), (.ref b1)])) _
    refine X138.arraylength hx (by rw [e138]; exact Ao140.1) (State.isArrayOf_alike hZ.alike Ao140.2.1) (g := (mkF m 225 #[.val (.int p1), .val (.int p2), .val (.int p3), .val (.ref b1), .unset, .unset, .unset, .unset, .unset] [(.ref b1), (.int (p2 &&& (2147483647 : Int32))), (.ref b1)])) rfl rfl (hb hby at_225) _ ?_
    rw [So140]
    show Steps p.tables e below (T138.setTop (mkF m 226 #[.val (.int p1), .val (.int p2), .val (.int p3), .val (.ref b1), .unset, .unset, .unset, .unset, .unset] [(.int (34 : Int32)), (.int (p2 &&& (2147483647 : Int32))), (.ref b1)])) _
    refine XS.irem X138.here hx rfl (hb hby at_226) rfl (by decide) ?_
    exact kT)
  obtain ⟨jx, hjx⟩ : ∃ z, z = ((p2 &&& (2147483647 : Int32)) - ((p2 &&& (2147483647 : Int32)) / (34 : Int32)) * (34 : Int32)) := ⟨_, rfl⟩
  rw [← hjx] at pre141
  have rj := own_rem (p2 &&& (2147483647 : Int32)) (34 : Int32) 34 rfl (by decide) (own_nn p2)
  rw [← hjx] at rj
  have rk := own_nat (j := jx) (by omega)
  obtain ⟨co142, Ao142, So142, Ho142⟩ := id V_b1_e138
  have lo142 := own_ld So142 Ho142 (j := jx) (i := jx.toInt.toNat) rk.1 rk.2 (by omega) (v := (.int (gv138 jx.toInt.toNat))) rfl
  have pre143 : ∀ t, Steps p.tables e below (T138.setTop (mkF m 239 #[.val (.int p1), .val (.int p2), .val (.int p3), .val (.ref b1), .val (.int (((gv138 jx.toInt.toNat) + ((p3 &&& (2147483647 : Int32)) - ((p3 &&& (2147483647 : Int32)) / (5 : Int32)) * (5 : Int32))) - (2 : Int32))), .unset, .unset, .unset, .unset] [])) t → Steps p.tables e below (s₁.setTop (entryFrame m #[(.int p1), (.int p2), (.int p3)] maxLocals)) t := fun t kT => pre141 t (by
    show Steps p.tables e below (T138.setTop (mkF m 227 #[.val (.int p1), .val (.int p2), .val (.int p3), .val (.ref b1), .unset, .unset, .unset, .unset, .unset] [(.int jx), (.ref b1)])) _
    refine X138.iaload hx (j := jx) (v := (.int (gv138 jx.toInt.toNat))) (by rw [e138]; exact Ao142.1) (State.isArrayOf_alike hZ.alike Ao142.2.1) Ao142.2.2 lo142.1 lo142.2 (g := (mkF m 227 #[.val (.int p1), .val (.int p2), .val (.int p3), .val (.ref b1), .unset, .unset, .unset, .unset, .unset] [(.int jx), (.ref b1)])) rfl rfl (hb hby at_227) _ ?_
    show Steps p.tables e below (T138.setTop (mkF m 228 #[.val (.int p1), .val (.int p2), .val (.int p3), .val (.ref b1), .unset, .unset, .unset, .unset, .unset] [(.int (gv138 jx.toInt.toNat))])) _
    refine XS.iloadN X138.here hx rfl (hb hby at_228) rfl ?_
    show Steps p.tables e below (T138.setTop (mkF m 229 #[.val (.int p1), .val (.int p2), .val (.int p3), .val (.ref b1), .unset, .unset, .unset, .unset, .unset] [(.int p3), (.int (gv138 jx.toInt.toNat))])) _
    refine X138.ldcI hx hown (mvT hZ (hw _ (List.mem_of_getElem? (i := 11) rfl))) rfl (hb hby at_229) ?_
    show Steps p.tables e below (T138.setTop (mkF m 231 #[.val (.int p1), .val (.int p2), .val (.int p3), .val (.ref b1), .unset, .unset, .unset, .unset, .unset] [(.int (2147483647 : Int32)), (.int p3), (.int (gv138 jx.toInt.toNat))])) _
    refine XS.iand X138.here hx rfl (hb hby at_231) rfl ?_
    show Steps p.tables e below (T138.setTop (mkF m 232 #[.val (.int p1), .val (.int p2), .val (.int p3), .val (.ref b1), .unset, .unset, .unset, .unset, .unset] [(.int (p3 &&& (2147483647 : Int32))), (.int (gv138 jx.toInt.toNat))])) _
    refine XS.iconst X138.here hx rfl (hb hby at_232) ?_
    show Steps p.tables e below (T138.setTop (mkF m 233 #[.val (.int p1), .val (.int p2), .val (.int p3), .val (.ref b1), .unset, .unset, .unset, .unset, .unset] [(.int (5 : Int32)), (.int (p3 &&& (2147483647 : Int32))), (.int (gv138 jx.toInt.toNat))])) _
    refine XS.irem X138.here hx rfl (hb hby at_233) rfl (by decide) ?_
    show Steps p.tables e below (T138.setTop (mkF m 234 #[.val (.int p1), .val (.int p2), .val (.int p3), .val (.ref b1), .unset, .unset, .unset, .unset, .unset] [(.int ((p3 &&& (2147483647 : Int32)) - ((p3 &&& (2147483647 : Int32)) / (5 : Int32)) * (5 : Int32))), (.int (gv138 jx.toInt.toNat))])) _
    refine XS.iadd X138.here hx rfl (hb hby at_234) rfl ?_
    show Steps p.tables e below (T138.setTop (mkF m 235 #[.val (.int p1), .val (.int p2), .val (.int p3), .val (.ref b1), .unset, .unset, .unset, .unset, .unset] [(.int ((gv138 jx.toInt.toNat) + ((p3 &&& (2147483647 : Int32)) - ((p3 &&& (2147483647 : Int32)) / (5 : Int32)) * (5 : Int32))))])) _
    refine XS.iconst X138.here hx rfl (hb hby at_235) ?_
    show Steps p.tables e below (T138.setTop (mkF m 236 #[.val (.int p1), .val (.int p2), .val (.int p3), .val (.ref b1), .unset, .unset, .unset, .unset, .unset] [(.int (2 : Int32)), (.int ((gv138 jx.toInt.toNat) + ((p3 &&& (2147483647 : Int32)) - ((p3 &&& (2147483647 : Int32)) / (5 : Int32)) * (5 : Int32))))])) _
    refine XS.isub X138.here hx rfl (hb hby at_236) rfl ?_
    show Steps p.tables e below (T138.setTop (mkF m 237 #[.val (.int p1), .val (.int p2), .val (.int p3), .val (.ref b1), .unset, .unset, .unset, .unset, .unset] [(.int (((gv138 jx.toInt.toNat) + ((p3 &&& (2147483647 : Int32)) - ((p3 &&& (2147483647 : Int32)) / (5 : Int32)) * (5 : Int32))) - (2 : Int32)))])) _
    refine XS.istore X138.here hx rfl (hb hby at_237) rfl (l' := #[.val (.int p1), .val (.int p2), .val (.int p3), .val (.ref b1), .val (.int (((gv138 jx.toInt.toNat) + ((p3 &&& (2147483647 : Int32)) - ((p3 &&& (2147483647 : Int32)) / (5 : Int32)) * (5 : Int32))) - (2 : Int32))), .unset, .unset, .unset, .unset]) rfl ?_
    exact kT)
  obtain ⟨bx, hbx⟩ : ∃ z, z = (((gv138 jx.toInt.toNat) + ((p3 &&& (2147483647 : Int32)) - ((p3 &&& (2147483647 : Int32)) / (5 : Int32)) * (5 : Int32))) - (2 : Int32)) := ⟨_, rfl⟩
  rw [← hbx] at pre143
  have pre144 : ∀ t, Steps p.tables e below (T138.setTop (mkF m 245 #[.val (.int p1), .val (.int p2), .val (.int p3), .val (.ref b1), .val (.int bx), .val (.int (p1 &&& (2097151 : Int32))), .unset, .unset, .unset] [])) t → Steps p.tables e below (s₁.setTop (entryFrame m #[(.int p1), (.int p2), (.int p3)] maxLocals)) t := fun t kT => pre143 t (by
    show Steps p.tables e below (T138.setTop (mkF m 239 #[.val (.int p1), .val (.int p2), .val (.int p3), .val (.ref b1), .val (.int bx), .unset, .unset, .unset, .unset] [])) _
    refine XS.iloadN X138.here hx rfl (hb hby at_239) rfl ?_
    show Steps p.tables e below (T138.setTop (mkF m 240 #[.val (.int p1), .val (.int p2), .val (.int p3), .val (.ref b1), .val (.int bx), .unset, .unset, .unset, .unset] [(.int p1)])) _
    refine X138.ldcI hx hown (mvT hZ (hw _ (List.mem_of_getElem? (i := 12) rfl))) rfl (hb hby at_240) ?_
    show Steps p.tables e below (T138.setTop (mkF m 242 #[.val (.int p1), .val (.int p2), .val (.int p3), .val (.ref b1), .val (.int bx), .unset, .unset, .unset, .unset] [(.int (2097151 : Int32)), (.int p1)])) _
    refine XS.iand X138.here hx rfl (hb hby at_242) rfl ?_
    show Steps p.tables e below (T138.setTop (mkF m 243 #[.val (.int p1), .val (.int p2), .val (.int p3), .val (.ref b1), .val (.int bx), .unset, .unset, .unset, .unset] [(.int (p1 &&& (2097151 : Int32)))])) _
    refine XS.istore X138.here hx rfl (hb hby at_243) rfl (l' := #[.val (.int p1), .val (.int p2), .val (.int p3), .val (.ref b1), .val (.int bx), .val (.int (p1 &&& (2097151 : Int32))), .unset, .unset, .unset]) rfl ?_
    exact kT)
  obtain ⟨cx, hcx⟩ : ∃ z, z = (p1 &&& (2097151 : Int32)) := ⟨_, rfl⟩
  rw [← hcx] at pre144
  have pre145 : ∀ t, Steps p.tables e below (T138.setTop (mkF m 246 #[.val (.int p1), .val (.int p2), .val (.int p3), .val (.ref b1), .val (.int bx), .val (.int cx), .unset, .unset, .unset] [(.int p1)])) t → Steps p.tables e below (s₁.setTop (entryFrame m #[(.int p1), (.int p2), (.int p3)] maxLocals)) t := fun t kT => pre144 t (by
    show Steps p.tables e below (T138.setTop (mkF m 245 #[.val (.int p1), .val (.int p2), .val (.int p3), .val (.ref b1), .val (.int bx), .val (.int cx), .unset, .unset, .unset] [])) _
    refine XS.iloadN X138.here hx rfl (hb hby at_245) rfl ?_
    exact kT)
  obtain ⟨_, _, ⟨T146, L146, k146, n146⟩, -, X146, ⟨Lc146, hQ146, l146, y146, z146⟩, st146⟩ := Jvm.LawKit.callS X138 hx (y := (⟨"com/example/yarkon/yarkon/document/DocumentCharacters", "isNameStartChar", "(I)Z"⟩ : MethodName)) hown (mvT hZ (hw _ (List.mem_of_getElem? (i := 13) rfl))) (mvT hZ (hw _ (List.mem_of_getElem? (i := 14) rfl))) (mvT hZ (hw _ (List.mem_of_getElem? (i := 15) rfl))) (mvT hZ (hw _ (List.mem_of_getElem? (i := 16) rfl))) (by decide) (backOf (W := 0) (rmF l Z a0 hw [] p1 h138 n0 sz138 ) hZ (hw _ (List.mem_of_getElem? (i := 16) rfl)) (hw _ (List.mem_of_getElem? (i := 15) rfl)) (by decide) (by decide)) (g := (mkF m 246 #[.val (.int p1), .val (.int p2), .val (.int p3), .val (.ref b1), .val (.int bx), .val (.int cx), .unset, .unset, .unset] [(.int p1)])) rfl (by rw [hml]; rfl) (argsL := [(.int p1)]) (rest := []) (lenOf pd__I_Z rfl) rfl (by show 2 * 0 + _ ≤ _; exact Nat.le_of_eq rfl) (hb hby at_246) (fun _ _ => ⟨rfl, e138, (by decide : 0 + 1 + 0 ≤ _), (by decide : 0 + 34 + 0 ≤ _)⟩)
  dsimp only [Pt.U, Pt.locs, Pt.cells, Pt.slots] at X146 l146 y146 z146 st146 hQ146
  have X146 := own_st X146 (y146.trans (show _ = 1 from rfl)) (z146.trans (show _ = 34 from rfl))
  obtain ⟨rfl, N146q, eq_fp1⟩ := hQ146
  have N146 := own_fr l146 N138 N146q
  have pre147 : ∀ t, Steps p.tables e below (T146.setTop (mkF m 249 #[.val (.int p1), .val (.int p2), .val (.int p3), .val (.ref b1), .val (.int bx), .val (.int cx), .unset, .unset, .unset] [(.int (own_f0 p1))])) t → Steps p.tables e below (s₁.setTop (entryFrame m #[(.int p1), (.int p2), (.int p3)] maxLocals)) t := fun t kT => pre145 t (st146 t kT)
  have pre148 : ∀ t, Steps p.tables e below (T146.setTop (mkF m 250 #[.val (.int p1), .val (.int p2), .val (.int p3), .val (.ref b1), .val (.int bx), .val (.int cx), .unset, .unset, .unset] [(.int p1), (.int (own_f0 p1))])) t → Steps p.tables e below (s₁.setTop (entryFrame m #[(.int p1), (.int p2), (.int p3)] maxLocals)) t := fun t kT => pre147 t (by
    show Steps p.tables e below (T146.setTop (mkF m 249 #[.val (.int p1), .val (.int p2), .val (.int p3), .val (.ref b1), .val (.int bx), .val (.int cx), .unset, .unset, .unset] [(.int (own_f0 p1))])) _
    refine XS.iloadN X146.here hx rfl (hb hby at_249) rfl ?_
    exact kT)
  obtain ⟨_, _, ⟨T149, L149, k149, n149⟩, -, X149, ⟨Lc149, hQ149, l149, y149, z149⟩, st149⟩ := Jvm.LawKit.callS X146 hx (y := (⟨"com/example/yarkon/yarkon/document/DocumentCharactersIsNameStartCharPinLaw", "reference", "(I)Z"⟩ : MethodName)) hown (mvT hZ (hw _ (List.mem_of_getElem? (i := 20) rfl))) (mvT hZ (hw _ (List.mem_of_getElem? (i := 21) rfl))) (mvT hZ (hw _ (List.mem_of_getElem? (i := 22) rfl))) (mvT hZ (hw _ (List.mem_of_getElem? (i := 23) rfl))) (by decide) (backOf (W := 1) (rmR l Z a0 hw [] p1 h138 n0 sz138 ) hZ (hw _ (List.mem_of_getElem? (i := 23) rfl)) (hw _ (List.mem_of_getElem? (i := 22) rfl)) (by decide) (by decide)) (g := (mkF m 250 #[.val (.int p1), .val (.int p2), .val (.int p3), .val (.ref b1), .val (.int bx), .val (.int cx), .unset, .unset, .unset] [(.int p1), (.int (own_f0 p1))])) rfl (by rw [hml]; rfl) (argsL := [(.int p1)]) (rest := [(.int (own_f0 p1))]) (lenOf pd__I_Z rfl) rfl (by show 2 * 0 + _ ≤ _; exact Nat.le_of_eq rfl) (hb hby at_250) (fun _ _ => ⟨rfl, eq_fp1, (by decide : 1 + 0 ≤ _), (by decide : 34 + 0 ≤ _)⟩)
  dsimp only [Pt.U, Pt.locs, Pt.cells, Pt.slots] at X149 l149 y149 z149 st149 hQ149
  have X149 := own_st X149 (y149.trans (show _ = 1 from rfl)) (z149.trans (show _ = 34 from rfl))
  obtain ⟨rfl, N149q, eq_gp1⟩ := hQ149
  have N149 := own_fr l149 N146 N149q
  have pre150 : ∀ t, Steps p.tables e below (T149.setTop (mkF m 253 #[.val (.int p1), .val (.int p2), .val (.int p3), .val (.ref b1), .val (.int bx), .val (.int cx), .unset, .unset, .unset] [(.int (own_g0 p1)), (.int (own_f0 p1))])) t → Steps p.tables e below (s₁.setTop (entryFrame m #[(.int p1), (.int p2), (.int p3)] maxLocals)) t := fun t kT => pre148 t (st149 t kT)
  have pre151 : ∀ t, Steps p.tables e below (T149.setTop (mkF m 265 #[.val (.int p1), .val (.int p2), .val (.int p3), .val (.ref b1), .val (.int bx), .val (.int cx), .val (.int (1 : Int32)), .unset, .unset] [(.int bx)])) t → Steps p.tables e below (s₁.setTop (entryFrame m #[(.int p1), (.int p2), (.int p3)] maxLocals)) t := fun t kT => pre150 t (by
    show Steps p.tables e below (T149.setTop (mkF m 253 #[.val (.int p1), .val (.int p2), .val (.int p3), .val (.ref b1), .val (.int bx), .val (.int cx), .unset, .unset, .unset] [(.int (own_g0 p1)), (.int (own_f0 p1))])) _
    refine XS.icmpNo X149.here hx rfl (hb hby at_253) rfl (teq (own_eq p1)).2 ?_
    show Steps p.tables e below (T149.setTop (mkF m 256 #[.val (.int p1), .val (.int p2), .val (.int p3), .val (.ref b1), .val (.int bx), .val (.int cx), .unset, .unset, .unset] [])) _
    refine XS.iconst X149.here hx rfl (hb hby at_256) ?_
    show Steps p.tables e below (T149.setTop (mkF m 257 #[.val (.int p1), .val (.int p2), .val (.int p3), .val (.ref b1), .val (.int bx), .val (.int cx), .unset, .unset, .unset] [(.int (1 : Int32))])) _
    refine XS.goto X149.here hx rfl (pc0 := 257) (pc' := 261) rfl (hb hby at_257) (by decide) (by decide) ?_
    show Steps p.tables e below (T149.setTop (mkF m 261 #[.val (.int p1), .val (.int p2), .val (.int p3), .val (.ref b1), .val (.int bx), .val (.int cx), .unset, .unset, .unset] [(.int (1 : Int32))])) _
    refine XS.istore X149.here hx rfl (hb hby at_261) rfl (l' := #[.val (.int p1), .val (.int p2), .val (.int p3), .val (.ref b1), .val (.int bx), .val (.int cx), .val (.int (1 : Int32)), .unset, .unset]) rfl ?_
    show Steps p.tables e below (T149.setTop (mkF m 263 #[.val (.int p1), .val (.int p2), .val (.int p3), .val (.ref b1), .val (.int bx), .val (.int cx), .val (.int (1 : Int32)), .unset, .unset] [])) _
    refine XS.iload X149.here hx rfl (hb hby at_263) rfl ?_
    exact kT)
  obtain ⟨_, _, ⟨T152, L152, k152, n152⟩, -, X152, ⟨Lc152, hQ152, l152, y152, z152⟩, st152⟩ := Jvm.LawKit.callS X149 hx (y := (⟨"com/example/yarkon/yarkon/document/DocumentCharacters", "isNameStartChar", "(I)Z"⟩ : MethodName)) hown (mvT hZ (hw _ (List.mem_of_getElem? (i := 13) rfl))) (mvT hZ (hw _ (List.mem_of_getElem? (i := 14) rfl))) (mvT hZ (hw _ (List.mem_of_getElem? (i := 15) rfl))) (mvT hZ (hw _ (List.mem_of_getElem? (i := 16) rfl))) (by decide) (backOf (W := 0) (rmF l Z a0 hw [] bx h138 n0 sz138 ) hZ (hw _ (List.mem_of_getElem? (i := 16) rfl)) (hw _ (List.mem_of_getElem? (i := 15) rfl)) (by decide) (by decide)) (g := (mkF m 265 #[.val (.int p1), .val (.int p2), .val (.int p3), .val (.ref b1), .val (.int bx), .val (.int cx), .val (.int (1 : Int32)), .unset, .unset] [(.int bx)])) rfl (by rw [hml]; rfl) (argsL := [(.int bx)]) (rest := []) (lenOf pd__I_Z rfl) rfl (by show 2 * 0 + _ ≤ _; exact Nat.le_of_eq rfl) (hb hby at_265) (fun _ _ => ⟨rfl, eq_gp1, (by decide : 1 + 0 ≤ _), (by decide : 34 + 0 ≤ _)⟩)
  dsimp only [Pt.U, Pt.locs, Pt.cells, Pt.slots] at X152 l152 y152 z152 st152 hQ152
  have X152 := own_st X152 (y152.trans (show _ = 1 from rfl)) (z152.trans (show _ = 34 from rfl))
  obtain ⟨rfl, N152q, eq_fbx⟩ := hQ152
  have N152 := own_fr l152 N149 N152q
  have pre153 : ∀ t, Steps p.tables e below (T152.setTop (mkF m 268 #[.val (.int p1), .val (.int p2), .val (.int p3), .val (.ref b1), .val (.int bx), .val (.int cx), .val (.int (1 : Int32)), .unset, .unset] [(.int (own_f0 bx))])) t → Steps p.tables e below (s₁.setTop (entryFrame m #[(.int p1), (.int p2), (.int p3)] maxLocals)) t := fun t kT => pre151 t (st152 t kT)
  have pre154 : ∀ t, Steps p.tables e below (T152.setTop (mkF m 270 #[.val (.int p1), .val (.int p2), .val (.int p3), .val (.ref b1), .val (.int bx), .val (.int cx), .val (.int (1 : Int32)), .unset, .unset] [(.int bx), (.int (own_f0 bx))])) t → Steps p.tables e below (s₁.setTop (entryFrame m #[(.int p1), (.int p2), (.int p3)] maxLocals)) t := fun t kT => pre153 t (by
    show Steps p.tables e below (T152.setTop (mkF m 268 #[.val (.int p1), .val (.int p2), .val (.int p3), .val (.ref b1), .val (.int bx), .val (.int cx), .val (.int (1 : Int32)), .unset, .unset] [(.int (own_f0 bx))])) _
    refine XS.iload X152.here hx rfl (hb hby at_268) rfl ?_
    exact kT)
  obtain ⟨_, _, ⟨T155, L155, k155, n155⟩, -, X155, ⟨Lc155, hQ155, l155, y155, z155⟩, st155⟩ := Jvm.LawKit.callS X152 hx (y := (⟨"com/example/yarkon/yarkon/document/DocumentCharactersIsNameStartCharPinLaw", "reference", "(I)Z"⟩ : MethodName)) hown (mvT hZ (hw _ (List.mem_of_getElem? (i := 20) rfl))) (mvT hZ (hw _ (List.mem_of_getElem? (i := 21) rfl))) (mvT hZ (hw _ (List.mem_of_getElem? (i := 22) rfl))) (mvT hZ (hw _ (List.mem_of_getElem? (i := 23) rfl))) (by decide) (backOf (W := 1) (rmR l Z a0 hw [] bx h138 n0 sz138 ) hZ (hw _ (List.mem_of_getElem? (i := 23) rfl)) (hw _ (List.mem_of_getElem? (i := 22) rfl)) (by decide) (by decide)) (g := (mkF m 270 #[.val (.int p1), .val (.int p2), .val (.int p3), .val (.ref b1), .val (.int bx), .val (.int cx), .val (.int (1 : Int32)), .unset, .unset] [(.int bx), (.int (own_f0 bx))])) rfl (by rw [hml]; rfl) (argsL := [(.int bx)]) (rest := [(.int (own_f0 bx))]) (lenOf pd__I_Z rfl) rfl (by show 2 * 0 + _ ≤ _; exact Nat.le_of_eq rfl) (hb hby at_270) (fun _ _ => ⟨rfl, eq_fbx, (by decide : 1 + 0 ≤ _), (by decide : 34 + 0 ≤ _)⟩)
  dsimp only [Pt.U, Pt.locs, Pt.cells, Pt.slots] at X155 l155 y155 z155 st155 hQ155
  have X155 := own_st X155 (y155.trans (show _ = 1 from rfl)) (z155.trans (show _ = 34 from rfl))
  obtain ⟨rfl, N155q, eq_gbx⟩ := hQ155
  have N155 := own_fr l155 N152 N155q
  have pre156 : ∀ t, Steps p.tables e below (T155.setTop (mkF m 273 #[.val (.int p1), .val (.int p2), .val (.int p3), .val (.ref b1), .val (.int bx), .val (.int cx), .val (.int (1 : Int32)), .unset, .unset] [(.int (own_g0 bx)), (.int (own_f0 bx))])) t → Steps p.tables e below (s₁.setTop (entryFrame m #[(.int p1), (.int p2), (.int p3)] maxLocals)) t := fun t kT => pre154 t (st155 t kT)
  have pre157 : ∀ t, Steps p.tables e below (T155.setTop (mkF m 285 #[.val (.int p1), .val (.int p2), .val (.int p3), .val (.ref b1), .val (.int bx), .val (.int cx), .val (.int (1 : Int32)), .val (.int (1 : Int32)), .unset] [(.int cx)])) t → Steps p.tables e below (s₁.setTop (entryFrame m #[(.int p1), (.int p2), (.int p3)] maxLocals)) t := fun t kT => pre156 t (by
    show Steps p.tables e below (T155.setTop (mkF m 273 #[.val (.int p1), .val (.int p2), .val (.int p3), .val (.ref b1), .val (.int bx), .val (.int cx), .val (.int (1 : Int32)), .unset, .unset] [(.int (own_g0 bx)), (.int (own_f0 bx))])) _
    refine XS.icmpNo X155.here hx rfl (hb hby at_273) rfl (teq (own_eq bx)).2 ?_
    show Steps p.tables e below (T155.setTop (mkF m 276 #[.val (.int p1), .val (.int p2), .val (.int p3), .val (.ref b1), .val (.int bx), .val (.int cx), .val (.int (1 : Int32)), .unset, .unset] [])) _
    refine XS.iconst X155.here hx rfl (hb hby at_276) ?_
    show Steps p.tables e below (T155.setTop (mkF m 277 #[.val (.int p1), .val (.int p2), .val (.int p3), .val (.ref b1), .val (.int bx), .val (.int cx), .val (.int (1 : Int32)), .unset, .unset] [(.int (1 : Int32))])) _
    refine XS.goto X155.here hx rfl (pc0 := 277) (pc' := 281) rfl (hb hby at_277) (by decide) (by decide) ?_
    show Steps p.tables e below (T155.setTop (mkF m 281 #[.val (.int p1), .val (.int p2), .val (.int p3), .val (.ref b1), .val (.int bx), .val (.int cx), .val (.int (1 : Int32)), .unset, .unset] [(.int (1 : Int32))])) _
    refine XS.istore X155.here hx rfl (hb hby at_281) rfl (l' := #[.val (.int p1), .val (.int p2), .val (.int p3), .val (.ref b1), .val (.int bx), .val (.int cx), .val (.int (1 : Int32)), .val (.int (1 : Int32)), .unset]) rfl ?_
    show Steps p.tables e below (T155.setTop (mkF m 283 #[.val (.int p1), .val (.int p2), .val (.int p3), .val (.ref b1), .val (.int bx), .val (.int cx), .val (.int (1 : Int32)), .val (.int (1 : Int32)), .unset] [])) _
    refine XS.iload X155.here hx rfl (hb hby at_283) rfl ?_
    exact kT)
  obtain ⟨_, _, ⟨T158, L158, k158, n158⟩, -, X158, ⟨Lc158, hQ158, l158, y158, z158⟩, st158⟩ := Jvm.LawKit.callS X155 hx (y := (⟨"com/example/yarkon/yarkon/document/DocumentCharacters", "isNameStartChar", "(I)Z"⟩ : MethodName)) hown (mvT hZ (hw _ (List.mem_of_getElem? (i := 13) rfl))) (mvT hZ (hw _ (List.mem_of_getElem? (i := 14) rfl))) (mvT hZ (hw _ (List.mem_of_getElem? (i := 15) rfl))) (mvT hZ (hw _ (List.mem_of_getElem? (i := 16) rfl))) (by decide) (backOf (W := 0) (rmF l Z a0 hw [] cx h138 n0 sz138 ) hZ (hw _ (List.mem_of_getElem? (i := 16) rfl)) (hw _ (List.mem_of_getElem? (i := 15) rfl)) (by decide) (by decide)) (g := (mkF m 285 #[.val (.int p1), .val (.int p2), .val (.int p3), .val (.ref b1), .val (.int bx), .val (.int cx), .val (.int (1 : Int32)), .val (.int (1 : Int32)), .unset] [(.int cx)])) rfl (by rw [hml]; rfl) (argsL := [(.int cx)]) (rest := []) (lenOf pd__I_Z rfl) rfl (by show 2 * 0 + _ ≤ _; exact Nat.le_of_eq rfl) (hb hby at_285) (fun _ _ => ⟨rfl, eq_gbx, (by decide : 1 + 0 ≤ _), (by decide : 34 + 0 ≤ _)⟩)
  dsimp only [Pt.U, Pt.locs, Pt.cells, Pt.slots] at X158 l158 y158 z158 st158 hQ158
  have X158 := own_st X158 (y158.trans (show _ = 1 from rfl)) (z158.trans (show _ = 34 from rfl))
  obtain ⟨rfl, N158q, eq_fcx⟩ := hQ158
  have N158 := own_fr l158 N155 N158q
  have pre159 : ∀ t, Steps p.tables e below (T158.setTop (mkF m 288 #[.val (.int p1), .val (.int p2), .val (.int p3), .val (.ref b1), .val (.int bx), .val (.int cx), .val (.int (1 : Int32)), .val (.int (1 : Int32)), .unset] [(.int (own_f0 cx))])) t → Steps p.tables e below (s₁.setTop (entryFrame m #[(.int p1), (.int p2), (.int p3)] maxLocals)) t := fun t kT => pre157 t (st158 t kT)
  have pre160 : ∀ t, Steps p.tables e below (T158.setTop (mkF m 290 #[.val (.int p1), .val (.int p2), .val (.int p3), .val (.ref b1), .val (.int bx), .val (.int cx), .val (.int (1 : Int32)), .val (.int (1 : Int32)), .unset] [(.int cx), (.int (own_f0 cx))])) t → Steps p.tables e below (s₁.setTop (entryFrame m #[(.int p1), (.int p2), (.int p3)] maxLocals)) t := fun t kT => pre159 t (by
    show Steps p.tables e below (T158.setTop (mkF m 288 #[.val (.int p1), .val (.int p2), .val (.int p3), .val (.ref b1), .val (.int bx), .val (.int cx), .val (.int (1 : Int32)), .val (.int (1 : Int32)), .unset] [(.int (own_f0 cx))])) _
    refine XS.iload X158.here hx rfl (hb hby at_288) rfl ?_
    exact kT)
  obtain ⟨_, _, ⟨T161, L161, k161, n161⟩, -, X161, ⟨Lc161, hQ161, l161, y161, z161⟩, st161⟩ := Jvm.LawKit.callS X158 hx (y := (⟨"com/example/yarkon/yarkon/document/DocumentCharactersIsNameStartCharPinLaw", "reference", "(I)Z"⟩ : MethodName)) hown (mvT hZ (hw _ (List.mem_of_getElem? (i := 20) rfl))) (mvT hZ (hw _ (List.mem_of_getElem? (i := 21) rfl))) (mvT hZ (hw _ (List.mem_of_getElem? (i := 22) rfl))) (mvT hZ (hw _ (List.mem_of_getElem? (i := 23) rfl))) (by decide) (backOf (W := 1) (rmR l Z a0 hw [] cx h138 n0 sz138 ) hZ (hw _ (List.mem_of_getElem? (i := 23) rfl)) (hw _ (List.mem_of_getElem? (i := 22) rfl)) (by decide) (by decide)) (g := (mkF m 290 #[.val (.int p1), .val (.int p2), .val (.int p3), .val (.ref b1), .val (.int bx), .val (.int cx), .val (.int (1 : Int32)), .val (.int (1 : Int32)), .unset] [(.int cx), (.int (own_f0 cx))])) rfl (by rw [hml]; rfl) (argsL := [(.int cx)]) (rest := [(.int (own_f0 cx))]) (lenOf pd__I_Z rfl) rfl (by show 2 * 0 + _ ≤ _; exact Nat.le_of_eq rfl) (hb hby at_290) (fun _ _ => ⟨rfl, eq_fcx, (by decide : 1 + 0 ≤ _), (by decide : 34 + 0 ≤ _)⟩)
  dsimp only [Pt.U, Pt.locs, Pt.cells, Pt.slots] at X161 l161 y161 z161 st161 hQ161
  have X161 := own_st X161 (y161.trans (show _ = 1 from rfl)) (z161.trans (show _ = 34 from rfl))
  obtain ⟨rfl, N161q, eq_gcx⟩ := hQ161
  have N161 := own_fr l161 N158 N161q
  have pre162 : ∀ t, Steps p.tables e below (T161.setTop (mkF m 293 #[.val (.int p1), .val (.int p2), .val (.int p3), .val (.ref b1), .val (.int bx), .val (.int cx), .val (.int (1 : Int32)), .val (.int (1 : Int32)), .unset] [(.int (own_g0 cx)), (.int (own_f0 cx))])) t → Steps p.tables e below (s₁.setTop (entryFrame m #[(.int p1), (.int p2), (.int p3)] maxLocals)) t := fun t kT => pre160 t (st161 t kT)
  have pre163 : ∀ t, Steps p.tables e below (T161.setTop (mkF m 323 #[.val (.int p1), .val (.int p2), .val (.int p3), .val (.ref b1), .val (.int bx), .val (.int cx), .val (.int (1 : Int32)), .val (.int (1 : Int32)), .val (.int (1 : Int32))] [(.int (1 : Int32))])) t → Steps p.tables e below (s₁.setTop (entryFrame m #[(.int p1), (.int p2), (.int p3)] maxLocals)) t := fun t kT => pre162 t (by
    show Steps p.tables e below (T161.setTop (mkF m 293 #[.val (.int p1), .val (.int p2), .val (.int p3), .val (.ref b1), .val (.int bx), .val (.int cx), .val (.int (1 : Int32)), .val (.int (1 : Int32)), .unset] [(.int (own_g0 cx)), (.int (own_f0 cx))])) _
    refine XS.icmpNo X161.here hx rfl (hb hby at_293) rfl (teq (own_eq cx)).2 ?_
    show Steps p.tables e below (T161.setTop (mkF m 296 #[.val (.int p1), .val (.int p2), .val (.int p3), .val (.ref b1), .val (.int bx), .val (.int cx), .val (.int (1 : Int32)), .val (.int (1 : Int32)), .unset] [])) _
    refine XS.iconst X161.here hx rfl (hb hby at_296) ?_
    show Steps p.tables e below (T161.setTop (mkF m 297 #[.val (.int p1), .val (.int p2), .val (.int p3), .val (.ref b1), .val (.int bx), .val (.int cx), .val (.int (1 : Int32)), .val (.int (1 : Int32)), .unset] [(.int (1 : Int32))])) _
    refine XS.goto X161.here hx rfl (pc0 := 297) (pc' := 301) rfl (hb hby at_297) (by decide) (by decide) ?_
    show Steps p.tables e below (T161.setTop (mkF m 301 #[.val (.int p1), .val (.int p2), .val (.int p3), .val (.ref b1), .val (.int bx), .val (.int cx), .val (.int (1 : Int32)), .val (.int (1 : Int32)), .unset] [(.int (1 : Int32))])) _
    refine XS.istore X161.here hx rfl (hb hby at_301) rfl (l' := #[.val (.int p1), .val (.int p2), .val (.int p3), .val (.ref b1), .val (.int bx), .val (.int cx), .val (.int (1 : Int32)), .val (.int (1 : Int32)), .val (.int (1 : Int32))]) rfl ?_
    show Steps p.tables e below (T161.setTop (mkF m 303 #[.val (.int p1), .val (.int p2), .val (.int p3), .val (.ref b1), .val (.int bx), .val (.int cx), .val (.int (1 : Int32)), .val (.int (1 : Int32)), .val (.int (1 : Int32))] [])) _
    refine XS.iload X161.here hx rfl (hb hby at_303) rfl ?_
    show Steps p.tables e below (T161.setTop (mkF m 305 #[.val (.int p1), .val (.int p2), .val (.int p3), .val (.ref b1), .val (.int bx), .val (.int cx), .val (.int (1 : Int32)), .val (.int (1 : Int32)), .val (.int (1 : Int32))] [(.int (1 : Int32))])) _
    refine XS.ifNo X161.here hx rfl (hb hby at_305) rfl ((if0 _ _).trans (feq (by decide : ¬ ((1 : Int32) = (0 : Int32)))).1) ?_
    show Steps p.tables e below (T161.setTop (mkF m 308 #[.val (.int p1), .val (.int p2), .val (.int p3), .val (.ref b1), .val (.int bx), .val (.int cx), .val (.int (1 : Int32)), .val (.int (1 : Int32)), .val (.int (1 : Int32))] [])) _
    refine XS.iload X161.here hx rfl (hb hby at_308) rfl ?_
    show Steps p.tables e below (T161.setTop (mkF m 310 #[.val (.int p1), .val (.int p2), .val (.int p3), .val (.ref b1), .val (.int bx), .val (.int cx), .val (.int (1 : Int32)), .val (.int (1 : Int32)), .val (.int (1 : Int32))] [(.int (1 : Int32))])) _
    refine XS.ifNo X161.here hx rfl (hb hby at_310) rfl ((if0 _ _).trans (feq (by decide : ¬ ((1 : Int32) = (0 : Int32)))).1) ?_
    show Steps p.tables e below (T161.setTop (mkF m 313 #[.val (.int p1), .val (.int p2), .val (.int p3), .val (.ref b1), .val (.int bx), .val (.int cx), .val (.int (1 : Int32)), .val (.int (1 : Int32)), .val (.int (1 : Int32))] [])) _
    refine XS.iload X161.here hx rfl (hb hby at_313) rfl ?_
    show Steps p.tables e below (T161.setTop (mkF m 315 #[.val (.int p1), .val (.int p2), .val (.int p3), .val (.ref b1), .val (.int bx), .val (.int cx), .val (.int (1 : Int32)), .val (.int (1 : Int32)), .val (.int (1 : Int32))] [(.int (1 : Int32))])) _
    refine XS.ifNo X161.here hx rfl (hb hby at_315) rfl ((if0 _ _).trans (feq (by decide : ¬ ((1 : Int32) = (0 : Int32)))).1) ?_
    show Steps p.tables e below (T161.setTop (mkF m 318 #[.val (.int p1), .val (.int p2), .val (.int p3), .val (.ref b1), .val (.int bx), .val (.int cx), .val (.int (1 : Int32)), .val (.int (1 : Int32)), .val (.int (1 : Int32))] [])) _
    refine XS.iconst X161.here hx rfl (hb hby at_318) ?_
    show Steps p.tables e below (T161.setTop (mkF m 319 #[.val (.int p1), .val (.int p2), .val (.int p3), .val (.ref b1), .val (.int bx), .val (.int cx), .val (.int (1 : Int32)), .val (.int (1 : Int32)), .val (.int (1 : Int32))] [(.int (1 : Int32))])) _
    refine XS.goto X161.here hx rfl (pc0 := 319) (pc' := 323) rfl (hb hby at_319) (by decide) (by decide) ?_
    exact kT)
  obtain ⟨fs, hr, hrun, hended, hW, hsame⟩ := X161.leave (v := some (.int (1 : Int32))) (fun h => by rw [Bd.returns] at h; cases h)
  refine ⟨_, _, pre163 _ ?_, hrun, hended, _, _, rfl, ?_, ⟨_, rfl⟩, hW, hsame.mono (by decide) (by decide)⟩
  · exact retN X161 hx (t := .boolean) Bd.returns (by simp) (hb hby at_323) hr
  · exact ⟨rfl, N161⟩
set_option maxRecDepth 65536 in
set_option maxHeartbeats 40000000 in
theorem comes_1 {Post : Tables → Env → Array Value → State → Outcome → State → Prop} (hpost : ∀ tb e args s v u, (limb_1_1.after args s (.returned v) u = true ∧ limb_1_2.after args s (.returned v) u = true ∧ True) → FrameEnd s (.returned v) u (Jvm.fieldLocs frame_1_writes args s ++ Jvm.arrayLocs frame_1_arrays args s ++ Jvm.staticLocs frame_1_statics s) 16 192 → Post tb e args s (.returned v) u) :
    ArmFor flags0 classFile x code maxLocals ret World_1 tables_1 room_1 Calls_1 rest_1 Pre_1 Post := by
  intro l hfl _ _ p e ha hc hk s m args below hf hA hF happ hP
  obtain ⟨hcalls, hrest, hpre⟩ := hP
  obtain ⟨-, -, -, hnamed, -, -, -, hat⟩ := (Spec.applies_iff hf).mp happ
  obtain ⟨hg, hn⟩ := and_e (Cond.before_iff.mp (show (Jvm.Cond.and given_1 narrow_1).before args s = true from hpre))
  obtain ⟨gc, gr0⟩ := and_e hg
  obtain ⟨ga0, gr1⟩ := and_e gr0
  obtain ⟨ga1, gr2⟩ := and_e gr1
  obtain ⟨w0, w1, w2, rfl⟩ : ∃ w0 w1 w2 : Value, args = #[w0, w1, w2] := by
    have hs : args.size = 3 := by simpa [Cond.value, given_1] using gc
    obtain ⟨L⟩ := args
    match L, hs with
    | [w0, w1, w2], _ => exact ⟨w0, w1, w2, rfl⟩
  have hw := fun d (hd : d ∈ tables_1) => atoms_spec (ws := Jvm.Cond.code x code maxLocals ret :: tables_1) hat d (List.mem_cons_of_mem _ hd)
  obtain ⟨i0, ei0⟩ := is_v ga0
  obtain rfl : w0 = (.int i0) := Option.some.inj ei0
  obtain ⟨i1, ei1⟩ := is_v ga1
  obtain rfl : w1 = (.int i1) := Option.some.inj ei1
  obtain ⟨i2, ei2⟩ := is_v gr2
  obtain rfl : w2 = (.int i2) := Option.some.inj ei2
  obtain ⟨n, o, h1, h2, h3, _, L, rfl, ⟨rfl, N⟩, hq⟩ := rm0 l s _ hw tables_1 i0 i1 i2 s.heap s.heap.size (Nat.le_refl _) p e ha hc hk s m _ below hf ((Spec.applies_iff_loose hf).mp happ).1 ⟨rfl, State.Warmed39.refl s, rfl⟩ trivial
  refine ⟨n, _, h1, h2, h3, hpost _ _ _ _ _ _ ⟨Cond.after_iff.mpr rfl, Cond.after_iff.mpr (eq_i res_at (Term.int_eval (1)) rfl), trivial⟩ ⟨hq.1, hq.2.1, (hq.2.2.sift fun y hy => Or.inr (N y hy)).mono (by decide) (by decide)⟩⟩
theorem main_1_1 : Claimed_1_1 := comes_1 fun _ _ _ _ _ _ h hF => ⟨h.1, hF⟩
theorem main_1_2 : Claimed_1_2 := comes_1 fun _ _ _ _ _ _ h hF => ⟨h.2.1, hF⟩
end Jvm.Pilot.@@N@@
namespace Jvm.Pilot.@@N@@
open Jvm Jvm.ClassFile Sem Op Lib Jvm.Free Jvm.Stand Jvm.Pilot.@@N@@.Jvm.D
/-! MADE BY PROGRAM (witnessworld.py) out of the Statement's table words and the real class files: 9 classes; the members and pool entries that the words name. The judged class is class 1, her method 2. -/
namespace start1
open Jvm.ClassFile
def u (s : String) : CpInfo := .utf8 (stringToUtf16 s)
/-- a pool by its gaps: so many unusable entries, then the entry; so many at the end -/
def gap : Nat → List CpInfo → List CpInfo
  | 0, r => r
  | n + 1, r => .unusable :: gap n r
def poolList (es : List (Nat × CpInfo)) (last : Nat) : List CpInfo := es.foldr (fun e r => gap e.1 (e.2 :: r)) (gap last [])
def pool (es : List (Nat × CpInfo)) (last : Nat) : Array CpInfo := ⟨poolList es last⟩
def fileOf (pool : Array CpInfo) (this : Nat) (attrs : Array Attribute := #[]) (ms : Array MethodInfo := #[]) (fl : Nat := 33) (sup : Nat := 0) (ifs : Array Nat := #[]) (fds : Array FieldInfo := #[]) : ClassFile where
  minorVersion := 0
  majorVersion := 65
  constantPool := pool
  accessFlags := fl
  thisClass := this
  superClass := sup
  interfaces := ifs
  fields := fds
  methods := ms
  attributes := attrs
def plain (name : String) (sup : Option ClassId) : Class where
  name := name
  kind := .ordinary
  loader := none
  accessFlags := 33
  super := sup
  interfaces := #[]
  cf := none
  fields := #[]
  methods := #[]
  instanceTypes := #[]
  staticTypes := #[]
  resolved := #[]
  callSites := []
  init := .initialized
  statics := none
  mirror := none

def pool0 : Array CpInfo := pool [(5, u "<init>"), (0, u "()V"), (1, .class_ 10), (1, u "java/lang/Object")] 113

def k0m0 : Method := { name := "<init>", desc := "()V", sig := { parameters := [], returnType := none }, accessFlags := 1, code := none }
/-- java/lang/Object -/
def k0 : Class := { plain "java/lang/Object" none with
  accessFlags := 33
  interfaces := #[]
  cf := some (fileOf pool0 8 #[] #[{ accessFlags := 1, nameIndex := 5, descriptorIndex := 6, attributes := #[] }] 33 0 #[] #[])
  fields := #[]
  methods := #[k0m0]
  instanceTypes := #[]
  staticTypes := #[]
  resolved := Array.replicate 124 none
  statics := none }

def pool1 : Array CpInfo := pool [(2, .class_ 4), (1, u "java/lang/Object"), (0, u "<init>"), (0, u "()V"), (0, .integer 983039), (0, .integer 55296), (0, .integer 63743), (0, .integer 64976), (0, .integer 65007), (0, .integer 65534), (0, .integer 65535), (0, .integer 55295), (0, .integer 63744), (0, .integer 64975), (0, .integer 65008), (0, .integer 65533), (0, .integer 65536), (0, .integer 1114111), (2, .integer 2147483650), (0, .integer 2147483645), (0, .integer 2147483647), (0, .integer 2097151), (0, .methodref 28 29), (0, .class_ 30), (0, .nameAndType 31 32), (0, u "com/example/yarkon/yarkon/document/DocumentCharacters"), (0, u "isNameStartChar"), (0, u "(I)Z"), (0, .methodref 34 35), (0, .class_ 36), (0, .nameAndType 37 32), (0, u "com/example/yarkon/yarkon/document/DocumentCharactersIsNameStartCharPinLaw"), (0, u "reference"), (3, u "law"), (0, u "(III)Z")] 4

def k1m0 : Method := { name := "<init>", desc := "()V", sig := { parameters := [], returnType := none }, accessFlags := 1, code := none }
def k1c1 : Code := { maxStack := 2, maxLocals := 1, code := method_2_code, exceptionTable := #[], attributes := #[] }
def k1m1 : Method := { name := "reference", desc := "(I)Z", sig := { parameters := [.int], returnType := some .boolean }, accessFlags := 10, code := some k1c1 }
def k1c2 : Code := { maxStack := 4, maxLocals := 9, code := code, exceptionTable := #[], attributes := #[] }
def k1m2 : Method := { name := "law", desc := "(III)Z", sig := { parameters := [.int, .int, .int], returnType := some .boolean }, accessFlags := 9, code := some k1c2 }
/-- com/example/yarkon/yarkon/document/DocumentCharactersIsNameStartCharPinLaw -/
def k1 : Class := { plain "com/example/yarkon/yarkon/document/DocumentCharactersIsNameStartCharPinLaw" (some 0) with
  accessFlags := 49
  interfaces := #[]
  cf := some (fileOf pool1 34 #[] #[{ accessFlags := 1, nameIndex := 5, descriptorIndex := 6, attributes := #[] }, { accessFlags := 10, nameIndex := 37, descriptorIndex := 32, attributes := #[] }, { accessFlags := 9, nameIndex := 41, descriptorIndex := 42, attributes := #[] }] 49 2 #[] #[])
  fields := #[]
  methods := #[k1m0, k1m1, k1m2]
  instanceTypes := #[]
  staticTypes := #[]
  resolved := Array.replicate 47 none
  statics := none }

def pool2 : Array CpInfo := pool [(2, .class_ 4), (1, u "java/lang/Object"), (2, .class_ 8), (0, u "com/example/yarkon/yarkon/document/DocumentCharacters"), (2, u "lookahead"), (0, u "[C"), (5, u "place"), (0, u "Lcom/example/yarkon/yarkon/document/TextPlace;"), (4, u "names"), (0, u "[Ljava/lang/String;"), (5, u "value"), (0, u "Ljava/lang/StringBuilder;"), (2, u "in"), (0, u "Ljava/io/Reader;"), (2, u "recording"), (27, u "(I)Z"), (22, u "end"), (0, u "I"), (2, u "start"), (2, u "endOfInput"), (0, u "Z"), (23, u "isNameStartChar"), (86, .class_ 211), (1, u "com/example/yarkon/yarkon/document/DocumentCharacters$EntityReferences"), (43, u "previous"), (0, u "C"), (57, .integer 55295), (1, .integer 65533), (0, .integer 65536), (1, .integer 63744), (0, .integer 64975), (0, .integer 65008), (0, .integer 983039), (0, u "ENDS_INSIDE_SUBSET"), (0, u "Ljava/lang/String;"), (3, u "ENDS_INSIDE_DOCTYPE"), (2, u "CHARACTER_REFERENCE"), (0, u "ENTITY_REFERENCE"), (0, u "LONGEST_PART"), (1, u "TOO_LONG"), (0, u "LOOKAHEAD_CHARS"), (1, u "NAMES_KEPT"), (1, u "VALUE_ROOM_KEPT")] 25

def k2c0 : Code := { maxStack := 2, maxLocals := 1, code := prog_24_method_34_code, exceptionTable := #[], attributes := #[] }
def k2m0 : Method := { name := "isNameStartChar", desc := "(I)Z", sig := { parameters := [.int], returnType := some .boolean }, accessFlags := 8, code := some k2c0 }
/-- com/example/yarkon/yarkon/document/DocumentCharacters -/
def k2 : Class := { plain "com/example/yarkon/yarkon/document/DocumentCharacters" (some 0) with
  accessFlags := 32
  interfaces := #[]
  cf := some (fileOf pool2 7 #[.nestMembers #[209]] #[{ accessFlags := 8, nameIndex := 122, descriptorIndex := 67, attributes := #[] }] 32 2 #[] #[{ accessFlags := 24, nameIndex := 323, descriptorIndex := 324, attributes := #[] }, { accessFlags := 24, nameIndex := 328, descriptorIndex := 324, attributes := #[] }, { accessFlags := 26, nameIndex := 331, descriptorIndex := 324, attributes := #[] }, { accessFlags := 26, nameIndex := 332, descriptorIndex := 324, attributes := #[] }, { accessFlags := 24, nameIndex := 333, descriptorIndex := 91, attributes := #[] }, { accessFlags := 26, nameIndex := 335, descriptorIndex := 324, attributes := #[] }, { accessFlags := 26, nameIndex := 336, descriptorIndex := 91, attributes := #[] }, { accessFlags := 26, nameIndex := 338, descriptorIndex := 91, attributes := #[] }, { accessFlags := 26, nameIndex := 340, descriptorIndex := 91, attributes := #[] }, { accessFlags := 18, nameIndex := 35, descriptorIndex := 36, attributes := #[] }, { accessFlags := 18, nameIndex := 11, descriptorIndex := 12, attributes := #[] }, { accessFlags := 2, nameIndex := 94, descriptorIndex := 91, attributes := #[] }, { accessFlags := 2, nameIndex := 90, descriptorIndex := 91, attributes := #[] }, { accessFlags := 2, nameIndex := 97, descriptorIndex := 98, attributes := #[] }, { accessFlags := 18, nameIndex := 18, descriptorIndex := 19, attributes := #[] }, { accessFlags := 2, nameIndex := 255, descriptorIndex := 256, attributes := #[] }, { accessFlags := 2, nameIndex := 39, descriptorIndex := 32, attributes := #[] }, { accessFlags := 18, nameIndex := 24, descriptorIndex := 25, attributes := #[] }, { accessFlags := 2, nameIndex := 31, descriptorIndex := 32, attributes := #[] }])
  fields := #[{ name := "ENDS_INSIDE_SUBSET", type := (.object "java/lang/String"), accessFlags := 24, slot := 0, constantValue := 0 }, { name := "ENDS_INSIDE_DOCTYPE", type := (.object "java/lang/String"), accessFlags := 24, slot := 1, constantValue := 0 }, { name := "CHARACTER_REFERENCE", type := (.object "java/lang/String"), accessFlags := 26, slot := 2, constantValue := 0 }, { name := "ENTITY_REFERENCE", type := (.object "java/lang/String"), accessFlags := 26, slot := 3, constantValue := 0 }, { name := "LONGEST_PART", type := .int, accessFlags := 24, slot := 4, constantValue := 0 }, { name := "TOO_LONG", type := (.object "java/lang/String"), accessFlags := 26, slot := 5, constantValue := 0 }, { name := "LOOKAHEAD_CHARS", type := .int, accessFlags := 26, slot := 6, constantValue := 0 }, { name := "NAMES_KEPT", type := .int, accessFlags := 26, slot := 7, constantValue := 0 }, { name := "VALUE_ROOM_KEPT", type := .int, accessFlags := 26, slot := 8, constantValue := 0 }, { name := "in", type := (.object "java/io/Reader"), accessFlags := 18, slot := 0, constantValue := 0 }, { name := "lookahead", type := (.array .char), accessFlags := 18, slot := 1, constantValue := 0 }, { name := "start", type := .int, accessFlags := 2, slot := 2, constantValue := 0 }, { name := "end", type := .int, accessFlags := 2, slot := 3, constantValue := 0 }, { name := "endOfInput", type := .boolean, accessFlags := 2, slot := 4, constantValue := 0 }, { name := "place", type := (.object "com/example/yarkon/yarkon/document/TextPlace"), accessFlags := 18, slot := 5, constantValue := 0 }, { name := "previous", type := .char, accessFlags := 2, slot := 6, constantValue := 0 }, { name := "recording", type := (.object "java/lang/StringBuilder"), accessFlags := 2, slot := 7, constantValue := 0 }, { name := "names", type := (.array (.object "java/lang/String")), accessFlags := 18, slot := 8, constantValue := 0 }, { name := "value", type := (.object "java/lang/StringBuilder"), accessFlags := 2, slot := 9, constantValue := 0 }]
  methods := #[k2m0]
  instanceTypes := #[(.object "java/io/Reader"), (.array .char), .int, .int, .boolean, (.object "com/example/yarkon/yarkon/document/TextPlace"), .char, (.object "java/lang/StringBuilder"), (.array (.object "java/lang/String")), (.object "java/lang/StringBuilder")]
  staticTypes := #[(.object "java/lang/String"), (.object "java/lang/String"), (.object "java/lang/String"), (.object "java/lang/String"), .int, (.object "java/lang/String"), .int, .int, .int]
  resolved := Array.replicate 366 none
  statics := none }

def pool3 : Array CpInfo := pool [(1, u "java/lang/Cloneable"), (0, .class_ 1), (0, u "java/lang/Object"), (0, .class_ 3)] 3

/-- java/lang/Cloneable -/
def k3 : Class := { plain "java/lang/Cloneable" (some 0) with
  accessFlags := 1537
  interfaces := #[]
  cf := some (fileOf pool3 2 #[] #[] 1537 4 #[] #[])
  fields := #[]
  methods := #[]
  instanceTypes := #[]
  staticTypes := #[]
  resolved := Array.replicate 8 none
  statics := none }

def pool4 : Array CpInfo := pool [(1, u "java/io/Serializable"), (0, .class_ 1), (0, u "java/lang/Object"), (0, .class_ 3)] 3

/-- java/io/Serializable -/
def k4 : Class := { plain "java/io/Serializable" (some 0) with
  accessFlags := 1537
  interfaces := #[]
  cf := some (fileOf pool4 2 #[] #[] 1537 4 #[] #[])
  fields := #[]
  methods := #[]
  instanceTypes := #[]
  staticTypes := #[]
  resolved := Array.replicate 8 none
  statics := none }

/-- the primitive byte -/
def k5 : Class := { plain "byte" none with kind := .primitive 'B', accessFlags := 0x411 }
/-- [B -/
def k6 : Class := { plain "[B" (some 0) with kind := .array 5 .byte, interfaces := #[3, 4], accessFlags := 1041 }

/-- the primitive int -/
def k7 : Class := { plain "int" none with kind := .primitive 'I', accessFlags := 0x411 }
/-- [I -/
def k8 : Class := { plain "[I" (some 0) with kind := .array 7 .int, interfaces := #[3, 4], accessFlags := 1041 }

def heap : Heap := #[]
def classes : Array Class := #[k0, k1, k2, k3, k4, k5, k6, k7, k8]
def interned : List (Array UInt16 × Addr) := []
def slotsUsed : Nat := 0
def theMethod : MethodId := ⟨1, 2⟩
def args0 : Array Value := #[.int 65, .int 3, .int 1]
def aboutOver (below : List Frame) : State where
  vm := { classes := classes, interned := interned.toArray }
  heap := heap
  slotsUsed := slotsUsed
  threads := #[{ frames := .invoking theMethod args0 :: below }]
def below0 : List Frame := [.native { method := ⟨0, 0⟩, args := #[] }]
def about1 : State := aboutOver below0
def p0 : Program := .bare "" "" ""
def e0 : Env := launch0.env 0 0 0
theorem w_frames : about1.frames = Frame.invoking theMethod args0 :: below0 := rfl
set_option maxRecDepth 65536 in
theorem w_args : argsFit about1.vm theMethod args0 = true := by decide +kernel
set_option maxRecDepth 65536 in
theorem w_heap : heapFits about1 = true := by decide +kernel
set_option maxRecDepth 65536 in
theorem w_runnable : about1.curStatus? = some .runnable := by decide +kernel
set_option maxRecDepth 65536 in
theorem w_alone : about1.alone = true := by decide +kernel
set_option maxRecDepth 65536 in
theorem w_named : about1.methodNamed? x = some theMethod := by decide +kernel
set_option maxRecDepth 65536 in
theorem w_hears : about1.hears theMethod below0 = true := by decide +kernel
set_option maxRecDepth 65536 in
theorem w_ripe : about1.ripe theMethod args0 below0 = true := by decide +kernel
theorem w_running : about1.status = .running := rfl
set_option maxRecDepth 65536 in
theorem w_room : about1.hasRoom e0.platform room_1 = true :=
  launch0.hasRoom_least _ room_1 (by decide +kernel) (by decide +kernel) (by decide +kernel) (by decide +kernel) (by decide +kernel) (by decide +kernel)
theorem allAtoms_all (ts : List Jvm.Cond) (a : Array Jvm.Value) (st : Jvm.State) : (allAtoms ts).before a st = ts.all (fun c => c.before a st) := by
  induction ts with
  | nil => rfl
  | cons c t ih =>
    show (Jvm.Cond.and c (allAtoms t)).before a st = _
    rw [Jvm.Cond.before_and, ih, List.all_cons]
def words1 : List Jvm.Cond := Jvm.Cond.code x code maxLocals ret :: tables_1
/-- a 'code' word, met by the world's own term for the bytes: nothing is compared byte by byte -/
theorem code_word {y : MethodName} {bytes : ByteArray} {mx : Nat} {rt : Option FieldType} {a : Array Value} {s : State} {m : MethodId} {meth : Method} {c : Code} (h1 : s.methodNamed? y = some m) (h2 : s.vm.method? m = some meth) (h3 : meth.code = some c) (h4 : c.code = bytes)
    (h5 : (c.maxLocals == mx && c.exceptionTable.isEmpty && decide (c.maxStack ≤ mostOperands) && decide (meth.sig.returnType = rt) && !meth.locks && decide (parseMethodDescriptor y.desc = some meth.sig)) = true) : (Jvm.Cond.code y bytes mx rt).before a s = true := by
  simp only [Bool.and_eq_true, beq_iff_eq, Bool.not_eq_true', decide_eq_true_eq] at h5
  obtain ⟨⟨⟨⟨⟨g1, g2⟩, g3⟩, g4⟩, g5⟩, g6⟩ := h5
  simp [Cond.before, Cond.holds, Cond.value, h1, h2, h3, h4, g1, g2, g3, g4, g5, g6]
def isCode : Jvm.Cond → Bool
  | .code _ _ _ _ => true
  | _ => false
theorem all_split {L : List Jvm.Cond} {P : Jvm.Cond → Bool} (h1 : L.all (fun c => isCode c || P c) = true) (h2 : ∀ c ∈ L.filter isCode, P c = true) : L.all P = true := by
  refine List.all_eq_true.mpr fun c hc => ?_
  have h := List.all_eq_true.mp h1 c hc
  rcases Bool.eq_false_or_eq_true (isCode c) with hi | hi
  · exact h2 c (List.mem_filter.mpr ⟨hc, hi⟩)
  · simpa [hi] using h
set_option maxRecDepth 65536 in
theorem w_c0 : (Jvm.Cond.code x code maxLocals ret).before args0 about1 = true := code_word (m := ⟨1, 2⟩) (meth := k1m2) (c := k1c2) (by decide +kernel) rfl rfl rfl (by decide +kernel)
set_option maxRecDepth 65536 in
theorem w_c1 : (Jvm.Cond.code ({ cls := "com/example/yarkon/yarkon/document/DocumentCharacters", name := "isNameStartChar", desc := "(I)Z" } : Jvm.MethodName) prog_24_method_34_code (1 : Nat) (Option.some Jvm.ClassFile.FieldType.boolean)).before args0 about1 = true := code_word (m := ⟨2, 0⟩) (meth := k2m0) (c := k2c0) (by decide +kernel) rfl rfl rfl (by decide +kernel)
set_option maxRecDepth 65536 in
theorem w_c2 : (Jvm.Cond.code ({ cls := "com/example/yarkon/yarkon/document/DocumentCharactersIsNameStartCharPinLaw", name := "reference", desc := "(I)Z" } : Jvm.MethodName) method_2_code (1 : Nat) (Option.some Jvm.ClassFile.FieldType.boolean)).before args0 about1 = true := code_word (m := ⟨1, 1⟩) (meth := k1m1) (c := k1c1) (by decide +kernel) rfl rfl rfl (by decide +kernel)
def codes1 : List Jvm.Cond := [Jvm.Cond.code x code maxLocals ret, Jvm.Cond.code ({ cls := "com/example/yarkon/yarkon/document/DocumentCharacters", name := "isNameStartChar", desc := "(I)Z" } : Jvm.MethodName) prog_24_method_34_code (1 : Nat) (Option.some Jvm.ClassFile.FieldType.boolean), Jvm.Cond.code ({ cls := "com/example/yarkon/yarkon/document/DocumentCharactersIsNameStartCharPinLaw", name := "reference", desc := "(I)Z" } : Jvm.MethodName) method_2_code (1 : Nat) (Option.some Jvm.ClassFile.FieldType.boolean)]
set_option maxRecDepth 65536 in
theorem codes_eq : words1.filter isCode = codes1 := rfl
theorem w_codes : ∀ c ∈ words1.filter isCode, c.before args0 about1 = true := by
  rw [codes_eq]
  intro c hc
  simp only [codes1, List.mem_cons, List.not_mem_nil, or_false] at hc
  rcases hc with rfl | rfl | rfl
  · exact w_c0
  · exact w_c1
  · exact w_c2
set_option maxRecDepth 65536 in
theorem w_t1 : (words1.take 24).all (fun c => isCode c || c.before args0 about1) = true := by decide +kernel
set_option maxRecDepth 65536 in
theorem w_t2 : (words1.drop 24).all (fun c => isCode c || c.before args0 about1) = true := by decide +kernel
theorem w_tables : (allAtoms (Jvm.Cond.code x code maxLocals ret :: tables_1)).before args0 about1 = true := by
  rw [allAtoms_all]
  show words1.all (fun c => c.before args0 about1) = true
  refine all_split ?_ w_codes
  rw [← List.take_append_drop 24 words1, List.all_append, w_t1, w_t2]
  rfl
set_option maxRecDepth 65536 in
theorem w_case : (Jvm.Cond.and given_1 narrow_1).before args0 about1 = true := by decide +kernel
theorem w_applies : (headSpec (Jvm.Cond.code x code maxLocals ret :: tables_1) room_1).applies x e0.platform about1 = true :=
  (Spec.applies_iff w_frames).mpr ⟨w_running, w_runnable, w_alone, w_named, w_hears, w_ripe, w_room, w_tables⟩
theorem atStart : AtStart classFile x code maxLocals ret World_1 tables_1 room_1 Calls_1 rest_1 Pre_1 launch0 p0 e0 about1 theMethod args0 below0 :=
  ⟨lists_1, trivial, launch0.admits_env _ _ _, launch0.least_env, fairChoices_fair.cas, fairChoices_fair.clock, w_frames, w_args, w_heap, w_applies, trivial, trivial, w_case⟩
end start1
theorem witness_1 : WitnessClaimed_1 := ⟨start1.p0, start1.e0, start1.about1, start1.theMethod, start1.args0, start1.below0, start1.atStart⟩
end Jvm.Pilot.@@N@@
