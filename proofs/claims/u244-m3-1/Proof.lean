import JvmDerived
import JvmDerived.Pilot.@@N@@Statement
import JvmDerived.Pilot.@@N@@Code
set_option linter.unusedVariables false
set_option linter.unusedSimpArgs false
namespace Jvm.RoadKit
open Sem ClassFile Op Lib Jvm.Stand Jvm.Free Jvm.LawKit
section New
variable {p : Program} {l : Launch} {e : Env} {R : Room} {s : State} {m : MethodId} {args : Array Value} {below : List Frame} {meth : Method} {c : Code} {T : State} {locs : List Loc} {cells slots : Nat}
theorem retI (X : Stand p l e R s m args below meth c T locs cells slots) (hx : p.tables.exec = Jvm.exec) {pc : Nat} {Ls : Array Slot} {z : Int32} {rest : List Value} (hret : meth.sig.returnType = some .int) (hd : decode c.code pc = .ok (.ireturn, 1)) {fs : List Frame}
    (hl : ∀ (f : JFrame) (acts : List Action), f.method = m → f.locked = none → f.entered = [] → (doReturn e (T.setTop f) acts (some (.int z))).1 = T.setFrames fs) : Steps p.tables e below (T.setTop (mkF m pc Ls (.int z :: rest))) (T.setFrames fs) := by
  have hm' : T.vm.method? m = some meth := X.method'
  have hn : narrow .int (.int z) = .int z := rfl
  show Steps p.tables e below (T.setTop { method := m, pc := pc, locals := Ls, stack := _ :: rest, locked := none }) _
  jvm_step X.here [X.here.top, hx, hd, hm', hret, hn]
  first | (intro acts; rw [hl _ acts rfl rfl rfl]) | rw [hl _ _ rfl rfl rfl]
  exact Steps.refl _
end New
end Jvm.RoadKit
namespace Jvm.Pilot.@@N@@
open Jvm Jvm.ClassFile Sem Op Lib Jvm.Free Jvm.Stand Jvm.LawKit Jvm.RoadKit Bundle Jvm.Pilot.@@N@@.Jvm.D
def own_Ar (Z : State) (h : Heap) (a : Addr) (ty : FieldType) (n : Nat) (f : Nat → Value) : Prop := ∃ c : Cell, Arr Z h a c ty ∧ c.slots.size = n ∧ ∀ i, i < n → c.slots[i]? = some (f i)
def own_upd (f : Nat → Value) (k : Nat) (v : Value) : Nat → Value := fun i => if i = k then v else f i
section OwnArr
variable {Z : State} {h h' : Heap} {a b : Addr} {ty : FieldType} {n : Nat} {f g : Nat → Value} {v : Value} {sl : Nat} {ws : List Addr}
theorem own_slots (c : Cell) (i : Nat) (v : Value) : (c.setSlot i v).slots = c.slots.setIfInBounds i v := rfl
theorem own_Ar.lt (F : own_Ar Z h a ty n f) : a < h.size := by obtain ⟨c, A, -⟩ := F; exact A.lt
theorem own_Ar.ext (F : own_Ar Z h a ty n f) (E : Ext h h') : own_Ar Z h' a ty n f := by obtain ⟨c, A, r⟩ := F; exact ⟨c, A.ext E, r⟩
theorem own_Ar.other (F : own_Ar Z h b ty n f) (W : Wr h h' a sl v) (q : b ≠ a) : own_Ar Z h' b ty n f := by obtain ⟨c, A, r⟩ := F; exact ⟨c, A.other W q, r⟩
theorem own_Ar.keep (F : own_Ar Z h a ty n f) (K : Keep h h' ws) (q : a ∉ ws) : own_Ar Z h' a ty n f := by obtain ⟨c, A, r⟩ := F; exact ⟨c, ⟨K.2.1 a c A.1 q, A.2⟩, r⟩
theorem own_Ar.set (F : own_Ar Z h a ty n f) (W : Wr h h' a sl v) : own_Ar Z h' a ty n (own_upd f sl v) := by
  obtain ⟨c, A, S, H⟩ := F
  refine ⟨_, A.same W, by rw [sz_set]; exact S, fun i hi => ?_⟩
  rw [own_slots]
  by_cases q : i = sl
  · subst q
    rw [Array.getElem?_setIfInBounds_self_of_lt (by rw [S]; exact hi)]
    exact congrArg some (if_pos rfl).symm
  · rw [Array.getElem?_setIfInBounds_ne (Ne.symm q), H i hi]
    exact congrArg some (if_neg q).symm
theorem own_Ar.congr (F : own_Ar Z h a ty n f) (q : ∀ i, i < n → f i = g i) : own_Ar Z h a ty n g := by
  obtain ⟨c, A, S, H⟩ := F; exact ⟨c, A, S, fun i hi => by rw [H i hi, q i hi]⟩
theorem own_Ar.new {k : ClassId} {z : Int32} (A : Arr Z h a (newA k ty z) ty) (q : ¬ z < 0) : own_Ar Z h a ty z.toNatClampNeg (fun _ => defaultValue ty) := by
  obtain ⟨c, A, -, S, -, H, -⟩ := Arv.new A q
  exact ⟨c, A, S, fun i hi => H i (by rw [S]; exact hi)⟩
theorem own_ld {c : Cell} (S : c.slots.size = n) (H : ∀ i, i < n → c.slots[i]? = some (f i)) {j : Int32} {i : Nat} (hj : ¬ j < 0) (hji : j.toNatClampNeg = i) (hi : i < n) {v : Value} (hv : f i = v) : ¬ (j < 0 ∨ c.slots.size ≤ j.toNatClampNeg) ∧ c.slots[j.toNatClampNeg]? = some v :=
  ⟨by rw [S, hji]; intro q; rcases q with q | q
      · exact hj q
      · omega, by rw [hji, H i hi, hv]⟩
theorem own_wk {g : Nat → Int32} {x : Int32} (F : own_Ar Z h a .int n (fun i => .int (g i))) (W : Wr h h' a sl (.int x)) : ∃ g' : Nat → Int32, own_Ar Z h' a .int n (fun i => .int (g' i)) :=
  ⟨fun i => if i = sl then x else g i, (F.set W).congr fun i _ => by
    by_cases q : i = sl
    · exact (if_pos q).trans (congrArg Value.int (if_pos q).symm)
    · exact (if_neg q).trans (congrArg Value.int (if_neg q).symm)⟩
end OwnArr
theorem own_rem (x y : Int32) (d : Int) (hy : y.toInt = d) (hd : 0 < d) (hx : 0 ≤ x.toInt) : (x - (x / y) * y).toInt = x.toInt % d := by
  have hn : y ≠ -1 := fun q => by
    rw [q] at hy
    have : (-1 : Int32).toInt = -1 := rfl
    omega
  have q := (c_idiv x y d hy hn).1 hx
  have m := c_imul (x / y) y
  have r := rng32 ((x / y) * y)
  have t := c_isub x ((x / y) * y)
  have u := rng32 (x - (x / y) * y)
  have v := rng32 x
  rw [q, hy] at m
  have e := Int.mul_ediv_add_emod x.toInt d
  have e1 := Int.emod_nonneg x.toInt (show d ≠ 0 by omega)
  have e2 := Int.emod_lt_of_pos x.toInt hd
  have e3 : 0 ≤ d * (x.toInt / d) := Int.mul_nonneg (by omega) (Int.ediv_nonneg hx (by omega))
  rw [Int.mul_comm] at m
  generalize d * (x.toInt / d) = P at *
  omega
theorem own_nn (x : Int32) : 0 ≤ (x &&& (2147483647 : Int32)).toInt := (c_and x 2147483647 (by decide)).1
theorem own_nat {j : Int32} (h : 0 ≤ j.toInt) : ¬ j < 0 ∧ j.toNatClampNeg = j.toInt.toNat := ⟨fun q => by
  rw [Int32.lt_iff_toInt_lt] at q
  have : (0 : Int32).toInt = 0 := rfl
  omega, rfl⟩
theorem ef_rmF (m : MethodId) (x0 : Int32) : entryFrame m #[(.int x0)] 1 = mkF m 0 #[.val (.int x0)] [] := by first | (simp [entryFrame, mkF, argsToLocals, Value.category]; done) | rfl
theorem pn_com_example_yarkon_yarkon_document_DocumentCharacters : plainName "com/example/yarkon/yarkon/document/DocumentCharacters" = true := by first | (simp [plainName, overriddenIn]; done) | decide +kernel
theorem d1_0 : decode prog_24_method_32_code 0 = .ok (.iload_n 0, 1) := by decide +kernel
theorem d1_1 : decode prog_24_method_32_code 1 = .ok (.bipush 9, 2) := by decide +kernel
theorem d1_3 : decode prog_24_method_32_code 3 = .ok (.if_icmp .eq 56, 3) := by decide +kernel
theorem d1_6 : decode prog_24_method_32_code 6 = .ok (.iload_n 0, 1) := by decide +kernel
theorem d1_7 : decode prog_24_method_32_code 7 = .ok (.bipush 10, 2) := by decide +kernel
theorem d1_9 : decode prog_24_method_32_code 9 = .ok (.if_icmp .eq 50, 3) := by decide +kernel
theorem d1_12 : decode prog_24_method_32_code 12 = .ok (.iload_n 0, 1) := by decide +kernel
theorem d1_13 : decode prog_24_method_32_code 13 = .ok (.bipush 13, 2) := by decide +kernel
theorem d1_15 : decode prog_24_method_32_code 15 = .ok (.if_icmp .eq 44, 3) := by decide +kernel
theorem d1_18 : decode prog_24_method_32_code 18 = .ok (.iload_n 0, 1) := by decide +kernel
theorem d1_19 : decode prog_24_method_32_code 19 = .ok (.bipush 32, 2) := by decide +kernel
theorem d1_21 : decode prog_24_method_32_code 21 = .ok (.if_icmp .lt 10, 3) := by decide +kernel
theorem d1_24 : decode prog_24_method_32_code 24 = .ok (.iload_n 0, 1) := by decide +kernel
theorem d1_25 : decode prog_24_method_32_code 25 = .ok (.ldc_w 314, 3) := by decide +kernel
theorem d1_28 : decode prog_24_method_32_code 28 = .ok (.if_icmp .le 31, 3) := by decide +kernel
theorem d1_59 : decode prog_24_method_32_code 59 = .ok (.iconst 1, 1) := by decide +kernel
theorem d1_60 : decode prog_24_method_32_code 60 = .ok (.goto 4, 3) := by decide +kernel
theorem d1_31 : decode prog_24_method_32_code 31 = .ok (.iload_n 0, 1) := by decide +kernel
theorem d1_32 : decode prog_24_method_32_code 32 = .ok (.ldc_w 315, 3) := by decide +kernel
theorem d1_35 : decode prog_24_method_32_code 35 = .ok (.if_icmp .lt 10, 3) := by decide +kernel
theorem d1_38 : decode prog_24_method_32_code 38 = .ok (.iload_n 0, 1) := by decide +kernel
theorem d1_39 : decode prog_24_method_32_code 39 = .ok (.ldc_w 316, 3) := by decide +kernel
theorem d1_42 : decode prog_24_method_32_code 42 = .ok (.if_icmp .le 17, 3) := by decide +kernel
theorem d1_45 : decode prog_24_method_32_code 45 = .ok (.iload_n 0, 1) := by decide +kernel
theorem d1_46 : decode prog_24_method_32_code 46 = .ok (.ldc_w 317, 3) := by decide +kernel
theorem d1_49 : decode prog_24_method_32_code 49 = .ok (.if_icmp .lt 14, 3) := by decide +kernel
theorem d1_52 : decode prog_24_method_32_code 52 = .ok (.iload_n 0, 1) := by decide +kernel
theorem d1_53 : decode prog_24_method_32_code 53 = .ok (.ldc_w 318, 3) := by decide +kernel
theorem d1_56 : decode prog_24_method_32_code 56 = .ok (.if_icmp .gt 7, 3) := by decide +kernel
theorem d1_63 : decode prog_24_method_32_code 63 = .ok (.iconst 0, 1) := by decide +kernel
def own_f63 (p1 : Int32) : Int32 := (0 : Int32)
def own_f59 (p1 : Int32) : Int32 := (1 : Int32)
def own_f52 (p1 : Int32) : Int32 := if (1114111 : Int32) < p1 then own_f63 p1 else own_f59 p1
def own_f45 (p1 : Int32) : Int32 := if p1 < (65536 : Int32) then own_f63 p1 else own_f52 p1
def own_f38 (p1 : Int32) : Int32 := if (65533 : Int32) < p1 then own_f45 p1 else own_f59 p1
def own_f31 (p1 : Int32) : Int32 := if p1 < (57344 : Int32) then own_f45 p1 else own_f38 p1
def own_f24 (p1 : Int32) : Int32 := if (55295 : Int32) < p1 then own_f31 p1 else own_f59 p1
def own_f18 (p1 : Int32) : Int32 := if p1 < (32 : Int32) then own_f31 p1 else own_f24 p1
def own_f12 (p1 : Int32) : Int32 := if p1 = (13 : Int32) then own_f59 p1 else own_f18 p1
def own_f6 (p1 : Int32) : Int32 := if p1 = (10 : Int32) then own_f59 p1 else own_f12 p1
def own_f0 (p1 : Int32) : Int32 := if p1 = (9 : Int32) then own_f59 p1 else own_f6 p1
theorem d1_64 : decode prog_24_method_32_code 64 = .ok (.ireturn, 1) := by decide +kernel
def Q_rmF (Z : State) (p1 : Int32) (h0 : Heap) (n0 : Nat) (v : Option Value) (h : Heap) (L : List Loc) : Prop := v = some (.int (own_f0 p1)) ∧ Fr n0 L ∧ h = h0
set_option maxRecDepth 65536 in
set_option maxHeartbeats 40000000 in
theorem rmF (l : Launch) (Z : State) (a0 : Array Value) (hw : ∀ d ∈ tables_1, d.before a0 Z = true) (ws : List Jvm.Cond) (p1 : Int32) (h0 : Heap) (n0 : Nat) (Z0 : n0 ≤ h0.size) :
    MetFree l (⟨"com/example/yarkon/yarkon/document/DocumentCharacters", "isChar", "(I)Z"⟩ : MethodName) (head1 (Jvm.Cond.code (⟨"com/example/yarkon/yarkon/document/DocumentCharacters", "isChar", "(I)Z"⟩ : MethodName) prog_24_method_32_code 1 (some .boolean) :: ws) ({ frames := 0, cells := 0, slots := 0, locals := 0 } : Room)) (fun a U => a = #[(.int p1)] ∧ Z.Warmed39 U.vm ∧ U.heap = h0) (fun _ _ _ _ _ => True) (fun _ U o U' => ∃ v L, o = .returned v ∧ Q_rmF Z p1 h0 n0 v U'.heap L ∧ FrameEnd U o U' L ({ frames := 0, cells := 0, slots := 0, locals := 0 } : Room).cells ({ frames := 0, cells := 0, slots := 0, locals := 0 } : Room).slots) := by
  refine MetFree.of_bodySF (plainFor_of_name pn_com_example_yarkon_yarkon_document_DocumentCharacters) hisR ?_
  intro p e s m args below meth c s₁ Bd hml0 hP hK
  obtain ⟨rfl, hZ, hh⟩ := hP
  have hx := Bd.exec
  have hby := Bd.bytes
  have hml : c.maxLocals = 1 := hml0
  have hown : s.vm.findClass "com/example/yarkon/yarkon/document/DocumentCharacters" = some m.cls := findClass_of_methodNamed Bd.named
  have hnm := (name_of_methodNamed Bd.named Bd.method).1
  have X0 : Stand p l e ({ frames := 0, cells := 0, slots := 0, locals := 0 } : Room) s m #[(.int p1)] below meth c s₁ [] 0 0 := Stand.of_body Bd
  have e0 : s₁.heap = h0 := by rw [← hh, Bd.state]; rfl
  have N0 := Fr.nil n0
  have pre0 : ∀ t, Steps p.tables e below (s₁.setTop (mkF m 0 #[.val (.int p1)] [])) t → Steps p.tables e below (s₁.setTop (entryFrame m #[(.int p1)] 1)) t := fun t k => castTop (ef_rmF m p1) k
  obtain ⟨fs, hr, hrun, hended, hW, hsame⟩ := X0.leave (v := some (.int (own_f0 p1))) (fun h => by rw [Bd.returns] at h; cases h)
  have J63 : (∀ (f : JFrame) (acts : List Action), f.method = m → f.locked = none → f.entered = [] → (doReturn e (s₁.setTop f) acts (some (.int (own_f63 p1)))).1 = s₁.setFrames fs) → Steps p.tables e below (s₁.setTop (mkF m 63 #[.val (.int p1)] [])) (s₁.setFrames fs) := fun hr => by
    show Steps p.tables e below (s₁.setTop (mkF m 63 #[.val (.int p1)] [])) _
    refine XS.iconst X0.here hx rfl (hb hby d1_63) ?_
    show Steps p.tables e below (s₁.setTop (mkF m 64 #[.val (.int p1)] [(.int (0 : Int32))])) _
    have q : own_f63 p1 = nar .boolean (0 : Int32) := (show own_f63 p1 = (0 : Int32) from rfl).trans (by decide)
    rw [q] at hr
    exact retN X0 hx (t := .boolean) Bd.returns (by simp) (hb hby d1_64) hr
  have J59 : (∀ (f : JFrame) (acts : List Action), f.method = m → f.locked = none → f.entered = [] → (doReturn e (s₁.setTop f) acts (some (.int (own_f59 p1)))).1 = s₁.setFrames fs) → Steps p.tables e below (s₁.setTop (mkF m 59 #[.val (.int p1)] [])) (s₁.setFrames fs) := fun hr => by
    show Steps p.tables e below (s₁.setTop (mkF m 59 #[.val (.int p1)] [])) _
    refine XS.iconst X0.here hx rfl (hb hby d1_59) ?_
    show Steps p.tables e below (s₁.setTop (mkF m 60 #[.val (.int p1)] [(.int (1 : Int32))])) _
    refine XS.goto X0.here hx rfl (pc0 := 60) (pc' := 64) rfl (hb hby d1_60) (by decide) (by decide) ?_
    show Steps p.tables e below (s₁.setTop (mkF m 64 #[.val (.int p1)] [(.int (1 : Int32))])) _
    have q : own_f59 p1 = nar .boolean (1 : Int32) := (show own_f59 p1 = (1 : Int32) from rfl).trans (by decide)
    rw [q] at hr
    exact retN X0 hx (t := .boolean) Bd.returns (by simp) (hb hby d1_64) hr
  have J52 : (∀ (f : JFrame) (acts : List Action), f.method = m → f.locked = none → f.entered = [] → (doReturn e (s₁.setTop f) acts (some (.int (own_f52 p1)))).1 = s₁.setFrames fs) → Steps p.tables e below (s₁.setTop (mkF m 52 #[.val (.int p1)] [])) (s₁.setFrames fs) := fun hr => by
    show Steps p.tables e below (s₁.setTop (mkF m 52 #[.val (.int p1)] [])) _
    refine XS.iloadN X0.here hx rfl (hb hby d1_52) rfl ?_
    show Steps p.tables e below (s₁.setTop (mkF m 53 #[.val (.int p1)] [(.int p1)])) _
    refine X0.ldcWI hx hown (mvT hZ (hw _ (List.mem_of_getElem? (i := 24) rfl))) rfl (hb hby d1_53) ?_
    by_cases hb52 : (1114111 : Int32) < p1
    · show Steps p.tables e below (s₁.setTop (mkF m 56 #[.val (.int p1)] [(.int (1114111 : Int32)), (.int p1)])) _
      refine XS.icmpYes X0.here hx rfl (pc0 := 56) (pc' := 63) rfl (hb hby d1_56) rfl (tlt hb52).2.2.1 (by decide) (by decide) ?_
      exact J63 (by rw [show own_f52 p1 = own_f63 p1 from if_pos hb52] at hr; exact hr)
    · show Steps p.tables e below (s₁.setTop (mkF m 56 #[.val (.int p1)] [(.int (1114111 : Int32)), (.int p1)])) _
      refine XS.icmpNo X0.here hx rfl (hb hby d1_56) rfl (flt hb52).2.2.1 ?_
      exact J59 (by rw [show own_f52 p1 = own_f59 p1 from if_neg hb52] at hr; exact hr)
  have J45 : (∀ (f : JFrame) (acts : List Action), f.method = m → f.locked = none → f.entered = [] → (doReturn e (s₁.setTop f) acts (some (.int (own_f45 p1)))).1 = s₁.setFrames fs) → Steps p.tables e below (s₁.setTop (mkF m 45 #[.val (.int p1)] [])) (s₁.setFrames fs) := fun hr => by
    show Steps p.tables e below (s₁.setTop (mkF m 45 #[.val (.int p1)] [])) _
    refine XS.iloadN X0.here hx rfl (hb hby d1_45) rfl ?_
    show Steps p.tables e below (s₁.setTop (mkF m 46 #[.val (.int p1)] [(.int p1)])) _
    refine X0.ldcWI hx hown (mvT hZ (hw _ (List.mem_of_getElem? (i := 17) rfl))) rfl (hb hby d1_46) ?_
    by_cases hb45 : p1 < (65536 : Int32)
    · show Steps p.tables e below (s₁.setTop (mkF m 49 #[.val (.int p1)] [(.int (65536 : Int32)), (.int p1)])) _
      refine XS.icmpYes X0.here hx rfl (pc0 := 49) (pc' := 63) rfl (hb hby d1_49) rfl (tlt hb45).1 (by decide) (by decide) ?_
      exact J63 (by rw [show own_f45 p1 = own_f63 p1 from if_pos hb45] at hr; exact hr)
    · show Steps p.tables e below (s₁.setTop (mkF m 49 #[.val (.int p1)] [(.int (65536 : Int32)), (.int p1)])) _
      refine XS.icmpNo X0.here hx rfl (hb hby d1_49) rfl (flt hb45).1 ?_
      exact J52 (by rw [show own_f45 p1 = own_f52 p1 from if_neg hb45] at hr; exact hr)
  have J38 : (∀ (f : JFrame) (acts : List Action), f.method = m → f.locked = none → f.entered = [] → (doReturn e (s₁.setTop f) acts (some (.int (own_f38 p1)))).1 = s₁.setFrames fs) → Steps p.tables e below (s₁.setTop (mkF m 38 #[.val (.int p1)] [])) (s₁.setFrames fs) := fun hr => by
    show Steps p.tables e below (s₁.setTop (mkF m 38 #[.val (.int p1)] [])) _
    refine XS.iloadN X0.here hx rfl (hb hby d1_38) rfl ?_
    show Steps p.tables e below (s₁.setTop (mkF m 39 #[.val (.int p1)] [(.int p1)])) _
    refine X0.ldcWI hx hown (mvT hZ (hw _ (List.mem_of_getElem? (i := 23) rfl))) rfl (hb hby d1_39) ?_
    by_cases hb38 : (65533 : Int32) < p1
    · show Steps p.tables e below (s₁.setTop (mkF m 42 #[.val (.int p1)] [(.int (65533 : Int32)), (.int p1)])) _
      refine XS.icmpNo X0.here hx rfl (hb hby d1_42) rfl (tlt hb38).2.2.2 ?_
      exact J45 (by rw [show own_f38 p1 = own_f45 p1 from if_pos hb38] at hr; exact hr)
    · show Steps p.tables e below (s₁.setTop (mkF m 42 #[.val (.int p1)] [(.int (65533 : Int32)), (.int p1)])) _
      refine XS.icmpYes X0.here hx rfl (pc0 := 42) (pc' := 59) rfl (hb hby d1_42) rfl (flt hb38).2.2.2 (by decide) (by decide) ?_
      exact J59 (by rw [show own_f38 p1 = own_f59 p1 from if_neg hb38] at hr; exact hr)
  have J31 : (∀ (f : JFrame) (acts : List Action), f.method = m → f.locked = none → f.entered = [] → (doReturn e (s₁.setTop f) acts (some (.int (own_f31 p1)))).1 = s₁.setFrames fs) → Steps p.tables e below (s₁.setTop (mkF m 31 #[.val (.int p1)] [])) (s₁.setFrames fs) := fun hr => by
    show Steps p.tables e below (s₁.setTop (mkF m 31 #[.val (.int p1)] [])) _
    refine XS.iloadN X0.here hx rfl (hb hby d1_31) rfl ?_
    show Steps p.tables e below (s₁.setTop (mkF m 32 #[.val (.int p1)] [(.int p1)])) _
    refine X0.ldcWI hx hown (mvT hZ (hw _ (List.mem_of_getElem? (i := 16) rfl))) rfl (hb hby d1_32) ?_
    by_cases hb31 : p1 < (57344 : Int32)
    · show Steps p.tables e below (s₁.setTop (mkF m 35 #[.val (.int p1)] [(.int (57344 : Int32)), (.int p1)])) _
      refine XS.icmpYes X0.here hx rfl (pc0 := 35) (pc' := 45) rfl (hb hby d1_35) rfl (tlt hb31).1 (by decide) (by decide) ?_
      exact J45 (by rw [show own_f31 p1 = own_f45 p1 from if_pos hb31] at hr; exact hr)
    · show Steps p.tables e below (s₁.setTop (mkF m 35 #[.val (.int p1)] [(.int (57344 : Int32)), (.int p1)])) _
      refine XS.icmpNo X0.here hx rfl (hb hby d1_35) rfl (flt hb31).1 ?_
      exact J38 (by rw [show own_f31 p1 = own_f38 p1 from if_neg hb31] at hr; exact hr)
  have J24 : (∀ (f : JFrame) (acts : List Action), f.method = m → f.locked = none → f.entered = [] → (doReturn e (s₁.setTop f) acts (some (.int (own_f24 p1)))).1 = s₁.setFrames fs) → Steps p.tables e below (s₁.setTop (mkF m 24 #[.val (.int p1)] [])) (s₁.setFrames fs) := fun hr => by
    show Steps p.tables e below (s₁.setTop (mkF m 24 #[.val (.int p1)] [])) _
    refine XS.iloadN X0.here hx rfl (hb hby d1_24) rfl ?_
    show Steps p.tables e below (s₁.setTop (mkF m 25 #[.val (.int p1)] [(.int p1)])) _
    refine X0.ldcWI hx hown (mvT hZ (hw _ (List.mem_of_getElem? (i := 22) rfl))) rfl (hb hby d1_25) ?_
    by_cases hb24 : (55295 : Int32) < p1
    · show Steps p.tables e below (s₁.setTop (mkF m 28 #[.val (.int p1)] [(.int (55295 : Int32)), (.int p1)])) _
      refine XS.icmpNo X0.here hx rfl (hb hby d1_28) rfl (tlt hb24).2.2.2 ?_
      exact J31 (by rw [show own_f24 p1 = own_f31 p1 from if_pos hb24] at hr; exact hr)
    · show Steps p.tables e below (s₁.setTop (mkF m 28 #[.val (.int p1)] [(.int (55295 : Int32)), (.int p1)])) _
      refine XS.icmpYes X0.here hx rfl (pc0 := 28) (pc' := 59) rfl (hb hby d1_28) rfl (flt hb24).2.2.2 (by decide) (by decide) ?_
      exact J59 (by rw [show own_f24 p1 = own_f59 p1 from if_neg hb24] at hr; exact hr)
  have J18 : (∀ (f : JFrame) (acts : List Action), f.method = m → f.locked = none → f.entered = [] → (doReturn e (s₁.setTop f) acts (some (.int (own_f18 p1)))).1 = s₁.setFrames fs) → Steps p.tables e below (s₁.setTop (mkF m 18 #[.val (.int p1)] [])) (s₁.setFrames fs) := fun hr => by
    show Steps p.tables e below (s₁.setTop (mkF m 18 #[.val (.int p1)] [])) _
    refine XS.iloadN X0.here hx rfl (hb hby d1_18) rfl ?_
    show Steps p.tables e below (s₁.setTop (mkF m 19 #[.val (.int p1)] [(.int p1)])) _
    refine XS.bipush X0.here hx rfl (hb hby d1_19) ?_
    by_cases hb18 : p1 < (32 : Int32)
    · show Steps p.tables e below (s₁.setTop (mkF m 21 #[.val (.int p1)] [(.int (32 : Int32)), (.int p1)])) _
      refine XS.icmpYes X0.here hx rfl (pc0 := 21) (pc' := 31) rfl (hb hby d1_21) rfl (tlt hb18).1 (by decide) (by decide) ?_
      exact J31 (by rw [show own_f18 p1 = own_f31 p1 from if_pos hb18] at hr; exact hr)
    · show Steps p.tables e below (s₁.setTop (mkF m 21 #[.val (.int p1)] [(.int (32 : Int32)), (.int p1)])) _
      refine XS.icmpNo X0.here hx rfl (hb hby d1_21) rfl (flt hb18).1 ?_
      exact J24 (by rw [show own_f18 p1 = own_f24 p1 from if_neg hb18] at hr; exact hr)
  have J12 : (∀ (f : JFrame) (acts : List Action), f.method = m → f.locked = none → f.entered = [] → (doReturn e (s₁.setTop f) acts (some (.int (own_f12 p1)))).1 = s₁.setFrames fs) → Steps p.tables e below (s₁.setTop (mkF m 12 #[.val (.int p1)] [])) (s₁.setFrames fs) := fun hr => by
    show Steps p.tables e below (s₁.setTop (mkF m 12 #[.val (.int p1)] [])) _
    refine XS.iloadN X0.here hx rfl (hb hby d1_12) rfl ?_
    show Steps p.tables e below (s₁.setTop (mkF m 13 #[.val (.int p1)] [(.int p1)])) _
    refine XS.bipush X0.here hx rfl (hb hby d1_13) ?_
    by_cases hb12 : p1 = (13 : Int32)
    · show Steps p.tables e below (s₁.setTop (mkF m 15 #[.val (.int p1)] [(.int (13 : Int32)), (.int p1)])) _
      refine XS.icmpYes X0.here hx rfl (pc0 := 15) (pc' := 59) rfl (hb hby d1_15) rfl (teq hb12).1 (by decide) (by decide) ?_
      exact J59 (by rw [show own_f12 p1 = own_f59 p1 from if_pos hb12] at hr; exact hr)
    · show Steps p.tables e below (s₁.setTop (mkF m 15 #[.val (.int p1)] [(.int (13 : Int32)), (.int p1)])) _
      refine XS.icmpNo X0.here hx rfl (hb hby d1_15) rfl (feq hb12).1 ?_
      exact J18 (by rw [show own_f12 p1 = own_f18 p1 from if_neg hb12] at hr; exact hr)
  have J6 : (∀ (f : JFrame) (acts : List Action), f.method = m → f.locked = none → f.entered = [] → (doReturn e (s₁.setTop f) acts (some (.int (own_f6 p1)))).1 = s₁.setFrames fs) → Steps p.tables e below (s₁.setTop (mkF m 6 #[.val (.int p1)] [])) (s₁.setFrames fs) := fun hr => by
    show Steps p.tables e below (s₁.setTop (mkF m 6 #[.val (.int p1)] [])) _
    refine XS.iloadN X0.here hx rfl (hb hby d1_6) rfl ?_
    show Steps p.tables e below (s₁.setTop (mkF m 7 #[.val (.int p1)] [(.int p1)])) _
    refine XS.bipush X0.here hx rfl (hb hby d1_7) ?_
    by_cases hb6 : p1 = (10 : Int32)
    · show Steps p.tables e below (s₁.setTop (mkF m 9 #[.val (.int p1)] [(.int (10 : Int32)), (.int p1)])) _
      refine XS.icmpYes X0.here hx rfl (pc0 := 9) (pc' := 59) rfl (hb hby d1_9) rfl (teq hb6).1 (by decide) (by decide) ?_
      exact J59 (by rw [show own_f6 p1 = own_f59 p1 from if_pos hb6] at hr; exact hr)
    · show Steps p.tables e below (s₁.setTop (mkF m 9 #[.val (.int p1)] [(.int (10 : Int32)), (.int p1)])) _
      refine XS.icmpNo X0.here hx rfl (hb hby d1_9) rfl (feq hb6).1 ?_
      exact J12 (by rw [show own_f6 p1 = own_f12 p1 from if_neg hb6] at hr; exact hr)
  have J0 : (∀ (f : JFrame) (acts : List Action), f.method = m → f.locked = none → f.entered = [] → (doReturn e (s₁.setTop f) acts (some (.int (own_f0 p1)))).1 = s₁.setFrames fs) → Steps p.tables e below (s₁.setTop (mkF m 0 #[.val (.int p1)] [])) (s₁.setFrames fs) := fun hr => by
    show Steps p.tables e below (s₁.setTop (mkF m 0 #[.val (.int p1)] [])) _
    refine XS.iloadN X0.here hx rfl (hb hby d1_0) rfl ?_
    show Steps p.tables e below (s₁.setTop (mkF m 1 #[.val (.int p1)] [(.int p1)])) _
    refine XS.bipush X0.here hx rfl (hb hby d1_1) ?_
    by_cases hb0 : p1 = (9 : Int32)
    · show Steps p.tables e below (s₁.setTop (mkF m 3 #[.val (.int p1)] [(.int (9 : Int32)), (.int p1)])) _
      refine XS.icmpYes X0.here hx rfl (pc0 := 3) (pc' := 59) rfl (hb hby d1_3) rfl (teq hb0).1 (by decide) (by decide) ?_
      exact J59 (by rw [show own_f0 p1 = own_f59 p1 from if_pos hb0] at hr; exact hr)
    · show Steps p.tables e below (s₁.setTop (mkF m 3 #[.val (.int p1)] [(.int (9 : Int32)), (.int p1)])) _
      refine XS.icmpNo X0.here hx rfl (hb hby d1_3) rfl (feq hb0).1 ?_
      exact J6 (by rw [show own_f0 p1 = own_f6 p1 from if_neg hb0] at hr; exact hr)
  refine ⟨_, _, pre0 _ ?_, hrun, hended, _, _, rfl, ?_, ⟨_, rfl⟩, hW, hsame.mono (by decide) (by decide)⟩
  · exact J0 hr
  · exact ⟨rfl, N0, e0⟩
theorem ef_rmR (m : MethodId) (x0 : Int32) : entryFrame m #[(.int x0)] 1 = mkF m 0 #[.val (.int x0)] [] := by first | (simp [entryFrame, mkF, argsToLocals, Value.category]; done) | rfl
theorem pn_com_example_yarkon_yarkon_document_DocumentCharactersIsCharPinLaw : plainName "com/example/yarkon/yarkon/document/DocumentCharactersIsCharPinLaw" = true := by first | (simp [plainName, overriddenIn]; done) | decide +kernel
theorem d2_0 : decode method_2_code 0 = .ok (.iload_n 0, 1) := by decide +kernel
theorem d2_1 : decode method_2_code 1 = .ok (.ifCond .lt 9, 3) := by decide +kernel
theorem d2_4 : decode method_2_code 4 = .ok (.iload_n 0, 1) := by decide +kernel
theorem d2_5 : decode method_2_code 5 = .ok (.ldc 7, 2) := by decide +kernel
theorem d2_7 : decode method_2_code 7 = .ok (.if_icmp .le 5, 3) := by decide +kernel
theorem d2_12 : decode method_2_code 12 = .ok (.iload_n 0, 1) := by decide +kernel
theorem d2_13 : decode method_2_code 13 = .ok (.bipush 32, 2) := by decide +kernel
theorem d2_15 : decode method_2_code 15 = .ok (.if_icmp .ge 27, 3) := by decide +kernel
theorem d2_42 : decode method_2_code 42 = .ok (.iload_n 0, 1) := by decide +kernel
theorem d2_43 : decode method_2_code 43 = .ok (.ldc 8, 2) := by decide +kernel
theorem d2_45 : decode method_2_code 45 = .ok (.if_icmp .lt 11, 3) := by decide +kernel
theorem d2_48 : decode method_2_code 48 = .ok (.iload_n 0, 1) := by decide +kernel
theorem d2_49 : decode method_2_code 49 = .ok (.ldc 9, 2) := by decide +kernel
theorem d2_51 : decode method_2_code 51 = .ok (.if_icmp .gt 5, 3) := by decide +kernel
theorem d2_54 : decode method_2_code 54 = .ok (.iconst 0, 1) := by decide +kernel
theorem d2_56 : decode method_2_code 56 = .ok (.iload_n 0, 1) := by decide +kernel
theorem d2_57 : decode method_2_code 57 = .ok (.ldc 10, 2) := by decide +kernel
theorem d2_59 : decode method_2_code 59 = .ok (.if_icmp .eq 9, 3) := by decide +kernel
theorem d2_62 : decode method_2_code 62 = .ok (.iload_n 0, 1) := by decide +kernel
theorem d2_63 : decode method_2_code 63 = .ok (.ldc 11, 2) := by decide +kernel
theorem d2_65 : decode method_2_code 65 = .ok (.if_icmp .ne 5, 3) := by decide +kernel
theorem d2_70 : decode method_2_code 70 = .ok (.iconst 1, 1) := by decide +kernel
theorem d2_68 : decode method_2_code 68 = .ok (.iconst 0, 1) := by decide +kernel
theorem d2_18 : decode method_2_code 18 = .ok (.iload_n 0, 1) := by decide +kernel
theorem d2_19 : decode method_2_code 19 = .ok (.bipush 9, 2) := by decide +kernel
theorem d2_21 : decode method_2_code 21 = .ok (.if_icmp .eq 15, 3) := by decide +kernel
theorem d2_24 : decode method_2_code 24 = .ok (.iload_n 0, 1) := by decide +kernel
theorem d2_25 : decode method_2_code 25 = .ok (.bipush 10, 2) := by decide +kernel
theorem d2_27 : decode method_2_code 27 = .ok (.if_icmp .eq 9, 3) := by decide +kernel
theorem d2_30 : decode method_2_code 30 = .ok (.iload_n 0, 1) := by decide +kernel
theorem d2_31 : decode method_2_code 31 = .ok (.bipush 13, 2) := by decide +kernel
theorem d2_33 : decode method_2_code 33 = .ok (.if_icmp .ne 7, 3) := by decide +kernel
theorem d2_40 : decode method_2_code 40 = .ok (.iconst 0, 1) := by decide +kernel
theorem d2_36 : decode method_2_code 36 = .ok (.iconst 1, 1) := by decide +kernel
theorem d2_37 : decode method_2_code 37 = .ok (.goto 4, 3) := by decide +kernel
theorem d2_10 : decode method_2_code 10 = .ok (.iconst 0, 1) := by decide +kernel
def own_g70 (p1 : Int32) : Int32 := (1 : Int32)
def own_g68 (p1 : Int32) : Int32 := (0 : Int32)
def own_g62 (p1 : Int32) : Int32 := if p1 = (65535 : Int32) then own_g68 p1 else own_g70 p1
def own_g56 (p1 : Int32) : Int32 := if p1 = (65534 : Int32) then own_g68 p1 else own_g62 p1
def own_g54 (p1 : Int32) : Int32 := (0 : Int32)
def own_g48 (p1 : Int32) : Int32 := if (57343 : Int32) < p1 then own_g56 p1 else own_g54 p1
def own_g42 (p1 : Int32) : Int32 := if p1 < (55296 : Int32) then own_g56 p1 else own_g48 p1
def own_g40 (p1 : Int32) : Int32 := (0 : Int32)
def own_g36 (p1 : Int32) : Int32 := (1 : Int32)
def own_g30 (p1 : Int32) : Int32 := if p1 = (13 : Int32) then own_g36 p1 else own_g40 p1
def own_g24 (p1 : Int32) : Int32 := if p1 = (10 : Int32) then own_g36 p1 else own_g30 p1
def own_g18 (p1 : Int32) : Int32 := if p1 = (9 : Int32) then own_g36 p1 else own_g24 p1
def own_g12 (p1 : Int32) : Int32 := if p1 < (32 : Int32) then own_g18 p1 else own_g42 p1
def own_g10 (p1 : Int32) : Int32 := (0 : Int32)
def own_g4 (p1 : Int32) : Int32 := if (1114111 : Int32) < p1 then own_g10 p1 else own_g12 p1
def own_g0 (p1 : Int32) : Int32 := if p1 < (0 : Int32) then own_g10 p1 else own_g4 p1
theorem d2_71 : decode method_2_code 71 = .ok (.ireturn, 1) := by decide +kernel
theorem d2_69 : decode method_2_code 69 = .ok (.ireturn, 1) := by decide +kernel
theorem d2_55 : decode method_2_code 55 = .ok (.ireturn, 1) := by decide +kernel
theorem d2_41 : decode method_2_code 41 = .ok (.ireturn, 1) := by decide +kernel
theorem d2_11 : decode method_2_code 11 = .ok (.ireturn, 1) := by decide +kernel
def Q_rmR (Z : State) (p1 : Int32) (h0 : Heap) (n0 : Nat) (v : Option Value) (h : Heap) (L : List Loc) : Prop := v = some (.int (own_g0 p1)) ∧ Fr n0 L ∧ h = h0
set_option maxRecDepth 65536 in
set_option maxHeartbeats 40000000 in
theorem rmR (l : Launch) (Z : State) (a0 : Array Value) (hw : ∀ d ∈ tables_1, d.before a0 Z = true) (ws : List Jvm.Cond) (p1 : Int32) (h0 : Heap) (n0 : Nat) (Z0 : n0 ≤ h0.size) :
    MetFree l (⟨"com/example/yarkon/yarkon/document/DocumentCharactersIsCharPinLaw", "reference", "(I)Z"⟩ : MethodName) (head1 (Jvm.Cond.code (⟨"com/example/yarkon/yarkon/document/DocumentCharactersIsCharPinLaw", "reference", "(I)Z"⟩ : MethodName) method_2_code 1 (some .boolean) :: ws) ({ frames := 0, cells := 0, slots := 0, locals := 0 } : Room)) (fun a U => a = #[(.int p1)] ∧ Z.Warmed39 U.vm ∧ U.heap = h0) (fun _ _ _ _ _ => True) (fun _ U o U' => ∃ v L, o = .returned v ∧ Q_rmR Z p1 h0 n0 v U'.heap L ∧ FrameEnd U o U' L ({ frames := 0, cells := 0, slots := 0, locals := 0 } : Room).cells ({ frames := 0, cells := 0, slots := 0, locals := 0 } : Room).slots) := by
  refine MetFree.of_bodySF (plainFor_of_name pn_com_example_yarkon_yarkon_document_DocumentCharactersIsCharPinLaw) hisR ?_
  intro p e s m args below meth c s₁ Bd hml0 hP hK
  obtain ⟨rfl, hZ, hh⟩ := hP
  have hx := Bd.exec
  have hby := Bd.bytes
  have hml : c.maxLocals = 1 := hml0
  have hown : s.vm.findClass "com/example/yarkon/yarkon/document/DocumentCharactersIsCharPinLaw" = some m.cls := findClass_of_methodNamed Bd.named
  have hnm := (name_of_methodNamed Bd.named Bd.method).1
  have X0 : Stand p l e ({ frames := 0, cells := 0, slots := 0, locals := 0 } : Room) s m #[(.int p1)] below meth c s₁ [] 0 0 := Stand.of_body Bd
  have e0 : s₁.heap = h0 := by rw [← hh, Bd.state]; rfl
  have N0 := Fr.nil n0
  have pre0 : ∀ t, Steps p.tables e below (s₁.setTop (mkF m 0 #[.val (.int p1)] [])) t → Steps p.tables e below (s₁.setTop (entryFrame m #[(.int p1)] 1)) t := fun t k => castTop (ef_rmR m p1) k
  obtain ⟨fs, hr, hrun, hended, hW, hsame⟩ := X0.leave (v := some (.int (own_g0 p1))) (fun h => by rw [Bd.returns] at h; cases h)
  have J70 : (∀ (f : JFrame) (acts : List Action), f.method = m → f.locked = none → f.entered = [] → (doReturn e (s₁.setTop f) acts (some (.int (own_g70 p1)))).1 = s₁.setFrames fs) → Steps p.tables e below (s₁.setTop (mkF m 70 #[.val (.int p1)] [])) (s₁.setFrames fs) := fun hr => by
    show Steps p.tables e below (s₁.setTop (mkF m 70 #[.val (.int p1)] [])) _
    refine XS.iconst X0.here hx rfl (hb hby d2_70) ?_
    show Steps p.tables e below (s₁.setTop (mkF m 71 #[.val (.int p1)] [(.int (1 : Int32))])) _
    have q : own_g70 p1 = nar .boolean (1 : Int32) := (show own_g70 p1 = (1 : Int32) from rfl).trans (by decide)
    rw [q] at hr
    exact retN X0 hx (t := .boolean) Bd.returns (by simp) (hb hby d2_71) hr
  have J68 : (∀ (f : JFrame) (acts : List Action), f.method = m → f.locked = none → f.entered = [] → (doReturn e (s₁.setTop f) acts (some (.int (own_g68 p1)))).1 = s₁.setFrames fs) → Steps p.tables e below (s₁.setTop (mkF m 68 #[.val (.int p1)] [])) (s₁.setFrames fs) := fun hr => by
    show Steps p.tables e below (s₁.setTop (mkF m 68 #[.val (.int p1)] [])) _
    refine XS.iconst X0.here hx rfl (hb hby d2_68) ?_
    show Steps p.tables e below (s₁.setTop (mkF m 69 #[.val (.int p1)] [(.int (0 : Int32))])) _
    have q : own_g68 p1 = nar .boolean (0 : Int32) := (show own_g68 p1 = (0 : Int32) from rfl).trans (by decide)
    rw [q] at hr
    exact retN X0 hx (t := .boolean) Bd.returns (by simp) (hb hby d2_69) hr
  have J62 : (∀ (f : JFrame) (acts : List Action), f.method = m → f.locked = none → f.entered = [] → (doReturn e (s₁.setTop f) acts (some (.int (own_g62 p1)))).1 = s₁.setFrames fs) → Steps p.tables e below (s₁.setTop (mkF m 62 #[.val (.int p1)] [])) (s₁.setFrames fs) := fun hr => by
    show Steps p.tables e below (s₁.setTop (mkF m 62 #[.val (.int p1)] [])) _
    refine XS.iloadN X0.here hx rfl (hb hby d2_62) rfl ?_
    show Steps p.tables e below (s₁.setTop (mkF m 63 #[.val (.int p1)] [(.int p1)])) _
    refine X0.ldcI hx hown (mvT hZ (hw _ (List.mem_of_getElem? (i := 7) rfl))) rfl (hb hby d2_63) ?_
    by_cases hb62 : p1 = (65535 : Int32)
    · show Steps p.tables e below (s₁.setTop (mkF m 65 #[.val (.int p1)] [(.int (65535 : Int32)), (.int p1)])) _
      refine XS.icmpNo X0.here hx rfl (hb hby d2_65) rfl (teq hb62).2 ?_
      exact J68 (by rw [show own_g62 p1 = own_g68 p1 from if_pos hb62] at hr; exact hr)
    · show Steps p.tables e below (s₁.setTop (mkF m 65 #[.val (.int p1)] [(.int (65535 : Int32)), (.int p1)])) _
      refine XS.icmpYes X0.here hx rfl (pc0 := 65) (pc' := 70) rfl (hb hby d2_65) rfl (feq hb62).2 (by decide) (by decide) ?_
      exact J70 (by rw [show own_g62 p1 = own_g70 p1 from if_neg hb62] at hr; exact hr)
  have J56 : (∀ (f : JFrame) (acts : List Action), f.method = m → f.locked = none → f.entered = [] → (doReturn e (s₁.setTop f) acts (some (.int (own_g56 p1)))).1 = s₁.setFrames fs) → Steps p.tables e below (s₁.setTop (mkF m 56 #[.val (.int p1)] [])) (s₁.setFrames fs) := fun hr => by
    show Steps p.tables e below (s₁.setTop (mkF m 56 #[.val (.int p1)] [])) _
    refine XS.iloadN X0.here hx rfl (hb hby d2_56) rfl ?_
    show Steps p.tables e below (s₁.setTop (mkF m 57 #[.val (.int p1)] [(.int p1)])) _
    refine X0.ldcI hx hown (mvT hZ (hw _ (List.mem_of_getElem? (i := 6) rfl))) rfl (hb hby d2_57) ?_
    by_cases hb56 : p1 = (65534 : Int32)
    · show Steps p.tables e below (s₁.setTop (mkF m 59 #[.val (.int p1)] [(.int (65534 : Int32)), (.int p1)])) _
      refine XS.icmpYes X0.here hx rfl (pc0 := 59) (pc' := 68) rfl (hb hby d2_59) rfl (teq hb56).1 (by decide) (by decide) ?_
      exact J68 (by rw [show own_g56 p1 = own_g68 p1 from if_pos hb56] at hr; exact hr)
    · show Steps p.tables e below (s₁.setTop (mkF m 59 #[.val (.int p1)] [(.int (65534 : Int32)), (.int p1)])) _
      refine XS.icmpNo X0.here hx rfl (hb hby d2_59) rfl (feq hb56).1 ?_
      exact J62 (by rw [show own_g56 p1 = own_g62 p1 from if_neg hb56] at hr; exact hr)
  have J54 : (∀ (f : JFrame) (acts : List Action), f.method = m → f.locked = none → f.entered = [] → (doReturn e (s₁.setTop f) acts (some (.int (own_g54 p1)))).1 = s₁.setFrames fs) → Steps p.tables e below (s₁.setTop (mkF m 54 #[.val (.int p1)] [])) (s₁.setFrames fs) := fun hr => by
    show Steps p.tables e below (s₁.setTop (mkF m 54 #[.val (.int p1)] [])) _
    refine XS.iconst X0.here hx rfl (hb hby d2_54) ?_
    show Steps p.tables e below (s₁.setTop (mkF m 55 #[.val (.int p1)] [(.int (0 : Int32))])) _
    have q : own_g54 p1 = nar .boolean (0 : Int32) := (show own_g54 p1 = (0 : Int32) from rfl).trans (by decide)
    rw [q] at hr
    exact retN X0 hx (t := .boolean) Bd.returns (by simp) (hb hby d2_55) hr
  have J48 : (∀ (f : JFrame) (acts : List Action), f.method = m → f.locked = none → f.entered = [] → (doReturn e (s₁.setTop f) acts (some (.int (own_g48 p1)))).1 = s₁.setFrames fs) → Steps p.tables e below (s₁.setTop (mkF m 48 #[.val (.int p1)] [])) (s₁.setFrames fs) := fun hr => by
    show Steps p.tables e below (s₁.setTop (mkF m 48 #[.val (.int p1)] [])) _
    refine XS.iloadN X0.here hx rfl (hb hby d2_48) rfl ?_
    show Steps p.tables e below (s₁.setTop (mkF m 49 #[.val (.int p1)] [(.int p1)])) _
    refine X0.ldcI hx hown (mvT hZ (hw _ (List.mem_of_getElem? (i := 3) rfl))) rfl (hb hby d2_49) ?_
    by_cases hb48 : (57343 : Int32) < p1
    · show Steps p.tables e below (s₁.setTop (mkF m 51 #[.val (.int p1)] [(.int (57343 : Int32)), (.int p1)])) _
      refine XS.icmpYes X0.here hx rfl (pc0 := 51) (pc' := 56) rfl (hb hby d2_51) rfl (tlt hb48).2.2.1 (by decide) (by decide) ?_
      exact J56 (by rw [show own_g48 p1 = own_g56 p1 from if_pos hb48] at hr; exact hr)
    · show Steps p.tables e below (s₁.setTop (mkF m 51 #[.val (.int p1)] [(.int (57343 : Int32)), (.int p1)])) _
      refine XS.icmpNo X0.here hx rfl (hb hby d2_51) rfl (flt hb48).2.2.1 ?_
      exact J54 (by rw [show own_g48 p1 = own_g54 p1 from if_neg hb48] at hr; exact hr)
  have J42 : (∀ (f : JFrame) (acts : List Action), f.method = m → f.locked = none → f.entered = [] → (doReturn e (s₁.setTop f) acts (some (.int (own_g42 p1)))).1 = s₁.setFrames fs) → Steps p.tables e below (s₁.setTop (mkF m 42 #[.val (.int p1)] [])) (s₁.setFrames fs) := fun hr => by
    show Steps p.tables e below (s₁.setTop (mkF m 42 #[.val (.int p1)] [])) _
    refine XS.iloadN X0.here hx rfl (hb hby d2_42) rfl ?_
    show Steps p.tables e below (s₁.setTop (mkF m 43 #[.val (.int p1)] [(.int p1)])) _
    refine X0.ldcI hx hown (mvT hZ (hw _ (List.mem_of_getElem? (i := 2) rfl))) rfl (hb hby d2_43) ?_
    by_cases hb42 : p1 < (55296 : Int32)
    · show Steps p.tables e below (s₁.setTop (mkF m 45 #[.val (.int p1)] [(.int (55296 : Int32)), (.int p1)])) _
      refine XS.icmpYes X0.here hx rfl (pc0 := 45) (pc' := 56) rfl (hb hby d2_45) rfl (tlt hb42).1 (by decide) (by decide) ?_
      exact J56 (by rw [show own_g42 p1 = own_g56 p1 from if_pos hb42] at hr; exact hr)
    · show Steps p.tables e below (s₁.setTop (mkF m 45 #[.val (.int p1)] [(.int (55296 : Int32)), (.int p1)])) _
      refine XS.icmpNo X0.here hx rfl (hb hby d2_45) rfl (flt hb42).1 ?_
      exact J48 (by rw [show own_g42 p1 = own_g48 p1 from if_neg hb42] at hr; exact hr)
  have J40 : (∀ (f : JFrame) (acts : List Action), f.method = m → f.locked = none → f.entered = [] → (doReturn e (s₁.setTop f) acts (some (.int (own_g40 p1)))).1 = s₁.setFrames fs) → Steps p.tables e below (s₁.setTop (mkF m 40 #[.val (.int p1)] [])) (s₁.setFrames fs) := fun hr => by
    show Steps p.tables e below (s₁.setTop (mkF m 40 #[.val (.int p1)] [])) _
    refine XS.iconst X0.here hx rfl (hb hby d2_40) ?_
    show Steps p.tables e below (s₁.setTop (mkF m 41 #[.val (.int p1)] [(.int (0 : Int32))])) _
    have q : own_g40 p1 = nar .boolean (0 : Int32) := (show own_g40 p1 = (0 : Int32) from rfl).trans (by decide)
    rw [q] at hr
    exact retN X0 hx (t := .boolean) Bd.returns (by simp) (hb hby d2_41) hr
  have J36 : (∀ (f : JFrame) (acts : List Action), f.method = m → f.locked = none → f.entered = [] → (doReturn e (s₁.setTop f) acts (some (.int (own_g36 p1)))).1 = s₁.setFrames fs) → Steps p.tables e below (s₁.setTop (mkF m 36 #[.val (.int p1)] [])) (s₁.setFrames fs) := fun hr => by
    show Steps p.tables e below (s₁.setTop (mkF m 36 #[.val (.int p1)] [])) _
    refine XS.iconst X0.here hx rfl (hb hby d2_36) ?_
    show Steps p.tables e below (s₁.setTop (mkF m 37 #[.val (.int p1)] [(.int (1 : Int32))])) _
    refine XS.goto X0.here hx rfl (pc0 := 37) (pc' := 41) rfl (hb hby d2_37) (by decide) (by decide) ?_
    show Steps p.tables e below (s₁.setTop (mkF m 41 #[.val (.int p1)] [(.int (1 : Int32))])) _
    have q : own_g36 p1 = nar .boolean (1 : Int32) := (show own_g36 p1 = (1 : Int32) from rfl).trans (by decide)
    rw [q] at hr
    exact retN X0 hx (t := .boolean) Bd.returns (by simp) (hb hby d2_41) hr
  have J30 : (∀ (f : JFrame) (acts : List Action), f.method = m → f.locked = none → f.entered = [] → (doReturn e (s₁.setTop f) acts (some (.int (own_g30 p1)))).1 = s₁.setFrames fs) → Steps p.tables e below (s₁.setTop (mkF m 30 #[.val (.int p1)] [])) (s₁.setFrames fs) := fun hr => by
    show Steps p.tables e below (s₁.setTop (mkF m 30 #[.val (.int p1)] [])) _
    refine XS.iloadN X0.here hx rfl (hb hby d2_30) rfl ?_
    show Steps p.tables e below (s₁.setTop (mkF m 31 #[.val (.int p1)] [(.int p1)])) _
    refine XS.bipush X0.here hx rfl (hb hby d2_31) ?_
    by_cases hb30 : p1 = (13 : Int32)
    · show Steps p.tables e below (s₁.setTop (mkF m 33 #[.val (.int p1)] [(.int (13 : Int32)), (.int p1)])) _
      refine XS.icmpNo X0.here hx rfl (hb hby d2_33) rfl (teq hb30).2 ?_
      exact J36 (by rw [show own_g30 p1 = own_g36 p1 from if_pos hb30] at hr; exact hr)
    · show Steps p.tables e below (s₁.setTop (mkF m 33 #[.val (.int p1)] [(.int (13 : Int32)), (.int p1)])) _
      refine XS.icmpYes X0.here hx rfl (pc0 := 33) (pc' := 40) rfl (hb hby d2_33) rfl (feq hb30).2 (by decide) (by decide) ?_
      exact J40 (by rw [show own_g30 p1 = own_g40 p1 from if_neg hb30] at hr; exact hr)
  have J24 : (∀ (f : JFrame) (acts : List Action), f.method = m → f.locked = none → f.entered = [] → (doReturn e (s₁.setTop f) acts (some (.int (own_g24 p1)))).1 = s₁.setFrames fs) → Steps p.tables e below (s₁.setTop (mkF m 24 #[.val (.int p1)] [])) (s₁.setFrames fs) := fun hr => by
    show Steps p.tables e below (s₁.setTop (mkF m 24 #[.val (.int p1)] [])) _
    refine XS.iloadN X0.here hx rfl (hb hby d2_24) rfl ?_
    show Steps p.tables e below (s₁.setTop (mkF m 25 #[.val (.int p1)] [(.int p1)])) _
    refine XS.bipush X0.here hx rfl (hb hby d2_25) ?_
    by_cases hb24 : p1 = (10 : Int32)
    · show Steps p.tables e below (s₁.setTop (mkF m 27 #[.val (.int p1)] [(.int (10 : Int32)), (.int p1)])) _
      refine XS.icmpYes X0.here hx rfl (pc0 := 27) (pc' := 36) rfl (hb hby d2_27) rfl (teq hb24).1 (by decide) (by decide) ?_
      exact J36 (by rw [show own_g24 p1 = own_g36 p1 from if_pos hb24] at hr; exact hr)
    · show Steps p.tables e below (s₁.setTop (mkF m 27 #[.val (.int p1)] [(.int (10 : Int32)), (.int p1)])) _
      refine XS.icmpNo X0.here hx rfl (hb hby d2_27) rfl (feq hb24).1 ?_
      exact J30 (by rw [show own_g24 p1 = own_g30 p1 from if_neg hb24] at hr; exact hr)
  have J18 : (∀ (f : JFrame) (acts : List Action), f.method = m → f.locked = none → f.entered = [] → (doReturn e (s₁.setTop f) acts (some (.int (own_g18 p1)))).1 = s₁.setFrames fs) → Steps p.tables e below (s₁.setTop (mkF m 18 #[.val (.int p1)] [])) (s₁.setFrames fs) := fun hr => by
    show Steps p.tables e below (s₁.setTop (mkF m 18 #[.val (.int p1)] [])) _
    refine XS.iloadN X0.here hx rfl (hb hby d2_18) rfl ?_
    show Steps p.tables e below (s₁.setTop (mkF m 19 #[.val (.int p1)] [(.int p1)])) _
    refine XS.bipush X0.here hx rfl (hb hby d2_19) ?_
    by_cases hb18 : p1 = (9 : Int32)
    · show Steps p.tables e below (s₁.setTop (mkF m 21 #[.val (.int p1)] [(.int (9 : Int32)), (.int p1)])) _
      refine XS.icmpYes X0.here hx rfl (pc0 := 21) (pc' := 36) rfl (hb hby d2_21) rfl (teq hb18).1 (by decide) (by decide) ?_
      exact J36 (by rw [show own_g18 p1 = own_g36 p1 from if_pos hb18] at hr; exact hr)
    · show Steps p.tables e below (s₁.setTop (mkF m 21 #[.val (.int p1)] [(.int (9 : Int32)), (.int p1)])) _
      refine XS.icmpNo X0.here hx rfl (hb hby d2_21) rfl (feq hb18).1 ?_
      exact J24 (by rw [show own_g18 p1 = own_g24 p1 from if_neg hb18] at hr; exact hr)
  have J12 : (∀ (f : JFrame) (acts : List Action), f.method = m → f.locked = none → f.entered = [] → (doReturn e (s₁.setTop f) acts (some (.int (own_g12 p1)))).1 = s₁.setFrames fs) → Steps p.tables e below (s₁.setTop (mkF m 12 #[.val (.int p1)] [])) (s₁.setFrames fs) := fun hr => by
    show Steps p.tables e below (s₁.setTop (mkF m 12 #[.val (.int p1)] [])) _
    refine XS.iloadN X0.here hx rfl (hb hby d2_12) rfl ?_
    show Steps p.tables e below (s₁.setTop (mkF m 13 #[.val (.int p1)] [(.int p1)])) _
    refine XS.bipush X0.here hx rfl (hb hby d2_13) ?_
    by_cases hb12 : p1 < (32 : Int32)
    · show Steps p.tables e below (s₁.setTop (mkF m 15 #[.val (.int p1)] [(.int (32 : Int32)), (.int p1)])) _
      refine XS.icmpNo X0.here hx rfl (hb hby d2_15) rfl (tlt hb12).2.1 ?_
      exact J18 (by rw [show own_g12 p1 = own_g18 p1 from if_pos hb12] at hr; exact hr)
    · show Steps p.tables e below (s₁.setTop (mkF m 15 #[.val (.int p1)] [(.int (32 : Int32)), (.int p1)])) _
      refine XS.icmpYes X0.here hx rfl (pc0 := 15) (pc' := 42) rfl (hb hby d2_15) rfl (flt hb12).2.1 (by decide) (by decide) ?_
      exact J42 (by rw [show own_g12 p1 = own_g42 p1 from if_neg hb12] at hr; exact hr)
  have J10 : (∀ (f : JFrame) (acts : List Action), f.method = m → f.locked = none → f.entered = [] → (doReturn e (s₁.setTop f) acts (some (.int (own_g10 p1)))).1 = s₁.setFrames fs) → Steps p.tables e below (s₁.setTop (mkF m 10 #[.val (.int p1)] [])) (s₁.setFrames fs) := fun hr => by
    show Steps p.tables e below (s₁.setTop (mkF m 10 #[.val (.int p1)] [])) _
    refine XS.iconst X0.here hx rfl (hb hby d2_10) ?_
    show Steps p.tables e below (s₁.setTop (mkF m 11 #[.val (.int p1)] [(.int (0 : Int32))])) _
    have q : own_g10 p1 = nar .boolean (0 : Int32) := (show own_g10 p1 = (0 : Int32) from rfl).trans (by decide)
    rw [q] at hr
    exact retN X0 hx (t := .boolean) Bd.returns (by simp) (hb hby d2_11) hr
  have J4 : (∀ (f : JFrame) (acts : List Action), f.method = m → f.locked = none → f.entered = [] → (doReturn e (s₁.setTop f) acts (some (.int (own_g4 p1)))).1 = s₁.setFrames fs) → Steps p.tables e below (s₁.setTop (mkF m 4 #[.val (.int p1)] [])) (s₁.setFrames fs) := fun hr => by
    show Steps p.tables e below (s₁.setTop (mkF m 4 #[.val (.int p1)] [])) _
    refine XS.iloadN X0.here hx rfl (hb hby d2_4) rfl ?_
    show Steps p.tables e below (s₁.setTop (mkF m 5 #[.val (.int p1)] [(.int p1)])) _
    refine X0.ldcI hx hown (mvT hZ (hw _ (List.mem_of_getElem? (i := 9) rfl))) rfl (hb hby d2_5) ?_
    by_cases hb4 : (1114111 : Int32) < p1
    · show Steps p.tables e below (s₁.setTop (mkF m 7 #[.val (.int p1)] [(.int (1114111 : Int32)), (.int p1)])) _
      refine XS.icmpNo X0.here hx rfl (hb hby d2_7) rfl (tlt hb4).2.2.2 ?_
      exact J10 (by rw [show own_g4 p1 = own_g10 p1 from if_pos hb4] at hr; exact hr)
    · show Steps p.tables e below (s₁.setTop (mkF m 7 #[.val (.int p1)] [(.int (1114111 : Int32)), (.int p1)])) _
      refine XS.icmpYes X0.here hx rfl (pc0 := 7) (pc' := 12) rfl (hb hby d2_7) rfl (flt hb4).2.2.2 (by decide) (by decide) ?_
      exact J12 (by rw [show own_g4 p1 = own_g12 p1 from if_neg hb4] at hr; exact hr)
  have J0 : (∀ (f : JFrame) (acts : List Action), f.method = m → f.locked = none → f.entered = [] → (doReturn e (s₁.setTop f) acts (some (.int (own_g0 p1)))).1 = s₁.setFrames fs) → Steps p.tables e below (s₁.setTop (mkF m 0 #[.val (.int p1)] [])) (s₁.setFrames fs) := fun hr => by
    show Steps p.tables e below (s₁.setTop (mkF m 0 #[.val (.int p1)] [])) _
    refine XS.iloadN X0.here hx rfl (hb hby d2_0) rfl ?_
    by_cases hb0 : p1 < (0 : Int32)
    · show Steps p.tables e below (s₁.setTop (mkF m 1 #[.val (.int p1)] [(.int p1)])) _
      refine XS.ifYes X0.here hx rfl (pc0 := 1) (pc' := 10) rfl (hb hby d2_1) rfl ((if0 _ _).trans (tlt hb0).1) (by decide) (by decide) ?_
      exact J10 (by rw [show own_g0 p1 = own_g10 p1 from if_pos hb0] at hr; exact hr)
    · show Steps p.tables e below (s₁.setTop (mkF m 1 #[.val (.int p1)] [(.int p1)])) _
      refine XS.ifNo X0.here hx rfl (hb hby d2_1) rfl ((if0 _ _).trans (flt hb0).1) ?_
      exact J4 (by rw [show own_g0 p1 = own_g4 p1 from if_neg hb0] at hr; exact hr)
  refine ⟨_, _, pre0 _ ?_, hrun, hended, _, _, rfl, ?_, ⟨_, rfl⟩, hW, hsame.mono (by decide) (by decide)⟩
  · exact J0 hr
  · exact ⟨rfl, N0, e0⟩
theorem own_ltT {a b : Int32} {x y : Int} (ha : a.toInt = x) (hb : b.toInt = y) (h : x < y) : a < b := by rw [Int32.lt_iff_toInt_lt, ha, hb]; exact h
theorem own_ltF {a b : Int32} {x y : Int} (ha : a.toInt = x) (hb : b.toInt = y) (h : ¬ x < y) : ¬ a < b := by rw [Int32.lt_iff_toInt_lt, ha, hb]; exact h
theorem own_eqT {a b : Int32} {x y : Int} (ha : a.toInt = x) (hb : b.toInt = y) (h : x = y) : a = b := Int32.toInt_inj.mp (by rw [ha, hb]; exact h)
theorem own_eqF {a b : Int32} {x y : Int} (ha : a.toInt = x) (hb : b.toInt = y) (h : ¬ x = y) : ¬ a = b := fun q => h (by rw [← ha, ← hb, q])
theorem own_eq (p1 : Int32) : own_f0 p1 = own_g0 p1 := by
  have rg := rng32 p1
  by_cases k0 : p1.toInt < 0
  · have e1 : own_f0 p1 = (0 : Int32) := (if_neg (own_eqF (x := p1.toInt) (y := (9)) rfl rfl (by omega))).trans ((if_neg (own_eqF (x := p1.toInt) (y := (10)) rfl rfl (by omega))).trans ((if_neg (own_eqF (x := p1.toInt) (y := (13)) rfl rfl (by omega))).trans ((if_pos (own_ltT (x := p1.toInt) (y := (32)) rfl rfl (by omega))).trans ((if_pos (own_ltT (x := p1.toInt) (y := (57344)) rfl rfl (by omega))).trans ((if_pos (own_ltT (x := p1.toInt) (y := (65536)) rfl rfl (by omega))).trans (rfl))))))
    have e2 : own_g0 p1 = (0 : Int32) := (if_pos (own_ltT (x := p1.toInt) (y := (0)) rfl rfl (by omega))).trans (rfl)
    exact e1.trans e2.symm
  by_cases k1 : p1.toInt < 1
  · have e1 : own_f0 p1 = (0 : Int32) := (if_neg (own_eqF (x := p1.toInt) (y := (9)) rfl rfl (by omega))).trans ((if_neg (own_eqF (x := p1.toInt) (y := (10)) rfl rfl (by omega))).trans ((if_neg (own_eqF (x := p1.toInt) (y := (13)) rfl rfl (by omega))).trans ((if_pos (own_ltT (x := p1.toInt) (y := (32)) rfl rfl (by omega))).trans ((if_pos (own_ltT (x := p1.toInt) (y := (57344)) rfl rfl (by omega))).trans ((if_pos (own_ltT (x := p1.toInt) (y := (65536)) rfl rfl (by omega))).trans (rfl))))))
    have e2 : own_g0 p1 = (0 : Int32) := (if_neg (own_ltF (x := p1.toInt) (y := (0)) rfl rfl (by omega))).trans ((if_neg (own_ltF (x := (1114111)) (y := p1.toInt) rfl rfl (by omega))).trans ((if_pos (own_ltT (x := p1.toInt) (y := (32)) rfl rfl (by omega))).trans ((if_neg (own_eqF (x := p1.toInt) (y := (9)) rfl rfl (by omega))).trans ((if_neg (own_eqF (x := p1.toInt) (y := (10)) rfl rfl (by omega))).trans ((if_neg (own_eqF (x := p1.toInt) (y := (13)) rfl rfl (by omega))).trans (rfl))))))
    exact e1.trans e2.symm
  by_cases k2 : p1.toInt < 9
  · have e1 : own_f0 p1 = (0 : Int32) := (if_neg (own_eqF (x := p1.toInt) (y := (9)) rfl rfl (by omega))).trans ((if_neg (own_eqF (x := p1.toInt) (y := (10)) rfl rfl (by omega))).trans ((if_neg (own_eqF (x := p1.toInt) (y := (13)) rfl rfl (by omega))).trans ((if_pos (own_ltT (x := p1.toInt) (y := (32)) rfl rfl (by omega))).trans ((if_pos (own_ltT (x := p1.toInt) (y := (57344)) rfl rfl (by omega))).trans ((if_pos (own_ltT (x := p1.toInt) (y := (65536)) rfl rfl (by omega))).trans (rfl))))))
    have e2 : own_g0 p1 = (0 : Int32) := (if_neg (own_ltF (x := p1.toInt) (y := (0)) rfl rfl (by omega))).trans ((if_neg (own_ltF (x := (1114111)) (y := p1.toInt) rfl rfl (by omega))).trans ((if_pos (own_ltT (x := p1.toInt) (y := (32)) rfl rfl (by omega))).trans ((if_neg (own_eqF (x := p1.toInt) (y := (9)) rfl rfl (by omega))).trans ((if_neg (own_eqF (x := p1.toInt) (y := (10)) rfl rfl (by omega))).trans ((if_neg (own_eqF (x := p1.toInt) (y := (13)) rfl rfl (by omega))).trans (rfl))))))
    exact e1.trans e2.symm
  by_cases k3 : p1.toInt < 10
  · have e1 : own_f0 p1 = (1 : Int32) := (if_pos (own_eqT (x := p1.toInt) (y := (9)) rfl rfl (by omega))).trans (rfl)
    have e2 : own_g0 p1 = (1 : Int32) := (if_neg (own_ltF (x := p1.toInt) (y := (0)) rfl rfl (by omega))).trans ((if_neg (own_ltF (x := (1114111)) (y := p1.toInt) rfl rfl (by omega))).trans ((if_pos (own_ltT (x := p1.toInt) (y := (32)) rfl rfl (by omega))).trans ((if_pos (own_eqT (x := p1.toInt) (y := (9)) rfl rfl (by omega))).trans (rfl))))
    exact e1.trans e2.symm
  by_cases k4 : p1.toInt < 11
  · have e1 : own_f0 p1 = (1 : Int32) := (if_neg (own_eqF (x := p1.toInt) (y := (9)) rfl rfl (by omega))).trans ((if_pos (own_eqT (x := p1.toInt) (y := (10)) rfl rfl (by omega))).trans (rfl))
    have e2 : own_g0 p1 = (1 : Int32) := (if_neg (own_ltF (x := p1.toInt) (y := (0)) rfl rfl (by omega))).trans ((if_neg (own_ltF (x := (1114111)) (y := p1.toInt) rfl rfl (by omega))).trans ((if_pos (own_ltT (x := p1.toInt) (y := (32)) rfl rfl (by omega))).trans ((if_neg (own_eqF (x := p1.toInt) (y := (9)) rfl rfl (by omega))).trans ((if_pos (own_eqT (x := p1.toInt) (y := (10)) rfl rfl (by omega))).trans (rfl)))))
    exact e1.trans e2.symm
  by_cases k5 : p1.toInt < 13
  · have e1 : own_f0 p1 = (0 : Int32) := (if_neg (own_eqF (x := p1.toInt) (y := (9)) rfl rfl (by omega))).trans ((if_neg (own_eqF (x := p1.toInt) (y := (10)) rfl rfl (by omega))).trans ((if_neg (own_eqF (x := p1.toInt) (y := (13)) rfl rfl (by omega))).trans ((if_pos (own_ltT (x := p1.toInt) (y := (32)) rfl rfl (by omega))).trans ((if_pos (own_ltT (x := p1.toInt) (y := (57344)) rfl rfl (by omega))).trans ((if_pos (own_ltT (x := p1.toInt) (y := (65536)) rfl rfl (by omega))).trans (rfl))))))
    have e2 : own_g0 p1 = (0 : Int32) := (if_neg (own_ltF (x := p1.toInt) (y := (0)) rfl rfl (by omega))).trans ((if_neg (own_ltF (x := (1114111)) (y := p1.toInt) rfl rfl (by omega))).trans ((if_pos (own_ltT (x := p1.toInt) (y := (32)) rfl rfl (by omega))).trans ((if_neg (own_eqF (x := p1.toInt) (y := (9)) rfl rfl (by omega))).trans ((if_neg (own_eqF (x := p1.toInt) (y := (10)) rfl rfl (by omega))).trans ((if_neg (own_eqF (x := p1.toInt) (y := (13)) rfl rfl (by omega))).trans (rfl))))))
    exact e1.trans e2.symm
  by_cases k6 : p1.toInt < 14
  · have e1 : own_f0 p1 = (1 : Int32) := (if_neg (own_eqF (x := p1.toInt) (y := (9)) rfl rfl (by omega))).trans ((if_neg (own_eqF (x := p1.toInt) (y := (10)) rfl rfl (by omega))).trans ((if_pos (own_eqT (x := p1.toInt) (y := (13)) rfl rfl (by omega))).trans (rfl)))
    have e2 : own_g0 p1 = (1 : Int32) := (if_neg (own_ltF (x := p1.toInt) (y := (0)) rfl rfl (by omega))).trans ((if_neg (own_ltF (x := (1114111)) (y := p1.toInt) rfl rfl (by omega))).trans ((if_pos (own_ltT (x := p1.toInt) (y := (32)) rfl rfl (by omega))).trans ((if_neg (own_eqF (x := p1.toInt) (y := (9)) rfl rfl (by omega))).trans ((if_neg (own_eqF (x := p1.toInt) (y := (10)) rfl rfl (by omega))).trans ((if_pos (own_eqT (x := p1.toInt) (y := (13)) rfl rfl (by omega))).trans (rfl))))))
    exact e1.trans e2.symm
  by_cases k7 : p1.toInt < 32
  · have e1 : own_f0 p1 = (0 : Int32) := (if_neg (own_eqF (x := p1.toInt) (y := (9)) rfl rfl (by omega))).trans ((if_neg (own_eqF (x := p1.toInt) (y := (10)) rfl rfl (by omega))).trans ((if_neg (own_eqF (x := p1.toInt) (y := (13)) rfl rfl (by omega))).trans ((if_pos (own_ltT (x := p1.toInt) (y := (32)) rfl rfl (by omega))).trans ((if_pos (own_ltT (x := p1.toInt) (y := (57344)) rfl rfl (by omega))).trans ((if_pos (own_ltT (x := p1.toInt) (y := (65536)) rfl rfl (by omega))).trans (rfl))))))
    have e2 : own_g0 p1 = (0 : Int32) := (if_neg (own_ltF (x := p1.toInt) (y := (0)) rfl rfl (by omega))).trans ((if_neg (own_ltF (x := (1114111)) (y := p1.toInt) rfl rfl (by omega))).trans ((if_pos (own_ltT (x := p1.toInt) (y := (32)) rfl rfl (by omega))).trans ((if_neg (own_eqF (x := p1.toInt) (y := (9)) rfl rfl (by omega))).trans ((if_neg (own_eqF (x := p1.toInt) (y := (10)) rfl rfl (by omega))).trans ((if_neg (own_eqF (x := p1.toInt) (y := (13)) rfl rfl (by omega))).trans (rfl))))))
    exact e1.trans e2.symm
  by_cases k8 : p1.toInt < 33
  · have e1 : own_f0 p1 = (1 : Int32) := (if_neg (own_eqF (x := p1.toInt) (y := (9)) rfl rfl (by omega))).trans ((if_neg (own_eqF (x := p1.toInt) (y := (10)) rfl rfl (by omega))).trans ((if_neg (own_eqF (x := p1.toInt) (y := (13)) rfl rfl (by omega))).trans ((if_neg (own_ltF (x := p1.toInt) (y := (32)) rfl rfl (by omega))).trans ((if_neg (own_ltF (x := (55295)) (y := p1.toInt) rfl rfl (by omega))).trans (rfl)))))
    have e2 : own_g0 p1 = (1 : Int32) := (if_neg (own_ltF (x := p1.toInt) (y := (0)) rfl rfl (by omega))).trans ((if_neg (own_ltF (x := (1114111)) (y := p1.toInt) rfl rfl (by omega))).trans ((if_neg (own_ltF (x := p1.toInt) (y := (32)) rfl rfl (by omega))).trans ((if_pos (own_ltT (x := p1.toInt) (y := (55296)) rfl rfl (by omega))).trans ((if_neg (own_eqF (x := p1.toInt) (y := (65534)) rfl rfl (by omega))).trans ((if_neg (own_eqF (x := p1.toInt) (y := (65535)) rfl rfl (by omega))).trans (rfl))))))
    exact e1.trans e2.symm
  by_cases k9 : p1.toInt < 55295
  · have e1 : own_f0 p1 = (1 : Int32) := (if_neg (own_eqF (x := p1.toInt) (y := (9)) rfl rfl (by omega))).trans ((if_neg (own_eqF (x := p1.toInt) (y := (10)) rfl rfl (by omega))).trans ((if_neg (own_eqF (x := p1.toInt) (y := (13)) rfl rfl (by omega))).trans ((if_neg (own_ltF (x := p1.toInt) (y := (32)) rfl rfl (by omega))).trans ((if_neg (own_ltF (x := (55295)) (y := p1.toInt) rfl rfl (by omega))).trans (rfl)))))
    have e2 : own_g0 p1 = (1 : Int32) := (if_neg (own_ltF (x := p1.toInt) (y := (0)) rfl rfl (by omega))).trans ((if_neg (own_ltF (x := (1114111)) (y := p1.toInt) rfl rfl (by omega))).trans ((if_neg (own_ltF (x := p1.toInt) (y := (32)) rfl rfl (by omega))).trans ((if_pos (own_ltT (x := p1.toInt) (y := (55296)) rfl rfl (by omega))).trans ((if_neg (own_eqF (x := p1.toInt) (y := (65534)) rfl rfl (by omega))).trans ((if_neg (own_eqF (x := p1.toInt) (y := (65535)) rfl rfl (by omega))).trans (rfl))))))
    exact e1.trans e2.symm
  by_cases k10 : p1.toInt < 55296
  · have e1 : own_f0 p1 = (1 : Int32) := (if_neg (own_eqF (x := p1.toInt) (y := (9)) rfl rfl (by omega))).trans ((if_neg (own_eqF (x := p1.toInt) (y := (10)) rfl rfl (by omega))).trans ((if_neg (own_eqF (x := p1.toInt) (y := (13)) rfl rfl (by omega))).trans ((if_neg (own_ltF (x := p1.toInt) (y := (32)) rfl rfl (by omega))).trans ((if_neg (own_ltF (x := (55295)) (y := p1.toInt) rfl rfl (by omega))).trans (rfl)))))
    have e2 : own_g0 p1 = (1 : Int32) := (if_neg (own_ltF (x := p1.toInt) (y := (0)) rfl rfl (by omega))).trans ((if_neg (own_ltF (x := (1114111)) (y := p1.toInt) rfl rfl (by omega))).trans ((if_neg (own_ltF (x := p1.toInt) (y := (32)) rfl rfl (by omega))).trans ((if_pos (own_ltT (x := p1.toInt) (y := (55296)) rfl rfl (by omega))).trans ((if_neg (own_eqF (x := p1.toInt) (y := (65534)) rfl rfl (by omega))).trans ((if_neg (own_eqF (x := p1.toInt) (y := (65535)) rfl rfl (by omega))).trans (rfl))))))
    exact e1.trans e2.symm
  by_cases k11 : p1.toInt < 55297
  · have e1 : own_f0 p1 = (0 : Int32) := (if_neg (own_eqF (x := p1.toInt) (y := (9)) rfl rfl (by omega))).trans ((if_neg (own_eqF (x := p1.toInt) (y := (10)) rfl rfl (by omega))).trans ((if_neg (own_eqF (x := p1.toInt) (y := (13)) rfl rfl (by omega))).trans ((if_neg (own_ltF (x := p1.toInt) (y := (32)) rfl rfl (by omega))).trans ((if_pos (own_ltT (x := (55295)) (y := p1.toInt) rfl rfl (by omega))).trans ((if_pos (own_ltT (x := p1.toInt) (y := (57344)) rfl rfl (by omega))).trans ((if_pos (own_ltT (x := p1.toInt) (y := (65536)) rfl rfl (by omega))).trans (rfl)))))))
    have e2 : own_g0 p1 = (0 : Int32) := (if_neg (own_ltF (x := p1.toInt) (y := (0)) rfl rfl (by omega))).trans ((if_neg (own_ltF (x := (1114111)) (y := p1.toInt) rfl rfl (by omega))).trans ((if_neg (own_ltF (x := p1.toInt) (y := (32)) rfl rfl (by omega))).trans ((if_neg (own_ltF (x := p1.toInt) (y := (55296)) rfl rfl (by omega))).trans ((if_neg (own_ltF (x := (57343)) (y := p1.toInt) rfl rfl (by omega))).trans (rfl)))))
    exact e1.trans e2.symm
  by_cases k12 : p1.toInt < 57343
  · have e1 : own_f0 p1 = (0 : Int32) := (if_neg (own_eqF (x := p1.toInt) (y := (9)) rfl rfl (by omega))).trans ((if_neg (own_eqF (x := p1.toInt) (y := (10)) rfl rfl (by omega))).trans ((if_neg (own_eqF (x := p1.toInt) (y := (13)) rfl rfl (by omega))).trans ((if_neg (own_ltF (x := p1.toInt) (y := (32)) rfl rfl (by omega))).trans ((if_pos (own_ltT (x := (55295)) (y := p1.toInt) rfl rfl (by omega))).trans ((if_pos (own_ltT (x := p1.toInt) (y := (57344)) rfl rfl (by omega))).trans ((if_pos (own_ltT (x := p1.toInt) (y := (65536)) rfl rfl (by omega))).trans (rfl)))))))
    have e2 : own_g0 p1 = (0 : Int32) := (if_neg (own_ltF (x := p1.toInt) (y := (0)) rfl rfl (by omega))).trans ((if_neg (own_ltF (x := (1114111)) (y := p1.toInt) rfl rfl (by omega))).trans ((if_neg (own_ltF (x := p1.toInt) (y := (32)) rfl rfl (by omega))).trans ((if_neg (own_ltF (x := p1.toInt) (y := (55296)) rfl rfl (by omega))).trans ((if_neg (own_ltF (x := (57343)) (y := p1.toInt) rfl rfl (by omega))).trans (rfl)))))
    exact e1.trans e2.symm
  by_cases k13 : p1.toInt < 57344
  · have e1 : own_f0 p1 = (0 : Int32) := (if_neg (own_eqF (x := p1.toInt) (y := (9)) rfl rfl (by omega))).trans ((if_neg (own_eqF (x := p1.toInt) (y := (10)) rfl rfl (by omega))).trans ((if_neg (own_eqF (x := p1.toInt) (y := (13)) rfl rfl (by omega))).trans ((if_neg (own_ltF (x := p1.toInt) (y := (32)) rfl rfl (by omega))).trans ((if_pos (own_ltT (x := (55295)) (y := p1.toInt) rfl rfl (by omega))).trans ((if_pos (own_ltT (x := p1.toInt) (y := (57344)) rfl rfl (by omega))).trans ((if_pos (own_ltT (x := p1.toInt) (y := (65536)) rfl rfl (by omega))).trans (rfl)))))))
    have e2 : own_g0 p1 = (0 : Int32) := (if_neg (own_ltF (x := p1.toInt) (y := (0)) rfl rfl (by omega))).trans ((if_neg (own_ltF (x := (1114111)) (y := p1.toInt) rfl rfl (by omega))).trans ((if_neg (own_ltF (x := p1.toInt) (y := (32)) rfl rfl (by omega))).trans ((if_neg (own_ltF (x := p1.toInt) (y := (55296)) rfl rfl (by omega))).trans ((if_neg (own_ltF (x := (57343)) (y := p1.toInt) rfl rfl (by omega))).trans (rfl)))))
    exact e1.trans e2.symm
  by_cases k14 : p1.toInt < 57345
  · have e1 : own_f0 p1 = (1 : Int32) := (if_neg (own_eqF (x := p1.toInt) (y := (9)) rfl rfl (by omega))).trans ((if_neg (own_eqF (x := p1.toInt) (y := (10)) rfl rfl (by omega))).trans ((if_neg (own_eqF (x := p1.toInt) (y := (13)) rfl rfl (by omega))).trans ((if_neg (own_ltF (x := p1.toInt) (y := (32)) rfl rfl (by omega))).trans ((if_pos (own_ltT (x := (55295)) (y := p1.toInt) rfl rfl (by omega))).trans ((if_neg (own_ltF (x := p1.toInt) (y := (57344)) rfl rfl (by omega))).trans ((if_neg (own_ltF (x := (65533)) (y := p1.toInt) rfl rfl (by omega))).trans (rfl)))))))
    have e2 : own_g0 p1 = (1 : Int32) := (if_neg (own_ltF (x := p1.toInt) (y := (0)) rfl rfl (by omega))).trans ((if_neg (own_ltF (x := (1114111)) (y := p1.toInt) rfl rfl (by omega))).trans ((if_neg (own_ltF (x := p1.toInt) (y := (32)) rfl rfl (by omega))).trans ((if_neg (own_ltF (x := p1.toInt) (y := (55296)) rfl rfl (by omega))).trans ((if_pos (own_ltT (x := (57343)) (y := p1.toInt) rfl rfl (by omega))).trans ((if_neg (own_eqF (x := p1.toInt) (y := (65534)) rfl rfl (by omega))).trans ((if_neg (own_eqF (x := p1.toInt) (y := (65535)) rfl rfl (by omega))).trans (rfl)))))))
    exact e1.trans e2.symm
  by_cases k15 : p1.toInt < 65533
  · have e1 : own_f0 p1 = (1 : Int32) := (if_neg (own_eqF (x := p1.toInt) (y := (9)) rfl rfl (by omega))).trans ((if_neg (own_eqF (x := p1.toInt) (y := (10)) rfl rfl (by omega))).trans ((if_neg (own_eqF (x := p1.toInt) (y := (13)) rfl rfl (by omega))).trans ((if_neg (own_ltF (x := p1.toInt) (y := (32)) rfl rfl (by omega))).trans ((if_pos (own_ltT (x := (55295)) (y := p1.toInt) rfl rfl (by omega))).trans ((if_neg (own_ltF (x := p1.toInt) (y := (57344)) rfl rfl (by omega))).trans ((if_neg (own_ltF (x := (65533)) (y := p1.toInt) rfl rfl (by omega))).trans (rfl)))))))
    have e2 : own_g0 p1 = (1 : Int32) := (if_neg (own_ltF (x := p1.toInt) (y := (0)) rfl rfl (by omega))).trans ((if_neg (own_ltF (x := (1114111)) (y := p1.toInt) rfl rfl (by omega))).trans ((if_neg (own_ltF (x := p1.toInt) (y := (32)) rfl rfl (by omega))).trans ((if_neg (own_ltF (x := p1.toInt) (y := (55296)) rfl rfl (by omega))).trans ((if_pos (own_ltT (x := (57343)) (y := p1.toInt) rfl rfl (by omega))).trans ((if_neg (own_eqF (x := p1.toInt) (y := (65534)) rfl rfl (by omega))).trans ((if_neg (own_eqF (x := p1.toInt) (y := (65535)) rfl rfl (by omega))).trans (rfl)))))))
    exact e1.trans e2.symm
  by_cases k16 : p1.toInt < 65534
  · have e1 : own_f0 p1 = (1 : Int32) := (if_neg (own_eqF (x := p1.toInt) (y := (9)) rfl rfl (by omega))).trans ((if_neg (own_eqF (x := p1.toInt) (y := (10)) rfl rfl (by omega))).trans ((if_neg (own_eqF (x := p1.toInt) (y := (13)) rfl rfl (by omega))).trans ((if_neg (own_ltF (x := p1.toInt) (y := (32)) rfl rfl (by omega))).trans ((if_pos (own_ltT (x := (55295)) (y := p1.toInt) rfl rfl (by omega))).trans ((if_neg (own_ltF (x := p1.toInt) (y := (57344)) rfl rfl (by omega))).trans ((if_neg (own_ltF (x := (65533)) (y := p1.toInt) rfl rfl (by omega))).trans (rfl)))))))
    have e2 : own_g0 p1 = (1 : Int32) := (if_neg (own_ltF (x := p1.toInt) (y := (0)) rfl rfl (by omega))).trans ((if_neg (own_ltF (x := (1114111)) (y := p1.toInt) rfl rfl (by omega))).trans ((if_neg (own_ltF (x := p1.toInt) (y := (32)) rfl rfl (by omega))).trans ((if_neg (own_ltF (x := p1.toInt) (y := (55296)) rfl rfl (by omega))).trans ((if_pos (own_ltT (x := (57343)) (y := p1.toInt) rfl rfl (by omega))).trans ((if_neg (own_eqF (x := p1.toInt) (y := (65534)) rfl rfl (by omega))).trans ((if_neg (own_eqF (x := p1.toInt) (y := (65535)) rfl rfl (by omega))).trans (rfl)))))))
    exact e1.trans e2.symm
  by_cases k17 : p1.toInt < 65535
  · have e1 : own_f0 p1 = (0 : Int32) := (if_neg (own_eqF (x := p1.toInt) (y := (9)) rfl rfl (by omega))).trans ((if_neg (own_eqF (x := p1.toInt) (y := (10)) rfl rfl (by omega))).trans ((if_neg (own_eqF (x := p1.toInt) (y := (13)) rfl rfl (by omega))).trans ((if_neg (own_ltF (x := p1.toInt) (y := (32)) rfl rfl (by omega))).trans ((if_pos (own_ltT (x := (55295)) (y := p1.toInt) rfl rfl (by omega))).trans ((if_neg (own_ltF (x := p1.toInt) (y := (57344)) rfl rfl (by omega))).trans ((if_pos (own_ltT (x := (65533)) (y := p1.toInt) rfl rfl (by omega))).trans ((if_pos (own_ltT (x := p1.toInt) (y := (65536)) rfl rfl (by omega))).trans (rfl))))))))
    have e2 : own_g0 p1 = (0 : Int32) := (if_neg (own_ltF (x := p1.toInt) (y := (0)) rfl rfl (by omega))).trans ((if_neg (own_ltF (x := (1114111)) (y := p1.toInt) rfl rfl (by omega))).trans ((if_neg (own_ltF (x := p1.toInt) (y := (32)) rfl rfl (by omega))).trans ((if_neg (own_ltF (x := p1.toInt) (y := (55296)) rfl rfl (by omega))).trans ((if_pos (own_ltT (x := (57343)) (y := p1.toInt) rfl rfl (by omega))).trans ((if_pos (own_eqT (x := p1.toInt) (y := (65534)) rfl rfl (by omega))).trans (rfl))))))
    exact e1.trans e2.symm
  by_cases k18 : p1.toInt < 65536
  · have e1 : own_f0 p1 = (0 : Int32) := (if_neg (own_eqF (x := p1.toInt) (y := (9)) rfl rfl (by omega))).trans ((if_neg (own_eqF (x := p1.toInt) (y := (10)) rfl rfl (by omega))).trans ((if_neg (own_eqF (x := p1.toInt) (y := (13)) rfl rfl (by omega))).trans ((if_neg (own_ltF (x := p1.toInt) (y := (32)) rfl rfl (by omega))).trans ((if_pos (own_ltT (x := (55295)) (y := p1.toInt) rfl rfl (by omega))).trans ((if_neg (own_ltF (x := p1.toInt) (y := (57344)) rfl rfl (by omega))).trans ((if_pos (own_ltT (x := (65533)) (y := p1.toInt) rfl rfl (by omega))).trans ((if_pos (own_ltT (x := p1.toInt) (y := (65536)) rfl rfl (by omega))).trans (rfl))))))))
    have e2 : own_g0 p1 = (0 : Int32) := (if_neg (own_ltF (x := p1.toInt) (y := (0)) rfl rfl (by omega))).trans ((if_neg (own_ltF (x := (1114111)) (y := p1.toInt) rfl rfl (by omega))).trans ((if_neg (own_ltF (x := p1.toInt) (y := (32)) rfl rfl (by omega))).trans ((if_neg (own_ltF (x := p1.toInt) (y := (55296)) rfl rfl (by omega))).trans ((if_pos (own_ltT (x := (57343)) (y := p1.toInt) rfl rfl (by omega))).trans ((if_neg (own_eqF (x := p1.toInt) (y := (65534)) rfl rfl (by omega))).trans ((if_pos (own_eqT (x := p1.toInt) (y := (65535)) rfl rfl (by omega))).trans (rfl)))))))
    exact e1.trans e2.symm
  by_cases k19 : p1.toInt < 65537
  · have e1 : own_f0 p1 = (1 : Int32) := (if_neg (own_eqF (x := p1.toInt) (y := (9)) rfl rfl (by omega))).trans ((if_neg (own_eqF (x := p1.toInt) (y := (10)) rfl rfl (by omega))).trans ((if_neg (own_eqF (x := p1.toInt) (y := (13)) rfl rfl (by omega))).trans ((if_neg (own_ltF (x := p1.toInt) (y := (32)) rfl rfl (by omega))).trans ((if_pos (own_ltT (x := (55295)) (y := p1.toInt) rfl rfl (by omega))).trans ((if_neg (own_ltF (x := p1.toInt) (y := (57344)) rfl rfl (by omega))).trans ((if_pos (own_ltT (x := (65533)) (y := p1.toInt) rfl rfl (by omega))).trans ((if_neg (own_ltF (x := p1.toInt) (y := (65536)) rfl rfl (by omega))).trans ((if_neg (own_ltF (x := (1114111)) (y := p1.toInt) rfl rfl (by omega))).trans (rfl)))))))))
    have e2 : own_g0 p1 = (1 : Int32) := (if_neg (own_ltF (x := p1.toInt) (y := (0)) rfl rfl (by omega))).trans ((if_neg (own_ltF (x := (1114111)) (y := p1.toInt) rfl rfl (by omega))).trans ((if_neg (own_ltF (x := p1.toInt) (y := (32)) rfl rfl (by omega))).trans ((if_neg (own_ltF (x := p1.toInt) (y := (55296)) rfl rfl (by omega))).trans ((if_pos (own_ltT (x := (57343)) (y := p1.toInt) rfl rfl (by omega))).trans ((if_neg (own_eqF (x := p1.toInt) (y := (65534)) rfl rfl (by omega))).trans ((if_neg (own_eqF (x := p1.toInt) (y := (65535)) rfl rfl (by omega))).trans (rfl)))))))
    exact e1.trans e2.symm
  by_cases k20 : p1.toInt < 1114111
  · have e1 : own_f0 p1 = (1 : Int32) := (if_neg (own_eqF (x := p1.toInt) (y := (9)) rfl rfl (by omega))).trans ((if_neg (own_eqF (x := p1.toInt) (y := (10)) rfl rfl (by omega))).trans ((if_neg (own_eqF (x := p1.toInt) (y := (13)) rfl rfl (by omega))).trans ((if_neg (own_ltF (x := p1.toInt) (y := (32)) rfl rfl (by omega))).trans ((if_pos (own_ltT (x := (55295)) (y := p1.toInt) rfl rfl (by omega))).trans ((if_neg (own_ltF (x := p1.toInt) (y := (57344)) rfl rfl (by omega))).trans ((if_pos (own_ltT (x := (65533)) (y := p1.toInt) rfl rfl (by omega))).trans ((if_neg (own_ltF (x := p1.toInt) (y := (65536)) rfl rfl (by omega))).trans ((if_neg (own_ltF (x := (1114111)) (y := p1.toInt) rfl rfl (by omega))).trans (rfl)))))))))
    have e2 : own_g0 p1 = (1 : Int32) := (if_neg (own_ltF (x := p1.toInt) (y := (0)) rfl rfl (by omega))).trans ((if_neg (own_ltF (x := (1114111)) (y := p1.toInt) rfl rfl (by omega))).trans ((if_neg (own_ltF (x := p1.toInt) (y := (32)) rfl rfl (by omega))).trans ((if_neg (own_ltF (x := p1.toInt) (y := (55296)) rfl rfl (by omega))).trans ((if_pos (own_ltT (x := (57343)) (y := p1.toInt) rfl rfl (by omega))).trans ((if_neg (own_eqF (x := p1.toInt) (y := (65534)) rfl rfl (by omega))).trans ((if_neg (own_eqF (x := p1.toInt) (y := (65535)) rfl rfl (by omega))).trans (rfl)))))))
    exact e1.trans e2.symm
  by_cases k21 : p1.toInt < 1114112
  · have e1 : own_f0 p1 = (1 : Int32) := (if_neg (own_eqF (x := p1.toInt) (y := (9)) rfl rfl (by omega))).trans ((if_neg (own_eqF (x := p1.toInt) (y := (10)) rfl rfl (by omega))).trans ((if_neg (own_eqF (x := p1.toInt) (y := (13)) rfl rfl (by omega))).trans ((if_neg (own_ltF (x := p1.toInt) (y := (32)) rfl rfl (by omega))).trans ((if_pos (own_ltT (x := (55295)) (y := p1.toInt) rfl rfl (by omega))).trans ((if_neg (own_ltF (x := p1.toInt) (y := (57344)) rfl rfl (by omega))).trans ((if_pos (own_ltT (x := (65533)) (y := p1.toInt) rfl rfl (by omega))).trans ((if_neg (own_ltF (x := p1.toInt) (y := (65536)) rfl rfl (by omega))).trans ((if_neg (own_ltF (x := (1114111)) (y := p1.toInt) rfl rfl (by omega))).trans (rfl)))))))))
    have e2 : own_g0 p1 = (1 : Int32) := (if_neg (own_ltF (x := p1.toInt) (y := (0)) rfl rfl (by omega))).trans ((if_neg (own_ltF (x := (1114111)) (y := p1.toInt) rfl rfl (by omega))).trans ((if_neg (own_ltF (x := p1.toInt) (y := (32)) rfl rfl (by omega))).trans ((if_neg (own_ltF (x := p1.toInt) (y := (55296)) rfl rfl (by omega))).trans ((if_pos (own_ltT (x := (57343)) (y := p1.toInt) rfl rfl (by omega))).trans ((if_neg (own_eqF (x := p1.toInt) (y := (65534)) rfl rfl (by omega))).trans ((if_neg (own_eqF (x := p1.toInt) (y := (65535)) rfl rfl (by omega))).trans (rfl)))))))
    exact e1.trans e2.symm
  have e1 : own_f0 p1 = (0 : Int32) := (if_neg (own_eqF (x := p1.toInt) (y := (9)) rfl rfl (by omega))).trans ((if_neg (own_eqF (x := p1.toInt) (y := (10)) rfl rfl (by omega))).trans ((if_neg (own_eqF (x := p1.toInt) (y := (13)) rfl rfl (by omega))).trans ((if_neg (own_ltF (x := p1.toInt) (y := (32)) rfl rfl (by omega))).trans ((if_pos (own_ltT (x := (55295)) (y := p1.toInt) rfl rfl (by omega))).trans ((if_neg (own_ltF (x := p1.toInt) (y := (57344)) rfl rfl (by omega))).trans ((if_pos (own_ltT (x := (65533)) (y := p1.toInt) rfl rfl (by omega))).trans ((if_neg (own_ltF (x := p1.toInt) (y := (65536)) rfl rfl (by omega))).trans ((if_pos (own_ltT (x := (1114111)) (y := p1.toInt) rfl rfl (by omega))).trans (rfl)))))))))
  have e2 : own_g0 p1 = (0 : Int32) := (if_neg (own_ltF (x := p1.toInt) (y := (0)) rfl rfl (by omega))).trans ((if_pos (own_ltT (x := (1114111)) (y := p1.toInt) rfl rfl (by omega))).trans (rfl))
  exact e1.trans e2.symm
theorem ef_rm0 (m : MethodId) (x0 : Int32) (x1 : Int32) (x2 : Int32) : entryFrame m #[(.int x0), (.int x1), (.int x2)] maxLocals = mkF m 0 #[.val (.int x0), .val (.int x1), .val (.int x2), .unset, .unset, .unset, .unset] [] := by first | (simp [entryFrame, mkF, argsToLocals, Value.category, maxLocals]; done) | rfl
theorem pd__I_Z : parseMethodDescriptor "(I)Z" = some ⟨[.int], some .boolean⟩ := by decide +kernel
def Q_rm0 (Z : State) (p1 : Int32) (p2 : Int32) (p3 : Int32) (h0 : Heap) (n0 : Nat) (v : Option Value) (h : Heap) (L : List Loc) : Prop := v = some (.int (1 : Int32)) ∧ Fr n0 L
set_option maxRecDepth 65536 in
set_option maxHeartbeats 40000000 in
theorem rm0 (l : Launch) (Z : State) (a0 : Array Value) (hw : ∀ d ∈ tables_1, d.before a0 Z = true) (ws : List Jvm.Cond) (p1 : Int32) (p2 : Int32) (p3 : Int32) (h0 : Heap) (n0 : Nat) (Z0 : n0 ≤ h0.size) :
    MetFree l x (head1 (Jvm.Cond.code x code maxLocals ret :: ws) room_1) (fun a U => a = #[(.int p1), (.int p2), (.int p3)] ∧ Z.Warmed39 U.vm ∧ U.heap = h0) (fun _ _ _ _ _ => True) (fun _ U o U' => ∃ v L, o = .returned v ∧ Q_rm0 Z p1 p2 p3 h0 n0 v U'.heap L ∧ FrameEnd U o U' L 16 128) := by
  refine MetFree.of_bodySF (plainFor_of_name pn_com_example_yarkon_yarkon_document_DocumentCharactersIsCharPinLaw) hisR ?_
  intro p e s m args below meth c s₁ Bd hml0 hP hK
  obtain ⟨rfl, hZ, hh⟩ := hP
  have hx := Bd.exec
  have hby := Bd.bytes
  have hml : c.maxLocals = 7 := hml0
  have hown : s.vm.findClass "com/example/yarkon/yarkon/document/DocumentCharactersIsCharPinLaw" = some m.cls := findClass_of_methodNamed Bd.named
  have hnm := (name_of_methodNamed Bd.named Bd.method).1
  have X0 : Stand p l e room_1 s m #[(.int p1), (.int p2), (.int p3)] below meth c s₁ [] 0 0 := Stand.of_body Bd
  have e0 : s₁.heap = h0 := by rw [← hh, Bd.state]; rfl
  have N0 := Fr.nil n0
  have pre0 : ∀ t, Steps p.tables e below (s₁.setTop (mkF m 0 #[.val (.int p1), .val (.int p2), .val (.int p3), .unset, .unset, .unset, .unset] [])) t → Steps p.tables e below (s₁.setTop (entryFrame m #[(.int p1), (.int p2), (.int p3)] maxLocals)) t := fun t k => castTop (ef_rm0 m p1 p2 p3) k
  have pre1 : ∀ t, Steps p.tables e below (s₁.setTop (mkF m 2 #[.val (.int p1), .val (.int p2), .val (.int p3), .unset, .unset, .unset, .unset] [(.int (16 : Int32))])) t → Steps p.tables e below (s₁.setTop (entryFrame m #[(.int p1), (.int p2), (.int p3)] maxLocals)) t := fun t k => pre0 t (by
    show Steps p.tables e below (s₁.setTop (mkF m 0 #[.val (.int p1), .val (.int p2), .val (.int p3), .unset, .unset, .unset, .unset] [])) _
    refine XS.bipush X0.here hx rfl (hb hby at_0) ?_
    exact k)
  obtain ⟨T2, h2, k2, X2, e2, E2, A2, st2⟩ := newP X0 hx hZ (hw _ (List.mem_of_getElem? (i := 0) rfl)) e0 (g := (mkF m 2 #[.val (.int p1), .val (.int p2), .val (.int p3), .unset, .unset, .unset, .unset] [(.int (16 : Int32))])) rfl (hb hby at_2) rfl (by decide) (cap := 16) (by decide) (by decide) (by decide) (by decide)
  obtain ⟨b1, g2⟩ : ∃ z, z = h0.size := ⟨_, rfl⟩
  rw [← g2] at A2 st2
  have g_b1 : n0 ≤ b1 := Nat.le_trans Z0 (Nat.le_of_eq g2.symm)
  have pre3 : ∀ t, Steps p.tables e below (T2.setTop (mkF m 4 #[.val (.int p1), .val (.int p2), .val (.int p3), .unset, .unset, .unset, .unset] [(.ref b1)])) t → Steps p.tables e below (s₁.setTop (entryFrame m #[(.int p1), (.int p2), (.int p3)] maxLocals)) t := fun t k => pre1 t (st2 t k)
  have sz2 : n0 ≤ h2.size := Nat.le_trans Z0 E2.1
  have V_b1 : own_Ar Z h2 b1 .int 16 (fun _ => (.int (0 : Int32))) := own_Ar.new A2 (by decide)
  obtain ⟨co4, Ao4, So4, Ho4⟩ := id V_b1
  have io4 := (own_ld So4 Ho4 (j := (0 : Int32)) (i := 0) (by decide) rfl (by decide) rfl).1
  have pre5 : ∀ t, Steps p.tables e below (T2.setTop (mkF m 7 #[.val (.int p1), .val (.int p2), .val (.int p3), .unset, .unset, .unset, .unset] [(.int (0 : Int32)), (.int (0 : Int32)), (.ref b1), (.ref b1)])) t → Steps p.tables e below (s₁.setTop (entryFrame m #[(.int p1), (.int p2), (.int p3)] maxLocals)) t := fun t k => pre3 t (by
    show Steps p.tables e below (T2.setTop (mkF m 4 #[.val (.int p1), .val (.int p2), .val (.int p3), .unset, .unset, .unset, .unset] [(.ref b1)])) _
    refine XS.dup X2.here hx rfl (hb hby at_4) rfl rfl ?_
    show Steps p.tables e below (T2.setTop (mkF m 5 #[.val (.int p1), .val (.int p2), .val (.int p3), .unset, .unset, .unset, .unset] [(.ref b1), (.ref b1)])) _
    refine XS.iconst X2.here hx rfl (hb hby at_5) ?_
    show Steps p.tables e below (T2.setTop (mkF m 6 #[.val (.int p1), .val (.int p2), .val (.int p3), .unset, .unset, .unset, .unset] [(.int (0 : Int32)), (.ref b1), (.ref b1)])) _
    refine XS.iconst X2.here hx rfl (hb hby at_6) ?_
    exact k)
  obtain ⟨T6, h6, X6, e6, W6, st6⟩ := stI X2 hx hZ e2 Ao4 (j := (0 : Int32)) io4 (g := (mkF m 7 #[.val (.int p1), .val (.int p2), .val (.int p3), .unset, .unset, .unset, .unset] [(.int (0 : Int32)), (.int (0 : Int32)), (.ref b1), (.ref b1)])) rfl rfl (hb hby at_7)
  have pre7 : ∀ t, Steps p.tables e below (T6.setTop (mkF m 8 #[.val (.int p1), .val (.int p2), .val (.int p3), .unset, .unset, .unset, .unset] [(.ref b1)])) t → Steps p.tables e below (s₁.setTop (entryFrame m #[(.int p1), (.int p2), (.int p3)] maxLocals)) t := fun t k => pre5 t (st6 t k)
  have sz6 : n0 ≤ h6.size := Nat.le_trans sz2 (Keep.of_wr W6).1
  obtain ⟨gv6, V_b1_e6⟩ := own_wk (V_b1 : own_Ar Z _ b1 .int 16 (fun _ => (.int (0 : Int32)))) W6
  have N6 := Fr.snoc X6 N0 g_b1
  obtain ⟨co8, Ao8, So8, Ho8⟩ := id V_b1_e6
  have io8 := (own_ld So8 Ho8 (j := (1 : Int32)) (i := 1) (by decide) rfl (by decide) rfl).1
  have pre9 : ∀ t, Steps p.tables e below (T6.setTop (mkF m 12 #[.val (.int p1), .val (.int p2), .val (.int p3), .unset, .unset, .unset, .unset] [(.int (9 : Int32)), (.int (1 : Int32)), (.ref b1), (.ref b1)])) t → Steps p.tables e below (s₁.setTop (entryFrame m #[(.int p1), (.int p2), (.int p3)] maxLocals)) t := fun t k => pre7 t (by
    show Steps p.tables e below (T6.setTop (mkF m 8 #[.val (.int p1), .val (.int p2), .val (.int p3), .unset, .unset, .unset, .unset] [(.ref b1)])) _
    refine XS.dup X6.here hx rfl (hb hby at_8) rfl rfl ?_
    show Steps p.tables e below (T6.setTop (mkF m 9 #[.val (.int p1), .val (.int p2), .val (.int p3), .unset, .unset, .unset, .unset] [(.ref b1), (.ref b1)])) _
    refine XS.iconst X6.here hx rfl (hb hby at_9) ?_
    show Steps p.tables e below (T6.setTop (mkF m 10 #[.val (.int p1), .val (.int p2), .val (.int p3), .unset, .unset, .unset, .unset] [(.int (1 : Int32)), (.ref b1), (.ref b1)])) _
    refine XS.bipush X6.here hx rfl (hb hby at_10) ?_
    exact k)
  obtain ⟨T10, h10, X10, e10, W10, st10⟩ := stI X6 hx hZ e6 Ao8 (j := (1 : Int32)) io8 (g := (mkF m 12 #[.val (.int p1), .val (.int p2), .val (.int p3), .unset, .unset, .unset, .unset] [(.int (9 : Int32)), (.int (1 : Int32)), (.ref b1), (.ref b1)])) rfl rfl (hb hby at_12)
  have pre11 : ∀ t, Steps p.tables e below (T10.setTop (mkF m 13 #[.val (.int p1), .val (.int p2), .val (.int p3), .unset, .unset, .unset, .unset] [(.ref b1)])) t → Steps p.tables e below (s₁.setTop (entryFrame m #[(.int p1), (.int p2), (.int p3)] maxLocals)) t := fun t k => pre9 t (st10 t k)
  have sz10 : n0 ≤ h10.size := Nat.le_trans sz6 (Keep.of_wr W10).1
  obtain ⟨gv10, V_b1_e10⟩ := own_wk (V_b1_e6 : own_Ar Z _ b1 .int 16 (fun i => .int (gv6 i))) W10
  have N10 := Fr.snoc X10 N6 g_b1
  obtain ⟨co12, Ao12, So12, Ho12⟩ := id V_b1_e10
  have io12 := (own_ld So12 Ho12 (j := (2 : Int32)) (i := 2) (by decide) rfl (by decide) rfl).1
  have pre13 : ∀ t, Steps p.tables e below (T10.setTop (mkF m 17 #[.val (.int p1), .val (.int p2), .val (.int p3), .unset, .unset, .unset, .unset] [(.int (10 : Int32)), (.int (2 : Int32)), (.ref b1), (.ref b1)])) t → Steps p.tables e below (s₁.setTop (entryFrame m #[(.int p1), (.int p2), (.int p3)] maxLocals)) t := fun t k => pre11 t (by
    show Steps p.tables e below (T10.setTop (mkF m 13 #[.val (.int p1), .val (.int p2), .val (.int p3), .unset, .unset, .unset, .unset] [(.ref b1)])) _
    refine XS.dup X10.here hx rfl (hb hby at_13) rfl rfl ?_
    show Steps p.tables e below (T10.setTop (mkF m 14 #[.val (.int p1), .val (.int p2), .val (.int p3), .unset, .unset, .unset, .unset] [(.ref b1), (.ref b1)])) _
    refine XS.iconst X10.here hx rfl (hb hby at_14) ?_
    show Steps p.tables e below (T10.setTop (mkF m 15 #[.val (.int p1), .val (.int p2), .val (.int p3), .unset, .unset, .unset, .unset] [(.int (2 : Int32)), (.ref b1), (.ref b1)])) _
    refine XS.bipush X10.here hx rfl (hb hby at_15) ?_
    exact k)
  obtain ⟨T14, h14, X14, e14, W14, st14⟩ := stI X10 hx hZ e10 Ao12 (j := (2 : Int32)) io12 (g := (mkF m 17 #[.val (.int p1), .val (.int p2), .val (.int p3), .unset, .unset, .unset, .unset] [(.int (10 : Int32)), (.int (2 : Int32)), (.ref b1), (.ref b1)])) rfl rfl (hb hby at_17)
  have pre15 : ∀ t, Steps p.tables e below (T14.setTop (mkF m 18 #[.val (.int p1), .val (.int p2), .val (.int p3), .unset, .unset, .unset, .unset] [(.ref b1)])) t → Steps p.tables e below (s₁.setTop (entryFrame m #[(.int p1), (.int p2), (.int p3)] maxLocals)) t := fun t k => pre13 t (st14 t k)
  have sz14 : n0 ≤ h14.size := Nat.le_trans sz10 (Keep.of_wr W14).1
  obtain ⟨gv14, V_b1_e14⟩ := own_wk (V_b1_e10 : own_Ar Z _ b1 .int 16 (fun i => .int (gv10 i))) W14
  have N14 := Fr.snoc X14 N10 g_b1
  obtain ⟨co16, Ao16, So16, Ho16⟩ := id V_b1_e14
  have io16 := (own_ld So16 Ho16 (j := (3 : Int32)) (i := 3) (by decide) rfl (by decide) rfl).1
  have pre17 : ∀ t, Steps p.tables e below (T14.setTop (mkF m 22 #[.val (.int p1), .val (.int p2), .val (.int p3), .unset, .unset, .unset, .unset] [(.int (13 : Int32)), (.int (3 : Int32)), (.ref b1), (.ref b1)])) t → Steps p.tables e below (s₁.setTop (entryFrame m #[(.int p1), (.int p2), (.int p3)] maxLocals)) t := fun t k => pre15 t (by
    show Steps p.tables e below (T14.setTop (mkF m 18 #[.val (.int p1), .val (.int p2), .val (.int p3), .unset, .unset, .unset, .unset] [(.ref b1)])) _
    refine XS.dup X14.here hx rfl (hb hby at_18) rfl rfl ?_
    show Steps p.tables e below (T14.setTop (mkF m 19 #[.val (.int p1), .val (.int p2), .val (.int p3), .unset, .unset, .unset, .unset] [(.ref b1), (.ref b1)])) _
    refine XS.iconst X14.here hx rfl (hb hby at_19) ?_
    show Steps p.tables e below (T14.setTop (mkF m 20 #[.val (.int p1), .val (.int p2), .val (.int p3), .unset, .unset, .unset, .unset] [(.int (3 : Int32)), (.ref b1), (.ref b1)])) _
    refine XS.bipush X14.here hx rfl (hb hby at_20) ?_
    exact k)
  obtain ⟨T18, h18, X18, e18, W18, st18⟩ := stI X14 hx hZ e14 Ao16 (j := (3 : Int32)) io16 (g := (mkF m 22 #[.val (.int p1), .val (.int p2), .val (.int p3), .unset, .unset, .unset, .unset] [(.int (13 : Int32)), (.int (3 : Int32)), (.ref b1), (.ref b1)])) rfl rfl (hb hby at_22)
  have pre19 : ∀ t, Steps p.tables e below (T18.setTop (mkF m 23 #[.val (.int p1), .val (.int p2), .val (.int p3), .unset, .unset, .unset, .unset] [(.ref b1)])) t → Steps p.tables e below (s₁.setTop (entryFrame m #[(.int p1), (.int p2), (.int p3)] maxLocals)) t := fun t k => pre17 t (st18 t k)
  have sz18 : n0 ≤ h18.size := Nat.le_trans sz14 (Keep.of_wr W18).1
  obtain ⟨gv18, V_b1_e18⟩ := own_wk (V_b1_e14 : own_Ar Z _ b1 .int 16 (fun i => .int (gv14 i))) W18
  have N18 := Fr.snoc X18 N14 g_b1
  obtain ⟨co20, Ao20, So20, Ho20⟩ := id V_b1_e18
  have io20 := (own_ld So20 Ho20 (j := (4 : Int32)) (i := 4) (by decide) rfl (by decide) rfl).1
  have pre21 : ∀ t, Steps p.tables e below (T18.setTop (mkF m 27 #[.val (.int p1), .val (.int p2), .val (.int p3), .unset, .unset, .unset, .unset] [(.int (32 : Int32)), (.int (4 : Int32)), (.ref b1), (.ref b1)])) t → Steps p.tables e below (s₁.setTop (entryFrame m #[(.int p1), (.int p2), (.int p3)] maxLocals)) t := fun t k => pre19 t (by
    show Steps p.tables e below (T18.setTop (mkF m 23 #[.val (.int p1), .val (.int p2), .val (.int p3), .unset, .unset, .unset, .unset] [(.ref b1)])) _
    refine XS.dup X18.here hx rfl (hb hby at_23) rfl rfl ?_
    show Steps p.tables e below (T18.setTop (mkF m 24 #[.val (.int p1), .val (.int p2), .val (.int p3), .unset, .unset, .unset, .unset] [(.ref b1), (.ref b1)])) _
    refine XS.iconst X18.here hx rfl (hb hby at_24) ?_
    show Steps p.tables e below (T18.setTop (mkF m 25 #[.val (.int p1), .val (.int p2), .val (.int p3), .unset, .unset, .unset, .unset] [(.int (4 : Int32)), (.ref b1), (.ref b1)])) _
    refine XS.bipush X18.here hx rfl (hb hby at_25) ?_
    exact k)
  obtain ⟨T22, h22, X22, e22, W22, st22⟩ := stI X18 hx hZ e18 Ao20 (j := (4 : Int32)) io20 (g := (mkF m 27 #[.val (.int p1), .val (.int p2), .val (.int p3), .unset, .unset, .unset, .unset] [(.int (32 : Int32)), (.int (4 : Int32)), (.ref b1), (.ref b1)])) rfl rfl (hb hby at_27)
  have pre23 : ∀ t, Steps p.tables e below (T22.setTop (mkF m 28 #[.val (.int p1), .val (.int p2), .val (.int p3), .unset, .unset, .unset, .unset] [(.ref b1)])) t → Steps p.tables e below (s₁.setTop (entryFrame m #[(.int p1), (.int p2), (.int p3)] maxLocals)) t := fun t k => pre21 t (st22 t k)
  have sz22 : n0 ≤ h22.size := Nat.le_trans sz18 (Keep.of_wr W22).1
  obtain ⟨gv22, V_b1_e22⟩ := own_wk (V_b1_e18 : own_Ar Z _ b1 .int 16 (fun i => .int (gv18 i))) W22
  have N22 := Fr.snoc X22 N18 g_b1
  obtain ⟨co24, Ao24, So24, Ho24⟩ := id V_b1_e22
  have io24 := (own_ld So24 Ho24 (j := (5 : Int32)) (i := 5) (by decide) rfl (by decide) rfl).1
  have pre25 : ∀ t, Steps p.tables e below (T22.setTop (mkF m 32 #[.val (.int p1), .val (.int p2), .val (.int p3), .unset, .unset, .unset, .unset] [(.int (55295 : Int32)), (.int (5 : Int32)), (.ref b1), (.ref b1)])) t → Steps p.tables e below (s₁.setTop (entryFrame m #[(.int p1), (.int p2), (.int p3)] maxLocals)) t := fun t k => pre23 t (by
    show Steps p.tables e below (T22.setTop (mkF m 28 #[.val (.int p1), .val (.int p2), .val (.int p3), .unset, .unset, .unset, .unset] [(.ref b1)])) _
    refine XS.dup X22.here hx rfl (hb hby at_28) rfl rfl ?_
    show Steps p.tables e below (T22.setTop (mkF m 29 #[.val (.int p1), .val (.int p2), .val (.int p3), .unset, .unset, .unset, .unset] [(.ref b1), (.ref b1)])) _
    refine XS.iconst X22.here hx rfl (hb hby at_29) ?_
    show Steps p.tables e below (T22.setTop (mkF m 30 #[.val (.int p1), .val (.int p2), .val (.int p3), .unset, .unset, .unset, .unset] [(.int (5 : Int32)), (.ref b1), (.ref b1)])) _
    refine X22.ldcI hx hown (mvT hZ (hw _ (List.mem_of_getElem? (i := 1) rfl))) rfl (hb hby at_30) ?_
    exact k)
  obtain ⟨T26, h26, X26, e26, W26, st26⟩ := stI X22 hx hZ e22 Ao24 (j := (5 : Int32)) io24 (g := (mkF m 32 #[.val (.int p1), .val (.int p2), .val (.int p3), .unset, .unset, .unset, .unset] [(.int (55295 : Int32)), (.int (5 : Int32)), (.ref b1), (.ref b1)])) rfl rfl (hb hby at_32)
  have pre27 : ∀ t, Steps p.tables e below (T26.setTop (mkF m 33 #[.val (.int p1), .val (.int p2), .val (.int p3), .unset, .unset, .unset, .unset] [(.ref b1)])) t → Steps p.tables e below (s₁.setTop (entryFrame m #[(.int p1), (.int p2), (.int p3)] maxLocals)) t := fun t k => pre25 t (st26 t k)
  have sz26 : n0 ≤ h26.size := Nat.le_trans sz22 (Keep.of_wr W26).1
  obtain ⟨gv26, V_b1_e26⟩ := own_wk (V_b1_e22 : own_Ar Z _ b1 .int 16 (fun i => .int (gv22 i))) W26
  have N26 := Fr.snoc X26 N22 g_b1
  obtain ⟨co28, Ao28, So28, Ho28⟩ := id V_b1_e26
  have io28 := (own_ld So28 Ho28 (j := (6 : Int32)) (i := 6) (by decide) rfl (by decide) rfl).1
  have pre29 : ∀ t, Steps p.tables e below (T26.setTop (mkF m 38 #[.val (.int p1), .val (.int p2), .val (.int p3), .unset, .unset, .unset, .unset] [(.int (55296 : Int32)), (.int (6 : Int32)), (.ref b1), (.ref b1)])) t → Steps p.tables e below (s₁.setTop (entryFrame m #[(.int p1), (.int p2), (.int p3)] maxLocals)) t := fun t k => pre27 t (by
    show Steps p.tables e below (T26.setTop (mkF m 33 #[.val (.int p1), .val (.int p2), .val (.int p3), .unset, .unset, .unset, .unset] [(.ref b1)])) _
    refine XS.dup X26.here hx rfl (hb hby at_33) rfl rfl ?_
    show Steps p.tables e below (T26.setTop (mkF m 34 #[.val (.int p1), .val (.int p2), .val (.int p3), .unset, .unset, .unset, .unset] [(.ref b1), (.ref b1)])) _
    refine XS.bipush X26.here hx rfl (hb hby at_34) ?_
    show Steps p.tables e below (T26.setTop (mkF m 36 #[.val (.int p1), .val (.int p2), .val (.int p3), .unset, .unset, .unset, .unset] [(.int (6 : Int32)), (.ref b1), (.ref b1)])) _
    refine X26.ldcI hx hown (mvT hZ (hw _ (List.mem_of_getElem? (i := 2) rfl))) rfl (hb hby at_36) ?_
    exact k)
  obtain ⟨T30, h30, X30, e30, W30, st30⟩ := stI X26 hx hZ e26 Ao28 (j := (6 : Int32)) io28 (g := (mkF m 38 #[.val (.int p1), .val (.int p2), .val (.int p3), .unset, .unset, .unset, .unset] [(.int (55296 : Int32)), (.int (6 : Int32)), (.ref b1), (.ref b1)])) rfl rfl (hb hby at_38)
  have pre31 : ∀ t, Steps p.tables e below (T30.setTop (mkF m 39 #[.val (.int p1), .val (.int p2), .val (.int p3), .unset, .unset, .unset, .unset] [(.ref b1)])) t → Steps p.tables e below (s₁.setTop (entryFrame m #[(.int p1), (.int p2), (.int p3)] maxLocals)) t := fun t k => pre29 t (st30 t k)
  have sz30 : n0 ≤ h30.size := Nat.le_trans sz26 (Keep.of_wr W30).1
  obtain ⟨gv30, V_b1_e30⟩ := own_wk (V_b1_e26 : own_Ar Z _ b1 .int 16 (fun i => .int (gv26 i))) W30
  have N30 := Fr.snoc X30 N26 g_b1
  obtain ⟨co32, Ao32, So32, Ho32⟩ := id V_b1_e30
  have io32 := (own_ld So32 Ho32 (j := (7 : Int32)) (i := 7) (by decide) rfl (by decide) rfl).1
  have pre33 : ∀ t, Steps p.tables e below (T30.setTop (mkF m 44 #[.val (.int p1), .val (.int p2), .val (.int p3), .unset, .unset, .unset, .unset] [(.int (57343 : Int32)), (.int (7 : Int32)), (.ref b1), (.ref b1)])) t → Steps p.tables e below (s₁.setTop (entryFrame m #[(.int p1), (.int p2), (.int p3)] maxLocals)) t := fun t k => pre31 t (by
    show Steps p.tables e below (T30.setTop (mkF m 39 #[.val (.int p1), .val (.int p2), .val (.int p3), .unset, .unset, .unset, .unset] [(.ref b1)])) _
    refine XS.dup X30.here hx rfl (hb hby at_39) rfl rfl ?_
    show Steps p.tables e below (T30.setTop (mkF m 40 #[.val (.int p1), .val (.int p2), .val (.int p3), .unset, .unset, .unset, .unset] [(.ref b1), (.ref b1)])) _
    refine XS.bipush X30.here hx rfl (hb hby at_40) ?_
    show Steps p.tables e below (T30.setTop (mkF m 42 #[.val (.int p1), .val (.int p2), .val (.int p3), .unset, .unset, .unset, .unset] [(.int (7 : Int32)), (.ref b1), (.ref b1)])) _
    refine X30.ldcI hx hown (mvT hZ (hw _ (List.mem_of_getElem? (i := 3) rfl))) rfl (hb hby at_42) ?_
    exact k)
  obtain ⟨T34, h34, X34, e34, W34, st34⟩ := stI X30 hx hZ e30 Ao32 (j := (7 : Int32)) io32 (g := (mkF m 44 #[.val (.int p1), .val (.int p2), .val (.int p3), .unset, .unset, .unset, .unset] [(.int (57343 : Int32)), (.int (7 : Int32)), (.ref b1), (.ref b1)])) rfl rfl (hb hby at_44)
  have pre35 : ∀ t, Steps p.tables e below (T34.setTop (mkF m 45 #[.val (.int p1), .val (.int p2), .val (.int p3), .unset, .unset, .unset, .unset] [(.ref b1)])) t → Steps p.tables e below (s₁.setTop (entryFrame m #[(.int p1), (.int p2), (.int p3)] maxLocals)) t := fun t k => pre33 t (st34 t k)
  have sz34 : n0 ≤ h34.size := Nat.le_trans sz30 (Keep.of_wr W34).1
  obtain ⟨gv34, V_b1_e34⟩ := own_wk (V_b1_e30 : own_Ar Z _ b1 .int 16 (fun i => .int (gv30 i))) W34
  have N34 := Fr.snoc X34 N30 g_b1
  obtain ⟨co36, Ao36, So36, Ho36⟩ := id V_b1_e34
  have io36 := (own_ld So36 Ho36 (j := (8 : Int32)) (i := 8) (by decide) rfl (by decide) rfl).1
  have pre37 : ∀ t, Steps p.tables e below (T34.setTop (mkF m 50 #[.val (.int p1), .val (.int p2), .val (.int p3), .unset, .unset, .unset, .unset] [(.int (57344 : Int32)), (.int (8 : Int32)), (.ref b1), (.ref b1)])) t → Steps p.tables e below (s₁.setTop (entryFrame m #[(.int p1), (.int p2), (.int p3)] maxLocals)) t := fun t k => pre35 t (by
    show Steps p.tables e below (T34.setTop (mkF m 45 #[.val (.int p1), .val (.int p2), .val (.int p3), .unset, .unset, .unset, .unset] [(.ref b1)])) _
    refine XS.dup X34.here hx rfl (hb hby at_45) rfl rfl ?_
    show Steps p.tables e below (T34.setTop (mkF m 46 #[.val (.int p1), .val (.int p2), .val (.int p3), .unset, .unset, .unset, .unset] [(.ref b1), (.ref b1)])) _
    refine XS.bipush X34.here hx rfl (hb hby at_46) ?_
    show Steps p.tables e below (T34.setTop (mkF m 48 #[.val (.int p1), .val (.int p2), .val (.int p3), .unset, .unset, .unset, .unset] [(.int (8 : Int32)), (.ref b1), (.ref b1)])) _
    refine X34.ldcI hx hown (mvT hZ (hw _ (List.mem_of_getElem? (i := 4) rfl))) rfl (hb hby at_48) ?_
    exact k)
  obtain ⟨T38, h38, X38, e38, W38, st38⟩ := stI X34 hx hZ e34 Ao36 (j := (8 : Int32)) io36 (g := (mkF m 50 #[.val (.int p1), .val (.int p2), .val (.int p3), .unset, .unset, .unset, .unset] [(.int (57344 : Int32)), (.int (8 : Int32)), (.ref b1), (.ref b1)])) rfl rfl (hb hby at_50)
  have pre39 : ∀ t, Steps p.tables e below (T38.setTop (mkF m 51 #[.val (.int p1), .val (.int p2), .val (.int p3), .unset, .unset, .unset, .unset] [(.ref b1)])) t → Steps p.tables e below (s₁.setTop (entryFrame m #[(.int p1), (.int p2), (.int p3)] maxLocals)) t := fun t k => pre37 t (st38 t k)
  have sz38 : n0 ≤ h38.size := Nat.le_trans sz34 (Keep.of_wr W38).1
  obtain ⟨gv38, V_b1_e38⟩ := own_wk (V_b1_e34 : own_Ar Z _ b1 .int 16 (fun i => .int (gv34 i))) W38
  have N38 := Fr.snoc X38 N34 g_b1
  obtain ⟨co40, Ao40, So40, Ho40⟩ := id V_b1_e38
  have io40 := (own_ld So40 Ho40 (j := (9 : Int32)) (i := 9) (by decide) rfl (by decide) rfl).1
  have pre41 : ∀ t, Steps p.tables e below (T38.setTop (mkF m 56 #[.val (.int p1), .val (.int p2), .val (.int p3), .unset, .unset, .unset, .unset] [(.int (65533 : Int32)), (.int (9 : Int32)), (.ref b1), (.ref b1)])) t → Steps p.tables e below (s₁.setTop (entryFrame m #[(.int p1), (.int p2), (.int p3)] maxLocals)) t := fun t k => pre39 t (by
    show Steps p.tables e below (T38.setTop (mkF m 51 #[.val (.int p1), .val (.int p2), .val (.int p3), .unset, .unset, .unset, .unset] [(.ref b1)])) _
    refine XS.dup X38.here hx rfl (hb hby at_51) rfl rfl ?_
    show Steps p.tables e below (T38.setTop (mkF m 52 #[.val (.int p1), .val (.int p2), .val (.int p3), .unset, .unset, .unset, .unset] [(.ref b1), (.ref b1)])) _
    refine XS.bipush X38.here hx rfl (hb hby at_52) ?_
    show Steps p.tables e below (T38.setTop (mkF m 54 #[.val (.int p1), .val (.int p2), .val (.int p3), .unset, .unset, .unset, .unset] [(.int (9 : Int32)), (.ref b1), (.ref b1)])) _
    refine X38.ldcI hx hown (mvT hZ (hw _ (List.mem_of_getElem? (i := 5) rfl))) rfl (hb hby at_54) ?_
    exact k)
  obtain ⟨T42, h42, X42, e42, W42, st42⟩ := stI X38 hx hZ e38 Ao40 (j := (9 : Int32)) io40 (g := (mkF m 56 #[.val (.int p1), .val (.int p2), .val (.int p3), .unset, .unset, .unset, .unset] [(.int (65533 : Int32)), (.int (9 : Int32)), (.ref b1), (.ref b1)])) rfl rfl (hb hby at_56)
  have pre43 : ∀ t, Steps p.tables e below (T42.setTop (mkF m 57 #[.val (.int p1), .val (.int p2), .val (.int p3), .unset, .unset, .unset, .unset] [(.ref b1)])) t → Steps p.tables e below (s₁.setTop (entryFrame m #[(.int p1), (.int p2), (.int p3)] maxLocals)) t := fun t k => pre41 t (st42 t k)
  have sz42 : n0 ≤ h42.size := Nat.le_trans sz38 (Keep.of_wr W42).1
  obtain ⟨gv42, V_b1_e42⟩ := own_wk (V_b1_e38 : own_Ar Z _ b1 .int 16 (fun i => .int (gv38 i))) W42
  have N42 := Fr.snoc X42 N38 g_b1
  obtain ⟨co44, Ao44, So44, Ho44⟩ := id V_b1_e42
  have io44 := (own_ld So44 Ho44 (j := (10 : Int32)) (i := 10) (by decide) rfl (by decide) rfl).1
  have pre45 : ∀ t, Steps p.tables e below (T42.setTop (mkF m 62 #[.val (.int p1), .val (.int p2), .val (.int p3), .unset, .unset, .unset, .unset] [(.int (65534 : Int32)), (.int (10 : Int32)), (.ref b1), (.ref b1)])) t → Steps p.tables e below (s₁.setTop (entryFrame m #[(.int p1), (.int p2), (.int p3)] maxLocals)) t := fun t k => pre43 t (by
    show Steps p.tables e below (T42.setTop (mkF m 57 #[.val (.int p1), .val (.int p2), .val (.int p3), .unset, .unset, .unset, .unset] [(.ref b1)])) _
    refine XS.dup X42.here hx rfl (hb hby at_57) rfl rfl ?_
    show Steps p.tables e below (T42.setTop (mkF m 58 #[.val (.int p1), .val (.int p2), .val (.int p3), .unset, .unset, .unset, .unset] [(.ref b1), (.ref b1)])) _
    refine XS.bipush X42.here hx rfl (hb hby at_58) ?_
    show Steps p.tables e below (T42.setTop (mkF m 60 #[.val (.int p1), .val (.int p2), .val (.int p3), .unset, .unset, .unset, .unset] [(.int (10 : Int32)), (.ref b1), (.ref b1)])) _
    refine X42.ldcI hx hown (mvT hZ (hw _ (List.mem_of_getElem? (i := 6) rfl))) rfl (hb hby at_60) ?_
    exact k)
  obtain ⟨T46, h46, X46, e46, W46, st46⟩ := stI X42 hx hZ e42 Ao44 (j := (10 : Int32)) io44 (g := (mkF m 62 #[.val (.int p1), .val (.int p2), .val (.int p3), .unset, .unset, .unset, .unset] [(.int (65534 : Int32)), (.int (10 : Int32)), (.ref b1), (.ref b1)])) rfl rfl (hb hby at_62)
  have pre47 : ∀ t, Steps p.tables e below (T46.setTop (mkF m 63 #[.val (.int p1), .val (.int p2), .val (.int p3), .unset, .unset, .unset, .unset] [(.ref b1)])) t → Steps p.tables e below (s₁.setTop (entryFrame m #[(.int p1), (.int p2), (.int p3)] maxLocals)) t := fun t k => pre45 t (st46 t k)
  have sz46 : n0 ≤ h46.size := Nat.le_trans sz42 (Keep.of_wr W46).1
  obtain ⟨gv46, V_b1_e46⟩ := own_wk (V_b1_e42 : own_Ar Z _ b1 .int 16 (fun i => .int (gv42 i))) W46
  have N46 := Fr.snoc X46 N42 g_b1
  obtain ⟨co48, Ao48, So48, Ho48⟩ := id V_b1_e46
  have io48 := (own_ld So48 Ho48 (j := (11 : Int32)) (i := 11) (by decide) rfl (by decide) rfl).1
  have pre49 : ∀ t, Steps p.tables e below (T46.setTop (mkF m 68 #[.val (.int p1), .val (.int p2), .val (.int p3), .unset, .unset, .unset, .unset] [(.int (65535 : Int32)), (.int (11 : Int32)), (.ref b1), (.ref b1)])) t → Steps p.tables e below (s₁.setTop (entryFrame m #[(.int p1), (.int p2), (.int p3)] maxLocals)) t := fun t k => pre47 t (by
    show Steps p.tables e below (T46.setTop (mkF m 63 #[.val (.int p1), .val (.int p2), .val (.int p3), .unset, .unset, .unset, .unset] [(.ref b1)])) _
    refine XS.dup X46.here hx rfl (hb hby at_63) rfl rfl ?_
    show Steps p.tables e below (T46.setTop (mkF m 64 #[.val (.int p1), .val (.int p2), .val (.int p3), .unset, .unset, .unset, .unset] [(.ref b1), (.ref b1)])) _
    refine XS.bipush X46.here hx rfl (hb hby at_64) ?_
    show Steps p.tables e below (T46.setTop (mkF m 66 #[.val (.int p1), .val (.int p2), .val (.int p3), .unset, .unset, .unset, .unset] [(.int (11 : Int32)), (.ref b1), (.ref b1)])) _
    refine X46.ldcI hx hown (mvT hZ (hw _ (List.mem_of_getElem? (i := 7) rfl))) rfl (hb hby at_66) ?_
    exact k)
  obtain ⟨T50, h50, X50, e50, W50, st50⟩ := stI X46 hx hZ e46 Ao48 (j := (11 : Int32)) io48 (g := (mkF m 68 #[.val (.int p1), .val (.int p2), .val (.int p3), .unset, .unset, .unset, .unset] [(.int (65535 : Int32)), (.int (11 : Int32)), (.ref b1), (.ref b1)])) rfl rfl (hb hby at_68)
  have pre51 : ∀ t, Steps p.tables e below (T50.setTop (mkF m 69 #[.val (.int p1), .val (.int p2), .val (.int p3), .unset, .unset, .unset, .unset] [(.ref b1)])) t → Steps p.tables e below (s₁.setTop (entryFrame m #[(.int p1), (.int p2), (.int p3)] maxLocals)) t := fun t k => pre49 t (st50 t k)
  have sz50 : n0 ≤ h50.size := Nat.le_trans sz46 (Keep.of_wr W50).1
  obtain ⟨gv50, V_b1_e50⟩ := own_wk (V_b1_e46 : own_Ar Z _ b1 .int 16 (fun i => .int (gv46 i))) W50
  have N50 := Fr.snoc X50 N46 g_b1
  obtain ⟨co52, Ao52, So52, Ho52⟩ := id V_b1_e50
  have io52 := (own_ld So52 Ho52 (j := (12 : Int32)) (i := 12) (by decide) rfl (by decide) rfl).1
  have pre53 : ∀ t, Steps p.tables e below (T50.setTop (mkF m 74 #[.val (.int p1), .val (.int p2), .val (.int p3), .unset, .unset, .unset, .unset] [(.int (65536 : Int32)), (.int (12 : Int32)), (.ref b1), (.ref b1)])) t → Steps p.tables e below (s₁.setTop (entryFrame m #[(.int p1), (.int p2), (.int p3)] maxLocals)) t := fun t k => pre51 t (by
    show Steps p.tables e below (T50.setTop (mkF m 69 #[.val (.int p1), .val (.int p2), .val (.int p3), .unset, .unset, .unset, .unset] [(.ref b1)])) _
    refine XS.dup X50.here hx rfl (hb hby at_69) rfl rfl ?_
    show Steps p.tables e below (T50.setTop (mkF m 70 #[.val (.int p1), .val (.int p2), .val (.int p3), .unset, .unset, .unset, .unset] [(.ref b1), (.ref b1)])) _
    refine XS.bipush X50.here hx rfl (hb hby at_70) ?_
    show Steps p.tables e below (T50.setTop (mkF m 72 #[.val (.int p1), .val (.int p2), .val (.int p3), .unset, .unset, .unset, .unset] [(.int (12 : Int32)), (.ref b1), (.ref b1)])) _
    refine X50.ldcI hx hown (mvT hZ (hw _ (List.mem_of_getElem? (i := 8) rfl))) rfl (hb hby at_72) ?_
    exact k)
  obtain ⟨T54, h54, X54, e54, W54, st54⟩ := stI X50 hx hZ e50 Ao52 (j := (12 : Int32)) io52 (g := (mkF m 74 #[.val (.int p1), .val (.int p2), .val (.int p3), .unset, .unset, .unset, .unset] [(.int (65536 : Int32)), (.int (12 : Int32)), (.ref b1), (.ref b1)])) rfl rfl (hb hby at_74)
  have pre55 : ∀ t, Steps p.tables e below (T54.setTop (mkF m 75 #[.val (.int p1), .val (.int p2), .val (.int p3), .unset, .unset, .unset, .unset] [(.ref b1)])) t → Steps p.tables e below (s₁.setTop (entryFrame m #[(.int p1), (.int p2), (.int p3)] maxLocals)) t := fun t k => pre53 t (st54 t k)
  have sz54 : n0 ≤ h54.size := Nat.le_trans sz50 (Keep.of_wr W54).1
  obtain ⟨gv54, V_b1_e54⟩ := own_wk (V_b1_e50 : own_Ar Z _ b1 .int 16 (fun i => .int (gv50 i))) W54
  have N54 := Fr.snoc X54 N50 g_b1
  obtain ⟨co56, Ao56, So56, Ho56⟩ := id V_b1_e54
  have io56 := (own_ld So56 Ho56 (j := (13 : Int32)) (i := 13) (by decide) rfl (by decide) rfl).1
  have pre57 : ∀ t, Steps p.tables e below (T54.setTop (mkF m 80 #[.val (.int p1), .val (.int p2), .val (.int p3), .unset, .unset, .unset, .unset] [(.int (1114111 : Int32)), (.int (13 : Int32)), (.ref b1), (.ref b1)])) t → Steps p.tables e below (s₁.setTop (entryFrame m #[(.int p1), (.int p2), (.int p3)] maxLocals)) t := fun t k => pre55 t (by
    show Steps p.tables e below (T54.setTop (mkF m 75 #[.val (.int p1), .val (.int p2), .val (.int p3), .unset, .unset, .unset, .unset] [(.ref b1)])) _
    refine XS.dup X54.here hx rfl (hb hby at_75) rfl rfl ?_
    show Steps p.tables e below (T54.setTop (mkF m 76 #[.val (.int p1), .val (.int p2), .val (.int p3), .unset, .unset, .unset, .unset] [(.ref b1), (.ref b1)])) _
    refine XS.bipush X54.here hx rfl (hb hby at_76) ?_
    show Steps p.tables e below (T54.setTop (mkF m 78 #[.val (.int p1), .val (.int p2), .val (.int p3), .unset, .unset, .unset, .unset] [(.int (13 : Int32)), (.ref b1), (.ref b1)])) _
    refine X54.ldcI hx hown (mvT hZ (hw _ (List.mem_of_getElem? (i := 9) rfl))) rfl (hb hby at_78) ?_
    exact k)
  obtain ⟨T58, h58, X58, e58, W58, st58⟩ := stI X54 hx hZ e54 Ao56 (j := (13 : Int32)) io56 (g := (mkF m 80 #[.val (.int p1), .val (.int p2), .val (.int p3), .unset, .unset, .unset, .unset] [(.int (1114111 : Int32)), (.int (13 : Int32)), (.ref b1), (.ref b1)])) rfl rfl (hb hby at_80)
  have pre59 : ∀ t, Steps p.tables e below (T58.setTop (mkF m 81 #[.val (.int p1), .val (.int p2), .val (.int p3), .unset, .unset, .unset, .unset] [(.ref b1)])) t → Steps p.tables e below (s₁.setTop (entryFrame m #[(.int p1), (.int p2), (.int p3)] maxLocals)) t := fun t k => pre57 t (st58 t k)
  have sz58 : n0 ≤ h58.size := Nat.le_trans sz54 (Keep.of_wr W58).1
  obtain ⟨gv58, V_b1_e58⟩ := own_wk (V_b1_e54 : own_Ar Z _ b1 .int 16 (fun i => .int (gv54 i))) W58
  have N58 := Fr.snoc X58 N54 g_b1
  obtain ⟨co60, Ao60, So60, Ho60⟩ := id V_b1_e58
  have io60 := (own_ld So60 Ho60 (j := (14 : Int32)) (i := 14) (by decide) rfl (by decide) rfl).1
  have pre61 : ∀ t, Steps p.tables e below (T58.setTop (mkF m 86 #[.val (.int p1), .val (.int p2), .val (.int p3), .unset, .unset, .unset, .unset] [(.int (1114112 : Int32)), (.int (14 : Int32)), (.ref b1), (.ref b1)])) t → Steps p.tables e below (s₁.setTop (entryFrame m #[(.int p1), (.int p2), (.int p3)] maxLocals)) t := fun t k => pre59 t (by
    show Steps p.tables e below (T58.setTop (mkF m 81 #[.val (.int p1), .val (.int p2), .val (.int p3), .unset, .unset, .unset, .unset] [(.ref b1)])) _
    refine XS.dup X58.here hx rfl (hb hby at_81) rfl rfl ?_
    show Steps p.tables e below (T58.setTop (mkF m 82 #[.val (.int p1), .val (.int p2), .val (.int p3), .unset, .unset, .unset, .unset] [(.ref b1), (.ref b1)])) _
    refine XS.bipush X58.here hx rfl (hb hby at_82) ?_
    show Steps p.tables e below (T58.setTop (mkF m 84 #[.val (.int p1), .val (.int p2), .val (.int p3), .unset, .unset, .unset, .unset] [(.int (14 : Int32)), (.ref b1), (.ref b1)])) _
    refine X58.ldcI hx hown (mvT hZ (hw _ (List.mem_of_getElem? (i := 10) rfl))) rfl (hb hby at_84) ?_
    exact k)
  obtain ⟨T62, h62, X62, e62, W62, st62⟩ := stI X58 hx hZ e58 Ao60 (j := (14 : Int32)) io60 (g := (mkF m 86 #[.val (.int p1), .val (.int p2), .val (.int p3), .unset, .unset, .unset, .unset] [(.int (1114112 : Int32)), (.int (14 : Int32)), (.ref b1), (.ref b1)])) rfl rfl (hb hby at_86)
  have pre63 : ∀ t, Steps p.tables e below (T62.setTop (mkF m 87 #[.val (.int p1), .val (.int p2), .val (.int p3), .unset, .unset, .unset, .unset] [(.ref b1)])) t → Steps p.tables e below (s₁.setTop (entryFrame m #[(.int p1), (.int p2), (.int p3)] maxLocals)) t := fun t k => pre61 t (st62 t k)
  have sz62 : n0 ≤ h62.size := Nat.le_trans sz58 (Keep.of_wr W62).1
  obtain ⟨gv62, V_b1_e62⟩ := own_wk (V_b1_e58 : own_Ar Z _ b1 .int 16 (fun i => .int (gv58 i))) W62
  have N62 := Fr.snoc X62 N58 g_b1
  obtain ⟨co64, Ao64, So64, Ho64⟩ := id V_b1_e62
  have io64 := (own_ld So64 Ho64 (j := (15 : Int32)) (i := 15) (by decide) rfl (by decide) rfl).1
  have pre65 : ∀ t, Steps p.tables e below (T62.setTop (mkF m 92 #[.val (.int p1), .val (.int p2), .val (.int p3), .unset, .unset, .unset, .unset] [(.int (2147483647 : Int32)), (.int (15 : Int32)), (.ref b1), (.ref b1)])) t → Steps p.tables e below (s₁.setTop (entryFrame m #[(.int p1), (.int p2), (.int p3)] maxLocals)) t := fun t k => pre63 t (by
    show Steps p.tables e below (T62.setTop (mkF m 87 #[.val (.int p1), .val (.int p2), .val (.int p3), .unset, .unset, .unset, .unset] [(.ref b1)])) _
    refine XS.dup X62.here hx rfl (hb hby at_87) rfl rfl ?_
    show Steps p.tables e below (T62.setTop (mkF m 88 #[.val (.int p1), .val (.int p2), .val (.int p3), .unset, .unset, .unset, .unset] [(.ref b1), (.ref b1)])) _
    refine XS.bipush X62.here hx rfl (hb hby at_88) ?_
    show Steps p.tables e below (T62.setTop (mkF m 90 #[.val (.int p1), .val (.int p2), .val (.int p3), .unset, .unset, .unset, .unset] [(.int (15 : Int32)), (.ref b1), (.ref b1)])) _
    refine X62.ldcI hx hown (mvT hZ (hw _ (List.mem_of_getElem? (i := 11) rfl))) rfl (hb hby at_90) ?_
    exact k)
  obtain ⟨T66, h66, X66, e66, W66, st66⟩ := stI X62 hx hZ e62 Ao64 (j := (15 : Int32)) io64 (g := (mkF m 92 #[.val (.int p1), .val (.int p2), .val (.int p3), .unset, .unset, .unset, .unset] [(.int (2147483647 : Int32)), (.int (15 : Int32)), (.ref b1), (.ref b1)])) rfl rfl (hb hby at_92)
  have pre67 : ∀ t, Steps p.tables e below (T66.setTop (mkF m 93 #[.val (.int p1), .val (.int p2), .val (.int p3), .unset, .unset, .unset, .unset] [(.ref b1)])) t → Steps p.tables e below (s₁.setTop (entryFrame m #[(.int p1), (.int p2), (.int p3)] maxLocals)) t := fun t k => pre65 t (st66 t k)
  have sz66 : n0 ≤ h66.size := Nat.le_trans sz62 (Keep.of_wr W66).1
  obtain ⟨gv66, V_b1_e66⟩ := own_wk (V_b1_e62 : own_Ar Z _ b1 .int 16 (fun i => .int (gv62 i))) W66
  have N66 := Fr.snoc X66 N62 g_b1
  have pre68 : ∀ t, Steps p.tables e below (T66.setTop (mkF m 102 #[.val (.int p1), .val (.int p2), .val (.int p3), .val (.ref b1), .unset, .unset, .unset] [(.int ((p2 &&& (2147483647 : Int32)) - ((p2 &&& (2147483647 : Int32)) / (16 : Int32)) * (16 : Int32))), (.ref b1)])) t → Steps p.tables e below (s₁.setTop (entryFrame m #[(.int p1), (.int p2), (.int p3)] maxLocals)) t := fun t k => pre67 t (by
    show Steps p.tables e below (T66.setTop (mkF m 93 #[.val (.int p1), .val (.int p2), .val (.int p3), .unset, .unset, .unset, .unset] [(.ref b1)])) _
    refine XS.astoreN X66.here hx rfl (hb hby at_93) rfl rfl (l' := #[.val (.int p1), .val (.int p2), .val (.int p3), .val (.ref b1), .unset, .unset, .unset]) rfl ?_
    show Steps p.tables e below (T66.setTop (mkF m 94 #[.val (.int p1), .val (.int p2), .val (.int p3), .val (.ref b1), .unset, .unset, .unset] [])) _
    refine XS.aloadN X66.here hx rfl (hb hby at_94) rfl rfl ?_
    show Steps p.tables e below (T66.setTop (mkF m 95 #[.val (.int p1), .val (.int p2), .val (.int p3), .val (.ref b1), .unset, .unset, .unset] [(.ref b1)])) _
    refine XS.iloadN X66.here hx rfl (hb hby at_95) rfl ?_
    show Steps p.tables e below (T66.setTop (mkF m 96 #[.val (.int p1), .val (.int p2), .val (.int p3), .val (.ref b1), .unset, .unset, .unset] [(.int p2), (.ref b1)])) _
    refine X66.ldcI hx hown (mvT hZ (hw _ (List.mem_of_getElem? (i := 11) rfl))) rfl (hb hby at_96) ?_
    show Steps p.tables e below (T66.setTop (mkF m 98 #[.val (.int p1), .val (.int p2), .val (.int p3), .val (.ref b1), .unset, .unset, .unset] [(.int (2147483647 : Int32)), (.int p2), (.ref b1)])) _
    refine XS.iand X66.here hx rfl (hb hby at_98) rfl ?_
    show Steps p.tables e below (T66.setTop (mkF m 99 #[.val (.int p1), .val (.int p2), .val (.int p3), .val (.ref b1), .unset, .unset, .unset] [(.int (p2 &&& (2147483647 : Int32))), (.ref b1)])) _
    refine XS.bipush X66.here hx rfl (hb hby at_99) ?_
    show Steps p.tables e below (T66.setTop (mkF m 101 #[.val (.int p1), .val (.int p2), .val (.int p3), .val (.ref b1), .unset, .unset, .unset] [(.int (16 : Int32)), (.int (p2 &&& (2147483647 : Int32))), (.ref b1)])) _
    refine XS.irem X66.here hx rfl (hb hby at_101) rfl (by decide) ?_
    exact k)
  obtain ⟨jx, hjx⟩ : ∃ z, z = ((p2 &&& (2147483647 : Int32)) - ((p2 &&& (2147483647 : Int32)) / (16 : Int32)) * (16 : Int32)) := ⟨_, rfl⟩
  rw [← hjx] at pre68
  have rj := own_rem (p2 &&& (2147483647 : Int32)) (16 : Int32) 16 rfl (by decide) (own_nn p2)
  rw [← hjx] at rj
  have rk := own_nat (j := jx) (by omega)
  obtain ⟨co69, Ao69, So69, Ho69⟩ := id V_b1_e66
  have lo69 := own_ld So69 Ho69 (j := jx) (i := jx.toInt.toNat) rk.1 rk.2 (by omega) (v := (.int (gv66 jx.toInt.toNat))) rfl
  have pre70 : ∀ t, Steps p.tables e below (T66.setTop (mkF m 109 #[.val (.int p1), .val (.int p2), .val (.int p3), .val (.ref b1), .val (.int ((gv66 jx.toInt.toNat) + (p3 - (p3 / (3 : Int32)) * (3 : Int32)))), .unset, .unset] [])) t → Steps p.tables e below (s₁.setTop (entryFrame m #[(.int p1), (.int p2), (.int p3)] maxLocals)) t := fun t k => pre68 t (by
    show Steps p.tables e below (T66.setTop (mkF m 102 #[.val (.int p1), .val (.int p2), .val (.int p3), .val (.ref b1), .unset, .unset, .unset] [(.int jx), (.ref b1)])) _
    refine X66.iaload hx (j := jx) (v := (.int (gv66 jx.toInt.toNat))) (by rw [e66]; exact Ao69.1) (State.isArrayOf_alike hZ.alike Ao69.2.1) Ao69.2.2 lo69.1 lo69.2 (g := (mkF m 102 #[.val (.int p1), .val (.int p2), .val (.int p3), .val (.ref b1), .unset, .unset, .unset] [(.int jx), (.ref b1)])) rfl rfl (hb hby at_102) _ ?_
    show Steps p.tables e below (T66.setTop (mkF m 103 #[.val (.int p1), .val (.int p2), .val (.int p3), .val (.ref b1), .unset, .unset, .unset] [(.int (gv66 jx.toInt.toNat))])) _
    refine XS.iloadN X66.here hx rfl (hb hby at_103) rfl ?_
    show Steps p.tables e below (T66.setTop (mkF m 104 #[.val (.int p1), .val (.int p2), .val (.int p3), .val (.ref b1), .unset, .unset, .unset] [(.int p3), (.int (gv66 jx.toInt.toNat))])) _
    refine XS.iconst X66.here hx rfl (hb hby at_104) ?_
    show Steps p.tables e below (T66.setTop (mkF m 105 #[.val (.int p1), .val (.int p2), .val (.int p3), .val (.ref b1), .unset, .unset, .unset] [(.int (3 : Int32)), (.int p3), (.int (gv66 jx.toInt.toNat))])) _
    refine XS.irem X66.here hx rfl (hb hby at_105) rfl (by decide) ?_
    show Steps p.tables e below (T66.setTop (mkF m 106 #[.val (.int p1), .val (.int p2), .val (.int p3), .val (.ref b1), .unset, .unset, .unset] [(.int (p3 - (p3 / (3 : Int32)) * (3 : Int32))), (.int (gv66 jx.toInt.toNat))])) _
    refine XS.iadd X66.here hx rfl (hb hby at_106) rfl ?_
    show Steps p.tables e below (T66.setTop (mkF m 107 #[.val (.int p1), .val (.int p2), .val (.int p3), .val (.ref b1), .unset, .unset, .unset] [(.int ((gv66 jx.toInt.toNat) + (p3 - (p3 / (3 : Int32)) * (3 : Int32))))])) _
    refine XS.istore X66.here hx rfl (hb hby at_107) rfl (l' := #[.val (.int p1), .val (.int p2), .val (.int p3), .val (.ref b1), .val (.int ((gv66 jx.toInt.toNat) + (p3 - (p3 / (3 : Int32)) * (3 : Int32)))), .unset, .unset]) rfl ?_
    exact k)
  obtain ⟨bx, hbx⟩ : ∃ z, z = ((gv66 jx.toInt.toNat) + (p3 - (p3 / (3 : Int32)) * (3 : Int32))) := ⟨_, rfl⟩
  rw [← hbx] at pre70
  have pre71 : ∀ t, Steps p.tables e below (T66.setTop (mkF m 110 #[.val (.int p1), .val (.int p2), .val (.int p3), .val (.ref b1), .val (.int bx), .unset, .unset] [(.int p1)])) t → Steps p.tables e below (s₁.setTop (entryFrame m #[(.int p1), (.int p2), (.int p3)] maxLocals)) t := fun t k => pre70 t (by
    show Steps p.tables e below (T66.setTop (mkF m 109 #[.val (.int p1), .val (.int p2), .val (.int p3), .val (.ref b1), .val (.int bx), .unset, .unset] [])) _
    refine XS.iloadN X66.here hx rfl (hb hby at_109) rfl ?_
    exact k)
  obtain ⟨_, _, ⟨T72, L72, k72, n72⟩, -, X72, ⟨Lc72, hQ72, l72, y72, z72⟩, st72⟩ := Jvm.LawKit.callS X66 hx (y := (⟨"com/example/yarkon/yarkon/document/DocumentCharacters", "isChar", "(I)Z"⟩ : MethodName)) hown (mvT hZ (hw _ (List.mem_of_getElem? (i := 12) rfl))) (mvT hZ (hw _ (List.mem_of_getElem? (i := 13) rfl))) (mvT hZ (hw _ (List.mem_of_getElem? (i := 14) rfl))) (mvT hZ (hw _ (List.mem_of_getElem? (i := 15) rfl))) (by decide) (backOf (W := 0) (rmF l Z a0 hw [] p1 h66 n0 sz66 ) hZ (hw _ (List.mem_of_getElem? (i := 15) rfl)) (hw _ (List.mem_of_getElem? (i := 14) rfl)) (by decide) (by decide)) (g := (mkF m 110 #[.val (.int p1), .val (.int p2), .val (.int p3), .val (.ref b1), .val (.int bx), .unset, .unset] [(.int p1)])) rfl (by rw [hml]; rfl) (argsL := [(.int p1)]) (rest := []) (lenOf pd__I_Z rfl) rfl (by show 2 * 0 + _ ≤ _; exact Nat.le_of_eq rfl) (hb hby at_110) (fun _ _ => ⟨rfl, e66, (by decide : 0 + 1 + 0 ≤ _), (by decide : 0 + 16 + 0 ≤ _)⟩)
  dsimp only [Pt.U, Pt.locs, Pt.cells, Pt.slots] at X72 l72 y72 z72 st72 hQ72
  subst l72 y72 z72
  obtain ⟨rfl, N72q, eq_fp1⟩ := hQ72
  have N72 := Fr.app N66 N72q
  have pre73 : ∀ t, Steps p.tables e below (T72.setTop (mkF m 113 #[.val (.int p1), .val (.int p2), .val (.int p3), .val (.ref b1), .val (.int bx), .unset, .unset] [(.int (own_f0 p1))])) t → Steps p.tables e below (s₁.setTop (entryFrame m #[(.int p1), (.int p2), (.int p3)] maxLocals)) t := fun t k => pre71 t (st72 t k)
  have pre74 : ∀ t, Steps p.tables e below (T72.setTop (mkF m 114 #[.val (.int p1), .val (.int p2), .val (.int p3), .val (.ref b1), .val (.int bx), .unset, .unset] [(.int p1), (.int (own_f0 p1))])) t → Steps p.tables e below (s₁.setTop (entryFrame m #[(.int p1), (.int p2), (.int p3)] maxLocals)) t := fun t k => pre73 t (by
    show Steps p.tables e below (T72.setTop (mkF m 113 #[.val (.int p1), .val (.int p2), .val (.int p3), .val (.ref b1), .val (.int bx), .unset, .unset] [(.int (own_f0 p1))])) _
    refine XS.iloadN X72.here hx rfl (hb hby at_113) rfl ?_
    exact k)
  obtain ⟨_, _, ⟨T75, L75, k75, n75⟩, -, X75, ⟨Lc75, hQ75, l75, y75, z75⟩, st75⟩ := Jvm.LawKit.callS X72 hx (y := (⟨"com/example/yarkon/yarkon/document/DocumentCharactersIsCharPinLaw", "reference", "(I)Z"⟩ : MethodName)) hown (mvT hZ (hw _ (List.mem_of_getElem? (i := 18) rfl))) (mvT hZ (hw _ (List.mem_of_getElem? (i := 19) rfl))) (mvT hZ (hw _ (List.mem_of_getElem? (i := 20) rfl))) (mvT hZ (hw _ (List.mem_of_getElem? (i := 21) rfl))) (by decide) (backOf (W := 1) (rmR l Z a0 hw [] p1 h66 n0 sz66 ) hZ (hw _ (List.mem_of_getElem? (i := 21) rfl)) (hw _ (List.mem_of_getElem? (i := 20) rfl)) (by decide) (by decide)) (g := (mkF m 114 #[.val (.int p1), .val (.int p2), .val (.int p3), .val (.ref b1), .val (.int bx), .unset, .unset] [(.int p1), (.int (own_f0 p1))])) rfl (by rw [hml]; rfl) (argsL := [(.int p1)]) (rest := [(.int (own_f0 p1))]) (lenOf pd__I_Z rfl) rfl (by show 2 * 0 + _ ≤ _; exact Nat.le_of_eq rfl) (hb hby at_114) (fun _ _ => ⟨rfl, eq_fp1, (by decide : 0 + 1 + 0 + 0 ≤ _), (by decide : 0 + 16 + 0 + 0 ≤ _)⟩)
  dsimp only [Pt.U, Pt.locs, Pt.cells, Pt.slots] at X75 l75 y75 z75 st75 hQ75
  subst l75 y75 z75
  obtain ⟨rfl, N75q, eq_gp1⟩ := hQ75
  have N75 := Fr.app N72 N75q
  have pre76 : ∀ t, Steps p.tables e below (T75.setTop (mkF m 117 #[.val (.int p1), .val (.int p2), .val (.int p3), .val (.ref b1), .val (.int bx), .unset, .unset] [(.int (own_g0 p1)), (.int (own_f0 p1))])) t → Steps p.tables e below (s₁.setTop (entryFrame m #[(.int p1), (.int p2), (.int p3)] maxLocals)) t := fun t k => pre74 t (st75 t k)
  have pre77 : ∀ t, Steps p.tables e below (T75.setTop (mkF m 129 #[.val (.int p1), .val (.int p2), .val (.int p3), .val (.ref b1), .val (.int bx), .val (.int (1 : Int32)), .unset] [(.int bx)])) t → Steps p.tables e below (s₁.setTop (entryFrame m #[(.int p1), (.int p2), (.int p3)] maxLocals)) t := fun t k => pre76 t (by
    show Steps p.tables e below (T75.setTop (mkF m 117 #[.val (.int p1), .val (.int p2), .val (.int p3), .val (.ref b1), .val (.int bx), .unset, .unset] [(.int (own_g0 p1)), (.int (own_f0 p1))])) _
    refine XS.icmpNo X75.here hx rfl (hb hby at_117) rfl (teq (own_eq p1)).2 ?_
    show Steps p.tables e below (T75.setTop (mkF m 120 #[.val (.int p1), .val (.int p2), .val (.int p3), .val (.ref b1), .val (.int bx), .unset, .unset] [])) _
    refine XS.iconst X75.here hx rfl (hb hby at_120) ?_
    show Steps p.tables e below (T75.setTop (mkF m 121 #[.val (.int p1), .val (.int p2), .val (.int p3), .val (.ref b1), .val (.int bx), .unset, .unset] [(.int (1 : Int32))])) _
    refine XS.goto X75.here hx rfl (pc0 := 121) (pc' := 125) rfl (hb hby at_121) (by decide) (by decide) ?_
    show Steps p.tables e below (T75.setTop (mkF m 125 #[.val (.int p1), .val (.int p2), .val (.int p3), .val (.ref b1), .val (.int bx), .unset, .unset] [(.int (1 : Int32))])) _
    refine XS.istore X75.here hx rfl (hb hby at_125) rfl (l' := #[.val (.int p1), .val (.int p2), .val (.int p3), .val (.ref b1), .val (.int bx), .val (.int (1 : Int32)), .unset]) rfl ?_
    show Steps p.tables e below (T75.setTop (mkF m 127 #[.val (.int p1), .val (.int p2), .val (.int p3), .val (.ref b1), .val (.int bx), .val (.int (1 : Int32)), .unset] [])) _
    refine XS.iload X75.here hx rfl (hb hby at_127) rfl ?_
    exact k)
  obtain ⟨_, _, ⟨T78, L78, k78, n78⟩, -, X78, ⟨Lc78, hQ78, l78, y78, z78⟩, st78⟩ := Jvm.LawKit.callS X75 hx (y := (⟨"com/example/yarkon/yarkon/document/DocumentCharacters", "isChar", "(I)Z"⟩ : MethodName)) hown (mvT hZ (hw _ (List.mem_of_getElem? (i := 12) rfl))) (mvT hZ (hw _ (List.mem_of_getElem? (i := 13) rfl))) (mvT hZ (hw _ (List.mem_of_getElem? (i := 14) rfl))) (mvT hZ (hw _ (List.mem_of_getElem? (i := 15) rfl))) (by decide) (backOf (W := 0) (rmF l Z a0 hw [] bx h66 n0 sz66 ) hZ (hw _ (List.mem_of_getElem? (i := 15) rfl)) (hw _ (List.mem_of_getElem? (i := 14) rfl)) (by decide) (by decide)) (g := (mkF m 129 #[.val (.int p1), .val (.int p2), .val (.int p3), .val (.ref b1), .val (.int bx), .val (.int (1 : Int32)), .unset] [(.int bx)])) rfl (by rw [hml]; rfl) (argsL := [(.int bx)]) (rest := []) (lenOf pd__I_Z rfl) rfl (by show 2 * 0 + _ ≤ _; exact Nat.le_of_eq rfl) (hb hby at_129) (fun _ _ => ⟨rfl, eq_gp1, (by decide : 0 + 1 + 0 + 0 + 0 ≤ _), (by decide : 0 + 16 + 0 + 0 + 0 ≤ _)⟩)
  dsimp only [Pt.U, Pt.locs, Pt.cells, Pt.slots] at X78 l78 y78 z78 st78 hQ78
  subst l78 y78 z78
  obtain ⟨rfl, N78q, eq_fbx⟩ := hQ78
  have N78 := Fr.app N75 N78q
  have pre79 : ∀ t, Steps p.tables e below (T78.setTop (mkF m 132 #[.val (.int p1), .val (.int p2), .val (.int p3), .val (.ref b1), .val (.int bx), .val (.int (1 : Int32)), .unset] [(.int (own_f0 bx))])) t → Steps p.tables e below (s₁.setTop (entryFrame m #[(.int p1), (.int p2), (.int p3)] maxLocals)) t := fun t k => pre77 t (st78 t k)
  have pre80 : ∀ t, Steps p.tables e below (T78.setTop (mkF m 134 #[.val (.int p1), .val (.int p2), .val (.int p3), .val (.ref b1), .val (.int bx), .val (.int (1 : Int32)), .unset] [(.int bx), (.int (own_f0 bx))])) t → Steps p.tables e below (s₁.setTop (entryFrame m #[(.int p1), (.int p2), (.int p3)] maxLocals)) t := fun t k => pre79 t (by
    show Steps p.tables e below (T78.setTop (mkF m 132 #[.val (.int p1), .val (.int p2), .val (.int p3), .val (.ref b1), .val (.int bx), .val (.int (1 : Int32)), .unset] [(.int (own_f0 bx))])) _
    refine XS.iload X78.here hx rfl (hb hby at_132) rfl ?_
    exact k)
  obtain ⟨_, _, ⟨T81, L81, k81, n81⟩, -, X81, ⟨Lc81, hQ81, l81, y81, z81⟩, st81⟩ := Jvm.LawKit.callS X78 hx (y := (⟨"com/example/yarkon/yarkon/document/DocumentCharactersIsCharPinLaw", "reference", "(I)Z"⟩ : MethodName)) hown (mvT hZ (hw _ (List.mem_of_getElem? (i := 18) rfl))) (mvT hZ (hw _ (List.mem_of_getElem? (i := 19) rfl))) (mvT hZ (hw _ (List.mem_of_getElem? (i := 20) rfl))) (mvT hZ (hw _ (List.mem_of_getElem? (i := 21) rfl))) (by decide) (backOf (W := 1) (rmR l Z a0 hw [] bx h66 n0 sz66 ) hZ (hw _ (List.mem_of_getElem? (i := 21) rfl)) (hw _ (List.mem_of_getElem? (i := 20) rfl)) (by decide) (by decide)) (g := (mkF m 134 #[.val (.int p1), .val (.int p2), .val (.int p3), .val (.ref b1), .val (.int bx), .val (.int (1 : Int32)), .unset] [(.int bx), (.int (own_f0 bx))])) rfl (by rw [hml]; rfl) (argsL := [(.int bx)]) (rest := [(.int (own_f0 bx))]) (lenOf pd__I_Z rfl) rfl (by show 2 * 0 + _ ≤ _; exact Nat.le_of_eq rfl) (hb hby at_134) (fun _ _ => ⟨rfl, eq_fbx, (by decide : 0 + 1 + 0 + 0 + 0 + 0 ≤ _), (by decide : 0 + 16 + 0 + 0 + 0 + 0 ≤ _)⟩)
  dsimp only [Pt.U, Pt.locs, Pt.cells, Pt.slots] at X81 l81 y81 z81 st81 hQ81
  subst l81 y81 z81
  obtain ⟨rfl, N81q, eq_gbx⟩ := hQ81
  have N81 := Fr.app N78 N81q
  have pre82 : ∀ t, Steps p.tables e below (T81.setTop (mkF m 137 #[.val (.int p1), .val (.int p2), .val (.int p3), .val (.ref b1), .val (.int bx), .val (.int (1 : Int32)), .unset] [(.int (own_g0 bx)), (.int (own_f0 bx))])) t → Steps p.tables e below (s₁.setTop (entryFrame m #[(.int p1), (.int p2), (.int p3)] maxLocals)) t := fun t k => pre80 t (st81 t k)
  have pre83 : ∀ t, Steps p.tables e below (T81.setTop (mkF m 162 #[.val (.int p1), .val (.int p2), .val (.int p3), .val (.ref b1), .val (.int bx), .val (.int (1 : Int32)), .val (.int (1 : Int32))] [(.int (1 : Int32))])) t → Steps p.tables e below (s₁.setTop (entryFrame m #[(.int p1), (.int p2), (.int p3)] maxLocals)) t := fun t k => pre82 t (by
    show Steps p.tables e below (T81.setTop (mkF m 137 #[.val (.int p1), .val (.int p2), .val (.int p3), .val (.ref b1), .val (.int bx), .val (.int (1 : Int32)), .unset] [(.int (own_g0 bx)), (.int (own_f0 bx))])) _
    refine XS.icmpNo X81.here hx rfl (hb hby at_137) rfl (teq (own_eq bx)).2 ?_
    show Steps p.tables e below (T81.setTop (mkF m 140 #[.val (.int p1), .val (.int p2), .val (.int p3), .val (.ref b1), .val (.int bx), .val (.int (1 : Int32)), .unset] [])) _
    refine XS.iconst X81.here hx rfl (hb hby at_140) ?_
    show Steps p.tables e below (T81.setTop (mkF m 141 #[.val (.int p1), .val (.int p2), .val (.int p3), .val (.ref b1), .val (.int bx), .val (.int (1 : Int32)), .unset] [(.int (1 : Int32))])) _
    refine XS.goto X81.here hx rfl (pc0 := 141) (pc' := 145) rfl (hb hby at_141) (by decide) (by decide) ?_
    show Steps p.tables e below (T81.setTop (mkF m 145 #[.val (.int p1), .val (.int p2), .val (.int p3), .val (.ref b1), .val (.int bx), .val (.int (1 : Int32)), .unset] [(.int (1 : Int32))])) _
    refine XS.istore X81.here hx rfl (hb hby at_145) rfl (l' := #[.val (.int p1), .val (.int p2), .val (.int p3), .val (.ref b1), .val (.int bx), .val (.int (1 : Int32)), .val (.int (1 : Int32))]) rfl ?_
    show Steps p.tables e below (T81.setTop (mkF m 147 #[.val (.int p1), .val (.int p2), .val (.int p3), .val (.ref b1), .val (.int bx), .val (.int (1 : Int32)), .val (.int (1 : Int32))] [])) _
    refine XS.iload X81.here hx rfl (hb hby at_147) rfl ?_
    show Steps p.tables e below (T81.setTop (mkF m 149 #[.val (.int p1), .val (.int p2), .val (.int p3), .val (.ref b1), .val (.int bx), .val (.int (1 : Int32)), .val (.int (1 : Int32))] [(.int (1 : Int32))])) _
    refine XS.ifNo X81.here hx rfl (hb hby at_149) rfl ((if0 _ _).trans (feq (by decide : ¬ ((1 : Int32) = (0 : Int32)))).1) ?_
    show Steps p.tables e below (T81.setTop (mkF m 152 #[.val (.int p1), .val (.int p2), .val (.int p3), .val (.ref b1), .val (.int bx), .val (.int (1 : Int32)), .val (.int (1 : Int32))] [])) _
    refine XS.iload X81.here hx rfl (hb hby at_152) rfl ?_
    show Steps p.tables e below (T81.setTop (mkF m 154 #[.val (.int p1), .val (.int p2), .val (.int p3), .val (.ref b1), .val (.int bx), .val (.int (1 : Int32)), .val (.int (1 : Int32))] [(.int (1 : Int32))])) _
    refine XS.ifNo X81.here hx rfl (hb hby at_154) rfl ((if0 _ _).trans (feq (by decide : ¬ ((1 : Int32) = (0 : Int32)))).1) ?_
    show Steps p.tables e below (T81.setTop (mkF m 157 #[.val (.int p1), .val (.int p2), .val (.int p3), .val (.ref b1), .val (.int bx), .val (.int (1 : Int32)), .val (.int (1 : Int32))] [])) _
    refine XS.iconst X81.here hx rfl (hb hby at_157) ?_
    show Steps p.tables e below (T81.setTop (mkF m 158 #[.val (.int p1), .val (.int p2), .val (.int p3), .val (.ref b1), .val (.int bx), .val (.int (1 : Int32)), .val (.int (1 : Int32))] [(.int (1 : Int32))])) _
    refine XS.goto X81.here hx rfl (pc0 := 158) (pc' := 162) rfl (hb hby at_158) (by decide) (by decide) ?_
    exact k)
  obtain ⟨fs, hr, hrun, hended, hW, hsame⟩ := X81.leave (v := some (.int (1 : Int32))) (fun h => by rw [Bd.returns] at h; cases h)
  refine ⟨_, _, pre83 _ ?_, hrun, hended, _, _, rfl, ?_, ⟨_, rfl⟩, hW, hsame.mono (by decide) (by decide)⟩
  · exact retN X81 hx (t := .boolean) Bd.returns (by simp) (hb hby at_162) hr
  · exact ⟨rfl, N81⟩
set_option maxRecDepth 65536 in
set_option maxHeartbeats 40000000 in
theorem comes_1 {Post : Tables → Env → Array Value → State → Outcome → State → Prop} (hpost : ∀ tb e args s v u, (limb_1_1.after args s (.returned v) u = true ∧ limb_1_2.after args s (.returned v) u = true ∧ True) → FrameEnd s (.returned v) u (Jvm.fieldLocs frame_1_writes args s ++ Jvm.arrayLocs frame_1_arrays args s ++ Jvm.staticLocs frame_1_statics s) 16 128 → Post tb e args s (.returned v) u) :
    ArmFor flags0 classFile x code maxLocals ret World_1 tables_1 room_1 Calls_1 rest_1 Pre_1 Post := by
  intro l hfl _ _ p e ha hc hk s m args below hf hA hF happ hP
  obtain ⟨hcalls, hrest, hpre⟩ := hP
  obtain ⟨-, -, -, hnamed, -, -, -, hat⟩ := (Spec.applies_iff hf).mp happ
  obtain ⟨hg, hn⟩ := and_e (Cond.before_iff.mp (show (Jvm.Cond.and given_1 narrow_1).before args s = true from hpre))
  obtain ⟨gc, gr0⟩ := and_e hg
  obtain ⟨ga0, gr1⟩ := and_e gr0
  obtain ⟨ga1, gr2⟩ := and_e gr1
  obtain ⟨w0, w1, w2, rfl⟩ : ∃ w0 w1 w2 : Value, args = #[w0, w1, w2] := by
    have hs : args.size = 3 := by simpa [Cond.value, given_1] using gc
    obtain ⟨L⟩ := args
    match L, hs with
    | [w0, w1, w2], _ => exact ⟨w0, w1, w2, rfl⟩
  have hw := fun d (hd : d ∈ tables_1) => atoms_spec (ws := Jvm.Cond.code x code maxLocals ret :: tables_1) hat d (List.mem_cons_of_mem _ hd)
  obtain ⟨i0, ei0⟩ := is_v ga0
  obtain rfl : w0 = (.int i0) := Option.some.inj ei0
  obtain ⟨i1, ei1⟩ := is_v ga1
  obtain rfl : w1 = (.int i1) := Option.some.inj ei1
  obtain ⟨i2, ei2⟩ := is_v gr2
  obtain rfl : w2 = (.int i2) := Option.some.inj ei2
  obtain ⟨n, o, h1, h2, h3, _, L, rfl, ⟨rfl, N⟩, hq⟩ := rm0 l s _ hw tables_1 i0 i1 i2 s.heap s.heap.size (Nat.le_refl _) p e ha hc hk s m _ below hf ((Spec.applies_iff_loose hf).mp happ).1 ⟨rfl, State.Warmed39.refl s, rfl⟩ trivial
  refine ⟨n, _, h1, h2, h3, hpost _ _ _ _ _ _ ⟨Cond.after_iff.mpr rfl, Cond.after_iff.mpr (eq_i res_at (Term.int_eval (1)) rfl), trivial⟩ ⟨hq.1, hq.2.1, (hq.2.2.sift fun y hy => Or.inr (N y hy)).mono (by decide) (by decide)⟩⟩
theorem main_1_1 : Claimed_1_1 := comes_1 fun _ _ _ _ _ _ h hF => ⟨h.1, hF⟩
theorem main_1_2 : Claimed_1_2 := comes_1 fun _ _ _ _ _ _ h hF => ⟨h.2.1, hF⟩
end Jvm.Pilot.@@N@@
namespace Jvm.Pilot.@@N@@
open Jvm Jvm.ClassFile Sem Op Lib Jvm.Free Jvm.Stand Jvm.Pilot.@@N@@.Jvm.D
/-! MADE BY PROGRAM (witnessworld.py) out of the Statement's table words and the real class files: 9 classes; the members and pool entries that the words name. The judged class is class 1, her method 2. -/
namespace start1
open Jvm.ClassFile
def u (s : String) : CpInfo := .utf8 (stringToUtf16 s)
/-- a pool by its gaps: so many unusable entries, then the entry; so many at the end -/
def gap : Nat → List CpInfo → List CpInfo
  | 0, r => r
  | n + 1, r => .unusable :: gap n r
def poolList (es : List (Nat × CpInfo)) (last : Nat) : List CpInfo := es.foldr (fun e r => gap e.1 (e.2 :: r)) (gap last [])
def pool (es : List (Nat × CpInfo)) (last : Nat) : Array CpInfo := ⟨poolList es last⟩
def fileOf (pool : Array CpInfo) (this : Nat) (attrs : Array Attribute := #[]) (ms : Array MethodInfo := #[]) (fl : Nat := 33) (sup : Nat := 0) (ifs : Array Nat := #[]) (fds : Array FieldInfo := #[]) : ClassFile where
  minorVersion := 0
  majorVersion := 65
  constantPool := pool
  accessFlags := fl
  thisClass := this
  superClass := sup
  interfaces := ifs
  fields := fds
  methods := ms
  attributes := attrs
def plain (name : String) (sup : Option ClassId) : Class where
  name := name
  kind := .ordinary
  loader := none
  accessFlags := 33
  super := sup
  interfaces := #[]
  cf := none
  fields := #[]
  methods := #[]
  instanceTypes := #[]
  staticTypes := #[]
  resolved := #[]
  callSites := []
  init := .initialized
  statics := none
  mirror := none

def pool0 : Array CpInfo := pool [(5, u "<init>"), (0, u "()V"), (1, .class_ 10), (1, u "java/lang/Object")] 113

def k0m0 : Method := { name := "<init>", desc := "()V", sig := { parameters := [], returnType := none }, accessFlags := 1, code := none }
/-- java/lang/Object -/
def k0 : Class := { plain "java/lang/Object" none with
  accessFlags := 33
  interfaces := #[]
  cf := some (fileOf pool0 8 #[] #[{ accessFlags := 1, nameIndex := 5, descriptorIndex := 6, attributes := #[] }] 33 0 #[] #[])
  fields := #[]
  methods := #[k0m0]
  instanceTypes := #[]
  staticTypes := #[]
  resolved := Array.replicate 124 none
  statics := none }

def pool1 : Array CpInfo := pool [(2, .class_ 4), (1, u "java/lang/Object"), (0, u "<init>"), (0, u "()V"), (0, .integer 1114111), (0, .integer 55296), (0, .integer 57343), (0, .integer 65534), (0, .integer 65535), (0, .integer 55295), (0, .integer 57344), (0, .integer 65533), (0, .integer 65536), (0, .integer 1114112), (0, .integer 2147483647), (0, .methodref 19 20), (0, .class_ 21), (0, .nameAndType 22 23), (0, u "com/example/yarkon/yarkon/document/DocumentCharacters"), (0, u "isChar"), (0, u "(I)Z"), (0, .methodref 25 26), (0, .class_ 27), (0, .nameAndType 28 23), (0, u "com/example/yarkon/yarkon/document/DocumentCharactersIsCharPinLaw"), (0, u "reference"), (3, u "law"), (0, u "(III)Z")] 4

def k1m0 : Method := { name := "<init>", desc := "()V", sig := { parameters := [], returnType := none }, accessFlags := 2, code := none }
def k1c1 : Code := { maxStack := 2, maxLocals := 1, code := method_2_code, exceptionTable := #[], attributes := #[] }
def k1m1 : Method := { name := "reference", desc := "(I)Z", sig := { parameters := [.int], returnType := some .boolean }, accessFlags := 10, code := some k1c1 }
def k1c2 : Code := { maxStack := 4, maxLocals := 7, code := code, exceptionTable := #[], attributes := #[] }
def k1m2 : Method := { name := "law", desc := "(III)Z", sig := { parameters := [.int, .int, .int], returnType := some .boolean }, accessFlags := 9, code := some k1c2 }
/-- com/example/yarkon/yarkon/document/DocumentCharactersIsCharPinLaw -/
def k1 : Class := { plain "com/example/yarkon/yarkon/document/DocumentCharactersIsCharPinLaw" (some 0) with
  accessFlags := 49
  interfaces := #[]
  cf := some (fileOf pool1 25 #[] #[{ accessFlags := 2, nameIndex := 5, descriptorIndex := 6, attributes := #[] }, { accessFlags := 10, nameIndex := 28, descriptorIndex := 23, attributes := #[] }, { accessFlags := 9, nameIndex := 32, descriptorIndex := 33, attributes := #[] }] 49 2 #[] #[])
  fields := #[]
  methods := #[k1m0, k1m1, k1m2]
  instanceTypes := #[]
  staticTypes := #[]
  resolved := Array.replicate 38 none
  statics := none }

def pool2 : Array CpInfo := pool [(2, .class_ 4), (1, u "java/lang/Object"), (2, .class_ 8), (0, u "com/example/yarkon/yarkon/document/DocumentCharacters"), (2, u "lookahead"), (0, u "[C"), (5, u "place"), (0, u "Lcom/example/yarkon/yarkon/document/TextPlace;"), (4, u "names"), (0, u "[Ljava/lang/String;"), (5, u "value"), (0, u "Ljava/lang/StringBuilder;"), (2, u "in"), (0, u "Ljava/io/Reader;"), (2, u "recording"), (27, u "(I)Z"), (22, u "end"), (0, u "I"), (2, u "start"), (2, u "endOfInput"), (0, u "Z"), (110, .class_ 211), (1, u "com/example/yarkon/yarkon/document/DocumentCharacters$EntityReferences"), (29, u "isChar"), (13, u "previous"), (0, u "C"), (57, .integer 55295), (0, .integer 57344), (0, .integer 65533), (0, .integer 65536), (0, .integer 1114111), (4, u "ENDS_INSIDE_SUBSET"), (0, u "Ljava/lang/String;"), (3, u "ENDS_INSIDE_DOCTYPE"), (2, u "CHARACTER_REFERENCE"), (0, u "ENTITY_REFERENCE"), (0, u "LONGEST_PART"), (1, u "TOO_LONG"), (0, u "LOOKAHEAD_CHARS"), (1, u "NAMES_KEPT"), (1, u "VALUE_ROOM_KEPT")] 25

def k2c0 : Code := { maxStack := 2, maxLocals := 1, code := prog_24_method_32_code, exceptionTable := #[], attributes := #[] }
def k2m0 : Method := { name := "isChar", desc := "(I)Z", sig := { parameters := [.int], returnType := some .boolean }, accessFlags := 8, code := some k2c0 }
/-- com/example/yarkon/yarkon/document/DocumentCharacters -/
def k2 : Class := { plain "com/example/yarkon/yarkon/document/DocumentCharacters" (some 0) with
  accessFlags := 32
  interfaces := #[]
  cf := some (fileOf pool2 7 #[.nestMembers #[209]] #[{ accessFlags := 8, nameIndex := 241, descriptorIndex := 67, attributes := #[] }] 32 2 #[] #[{ accessFlags := 24, nameIndex := 323, descriptorIndex := 324, attributes := #[] }, { accessFlags := 24, nameIndex := 328, descriptorIndex := 324, attributes := #[] }, { accessFlags := 26, nameIndex := 331, descriptorIndex := 324, attributes := #[] }, { accessFlags := 26, nameIndex := 332, descriptorIndex := 324, attributes := #[] }, { accessFlags := 24, nameIndex := 333, descriptorIndex := 91, attributes := #[] }, { accessFlags := 26, nameIndex := 335, descriptorIndex := 324, attributes := #[] }, { accessFlags := 26, nameIndex := 336, descriptorIndex := 91, attributes := #[] }, { accessFlags := 26, nameIndex := 338, descriptorIndex := 91, attributes := #[] }, { accessFlags := 26, nameIndex := 340, descriptorIndex := 91, attributes := #[] }, { accessFlags := 18, nameIndex := 35, descriptorIndex := 36, attributes := #[] }, { accessFlags := 18, nameIndex := 11, descriptorIndex := 12, attributes := #[] }, { accessFlags := 2, nameIndex := 94, descriptorIndex := 91, attributes := #[] }, { accessFlags := 2, nameIndex := 90, descriptorIndex := 91, attributes := #[] }, { accessFlags := 2, nameIndex := 97, descriptorIndex := 98, attributes := #[] }, { accessFlags := 18, nameIndex := 18, descriptorIndex := 19, attributes := #[] }, { accessFlags := 2, nameIndex := 255, descriptorIndex := 256, attributes := #[] }, { accessFlags := 2, nameIndex := 39, descriptorIndex := 32, attributes := #[] }, { accessFlags := 18, nameIndex := 24, descriptorIndex := 25, attributes := #[] }, { accessFlags := 2, nameIndex := 31, descriptorIndex := 32, attributes := #[] }])
  fields := #[{ name := "ENDS_INSIDE_SUBSET", type := (.object "java/lang/String"), accessFlags := 24, slot := 0, constantValue := 0 }, { name := "ENDS_INSIDE_DOCTYPE", type := (.object "java/lang/String"), accessFlags := 24, slot := 1, constantValue := 0 }, { name := "CHARACTER_REFERENCE", type := (.object "java/lang/String"), accessFlags := 26, slot := 2, constantValue := 0 }, { name := "ENTITY_REFERENCE", type := (.object "java/lang/String"), accessFlags := 26, slot := 3, constantValue := 0 }, { name := "LONGEST_PART", type := .int, accessFlags := 24, slot := 4, constantValue := 0 }, { name := "TOO_LONG", type := (.object "java/lang/String"), accessFlags := 26, slot := 5, constantValue := 0 }, { name := "LOOKAHEAD_CHARS", type := .int, accessFlags := 26, slot := 6, constantValue := 0 }, { name := "NAMES_KEPT", type := .int, accessFlags := 26, slot := 7, constantValue := 0 }, { name := "VALUE_ROOM_KEPT", type := .int, accessFlags := 26, slot := 8, constantValue := 0 }, { name := "in", type := (.object "java/io/Reader"), accessFlags := 18, slot := 0, constantValue := 0 }, { name := "lookahead", type := (.array .char), accessFlags := 18, slot := 1, constantValue := 0 }, { name := "start", type := .int, accessFlags := 2, slot := 2, constantValue := 0 }, { name := "end", type := .int, accessFlags := 2, slot := 3, constantValue := 0 }, { name := "endOfInput", type := .boolean, accessFlags := 2, slot := 4, constantValue := 0 }, { name := "place", type := (.object "com/example/yarkon/yarkon/document/TextPlace"), accessFlags := 18, slot := 5, constantValue := 0 }, { name := "previous", type := .char, accessFlags := 2, slot := 6, constantValue := 0 }, { name := "recording", type := (.object "java/lang/StringBuilder"), accessFlags := 2, slot := 7, constantValue := 0 }, { name := "names", type := (.array (.object "java/lang/String")), accessFlags := 18, slot := 8, constantValue := 0 }, { name := "value", type := (.object "java/lang/StringBuilder"), accessFlags := 2, slot := 9, constantValue := 0 }]
  methods := #[k2m0]
  instanceTypes := #[(.object "java/io/Reader"), (.array .char), .int, .int, .boolean, (.object "com/example/yarkon/yarkon/document/TextPlace"), .char, (.object "java/lang/StringBuilder"), (.array (.object "java/lang/String")), (.object "java/lang/StringBuilder")]
  staticTypes := #[(.object "java/lang/String"), (.object "java/lang/String"), (.object "java/lang/String"), (.object "java/lang/String"), .int, (.object "java/lang/String"), .int, .int, .int]
  resolved := Array.replicate 366 none
  statics := none }

def pool3 : Array CpInfo := pool [(1, u "java/lang/Cloneable"), (0, .class_ 1), (0, u "java/lang/Object"), (0, .class_ 3)] 3

/-- java/lang/Cloneable -/
def k3 : Class := { plain "java/lang/Cloneable" (some 0) with
  accessFlags := 1537
  interfaces := #[]
  cf := some (fileOf pool3 2 #[] #[] 1537 4 #[] #[])
  fields := #[]
  methods := #[]
  instanceTypes := #[]
  staticTypes := #[]
  resolved := Array.replicate 8 none
  statics := none }

def pool4 : Array CpInfo := pool [(1, u "java/io/Serializable"), (0, .class_ 1), (0, u "java/lang/Object"), (0, .class_ 3)] 3

/-- java/io/Serializable -/
def k4 : Class := { plain "java/io/Serializable" (some 0) with
  accessFlags := 1537
  interfaces := #[]
  cf := some (fileOf pool4 2 #[] #[] 1537 4 #[] #[])
  fields := #[]
  methods := #[]
  instanceTypes := #[]
  staticTypes := #[]
  resolved := Array.replicate 8 none
  statics := none }

/-- the primitive byte -/
def k5 : Class := { plain "byte" none with kind := .primitive 'B', accessFlags := 0x411 }
/-- [B -/
def k6 : Class := { plain "[B" (some 0) with kind := .array 5 .byte, interfaces := #[3, 4], accessFlags := 1041 }

/-- the primitive int -/
def k7 : Class := { plain "int" none with kind := .primitive 'I', accessFlags := 0x411 }
/-- [I -/
def k8 : Class := { plain "[I" (some 0) with kind := .array 7 .int, interfaces := #[3, 4], accessFlags := 1041 }

def heap : Heap := #[]
def classes : Array Class := #[k0, k1, k2, k3, k4, k5, k6, k7, k8]
def interned : List (Array UInt16 × Addr) := []
def slotsUsed : Nat := 0
def theMethod : MethodId := ⟨1, 2⟩
def args0 : Array Value := #[.int 65, .int 3, .int 1]
def aboutOver (below : List Frame) : State where
  vm := { classes := classes, interned := interned.toArray }
  heap := heap
  slotsUsed := slotsUsed
  threads := #[{ frames := .invoking theMethod args0 :: below }]
def below0 : List Frame := [.native { method := ⟨0, 0⟩, args := #[] }]
def about1 : State := aboutOver below0
def p0 : Program := .bare "" "" ""
def e0 : Env := launch0.env 0 0 0
theorem w_frames : about1.frames = Frame.invoking theMethod args0 :: below0 := rfl
set_option maxRecDepth 65536 in
theorem w_args : argsFit about1.vm theMethod args0 = true := by decide +kernel
set_option maxRecDepth 65536 in
theorem w_heap : heapFits about1 = true := by decide +kernel
set_option maxRecDepth 65536 in
theorem w_runnable : about1.curStatus? = some .runnable := by decide +kernel
set_option maxRecDepth 65536 in
theorem w_alone : about1.alone = true := by decide +kernel
set_option maxRecDepth 65536 in
theorem w_named : about1.methodNamed? x = some theMethod := by decide +kernel
set_option maxRecDepth 65536 in
theorem w_hears : about1.hears theMethod below0 = true := by decide +kernel
set_option maxRecDepth 65536 in
theorem w_ripe : about1.ripe theMethod args0 below0 = true := by decide +kernel
theorem w_running : about1.status = .running := rfl
set_option maxRecDepth 65536 in
theorem w_room : about1.hasRoom e0.platform room_1 = true :=
  launch0.hasRoom_least _ room_1 (by decide +kernel) (by decide +kernel) (by decide +kernel) (by decide +kernel) (by decide +kernel) (by decide +kernel)
theorem allAtoms_all (ts : List Jvm.Cond) (a : Array Jvm.Value) (st : Jvm.State) : (allAtoms ts).before a st = ts.all (fun c => c.before a st) := by
  induction ts with
  | nil => rfl
  | cons c t ih =>
    show (Jvm.Cond.and c (allAtoms t)).before a st = _
    rw [Jvm.Cond.before_and, ih, List.all_cons]
def words1 : List Jvm.Cond := Jvm.Cond.code x code maxLocals ret :: tables_1
/-- a 'code' word, met by the world's own term for the bytes: nothing is compared byte by byte -/
theorem code_word {y : MethodName} {bytes : ByteArray} {mx : Nat} {rt : Option FieldType} {a : Array Value} {s : State} {m : MethodId} {meth : Method} {c : Code} (h1 : s.methodNamed? y = some m) (h2 : s.vm.method? m = some meth) (h3 : meth.code = some c) (h4 : c.code = bytes)
    (h5 : (c.maxLocals == mx && c.exceptionTable.isEmpty && decide (c.maxStack ≤ mostOperands) && decide (meth.sig.returnType = rt) && !meth.locks && decide (parseMethodDescriptor y.desc = some meth.sig)) = true) : (Jvm.Cond.code y bytes mx rt).before a s = true := by
  simp only [Bool.and_eq_true, beq_iff_eq, Bool.not_eq_true', decide_eq_true_eq] at h5
  obtain ⟨⟨⟨⟨⟨g1, g2⟩, g3⟩, g4⟩, g5⟩, g6⟩ := h5
  simp [Cond.before, Cond.holds, Cond.value, h1, h2, h3, h4, g1, g2, g3, g4, g5, g6]
def isCode : Jvm.Cond → Bool
  | .code _ _ _ _ => true
  | _ => false
theorem all_split {L : List Jvm.Cond} {P : Jvm.Cond → Bool} (h1 : L.all (fun c => isCode c || P c) = true) (h2 : ∀ c ∈ L.filter isCode, P c = true) : L.all P = true := by
  refine List.all_eq_true.mpr fun c hc => ?_
  have h := List.all_eq_true.mp h1 c hc
  rcases Bool.eq_false_or_eq_true (isCode c) with hi | hi
  · exact h2 c (List.mem_filter.mpr ⟨hc, hi⟩)
  · simpa [hi] using h
set_option maxRecDepth 65536 in
theorem w_c0 : (Jvm.Cond.code x code maxLocals ret).before args0 about1 = true := code_word (m := ⟨1, 2⟩) (meth := k1m2) (c := k1c2) (by decide +kernel) rfl rfl rfl (by decide +kernel)
set_option maxRecDepth 65536 in
theorem w_c1 : (Jvm.Cond.code ({ cls := "com/example/yarkon/yarkon/document/DocumentCharacters", name := "isChar", desc := "(I)Z" } : Jvm.MethodName) prog_24_method_32_code (1 : Nat) (Option.some Jvm.ClassFile.FieldType.boolean)).before args0 about1 = true := code_word (m := ⟨2, 0⟩) (meth := k2m0) (c := k2c0) (by decide +kernel) rfl rfl rfl (by decide +kernel)
set_option maxRecDepth 65536 in
theorem w_c2 : (Jvm.Cond.code ({ cls := "com/example/yarkon/yarkon/document/DocumentCharactersIsCharPinLaw", name := "reference", desc := "(I)Z" } : Jvm.MethodName) method_2_code (1 : Nat) (Option.some Jvm.ClassFile.FieldType.boolean)).before args0 about1 = true := code_word (m := ⟨1, 1⟩) (meth := k1m1) (c := k1c1) (by decide +kernel) rfl rfl rfl (by decide +kernel)
def codes1 : List Jvm.Cond := [Jvm.Cond.code x code maxLocals ret, Jvm.Cond.code ({ cls := "com/example/yarkon/yarkon/document/DocumentCharacters", name := "isChar", desc := "(I)Z" } : Jvm.MethodName) prog_24_method_32_code (1 : Nat) (Option.some Jvm.ClassFile.FieldType.boolean), Jvm.Cond.code ({ cls := "com/example/yarkon/yarkon/document/DocumentCharactersIsCharPinLaw", name := "reference", desc := "(I)Z" } : Jvm.MethodName) method_2_code (1 : Nat) (Option.some Jvm.ClassFile.FieldType.boolean)]
set_option maxRecDepth 65536 in
theorem codes_eq : words1.filter isCode = codes1 := rfl
theorem w_codes : ∀ c ∈ words1.filter isCode, c.before args0 about1 = true := by
  rw [codes_eq]
  intro c hc
  simp only [codes1, List.mem_cons, List.not_mem_nil, or_false] at hc
  rcases hc with rfl | rfl | rfl
  · exact w_c0
  · exact w_c1
  · exact w_c2
set_option maxRecDepth 65536 in
theorem w_t1 : (words1.take 24).all (fun c => isCode c || c.before args0 about1) = true := by decide +kernel
set_option maxRecDepth 65536 in
theorem w_t2 : (words1.drop 24).all (fun c => isCode c || c.before args0 about1) = true := by decide +kernel
theorem w_tables : (allAtoms (Jvm.Cond.code x code maxLocals ret :: tables_1)).before args0 about1 = true := by
  rw [allAtoms_all]
  show words1.all (fun c => c.before args0 about1) = true
  refine all_split ?_ w_codes
  rw [← List.take_append_drop 24 words1, List.all_append, w_t1, w_t2]
  rfl
set_option maxRecDepth 65536 in
theorem w_case : (Jvm.Cond.and given_1 narrow_1).before args0 about1 = true := by decide +kernel
theorem w_applies : (headSpec (Jvm.Cond.code x code maxLocals ret :: tables_1) room_1).applies x e0.platform about1 = true :=
  (Spec.applies_iff w_frames).mpr ⟨w_running, w_runnable, w_alone, w_named, w_hears, w_ripe, w_room, w_tables⟩
theorem atStart : AtStart classFile x code maxLocals ret World_1 tables_1 room_1 Calls_1 rest_1 Pre_1 launch0 p0 e0 about1 theMethod args0 below0 :=
  ⟨lists_1, trivial, launch0.admits_env _ _ _, launch0.least_env, fairChoices_fair.cas, fairChoices_fair.clock, w_frames, w_args, w_heap, w_applies, trivial, trivial, w_case⟩
end start1
theorem witness_1 : WitnessClaimed_1 := ⟨start1.p0, start1.e0, start1.about1, start1.theMethod, start1.args0, start1.below0, start1.atStart⟩
end Jvm.Pilot.@@N@@
