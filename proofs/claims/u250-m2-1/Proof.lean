import JvmDerived
import JvmDerived.Pilot.@@N@@Statement
import JvmDerived.Pilot.@@N@@Code
set_option linter.unusedVariables false
set_option linter.unusedSimpArgs false
namespace Jvm.RoadKit
open Sem ClassFile Op Lib Jvm.Stand Jvm.Free Jvm.LawKit
section New
variable {p : Program} {l : Launch} {e : Env} {R : Room} {s : State} {m : MethodId} {args : Array Value} {below : List Frame} {meth : Method} {c : Code} {T : State} {locs : List Loc} {cells slots : Nat}
theorem retI (X : Stand p l e R s m args below meth c T locs cells slots) (hx : p.tables.exec = Jvm.exec) {pc : Nat} {Ls : Array Slot} {z : Int32} {rest : List Value} (hret : meth.sig.returnType = some .int) (hd : decode c.code pc = .ok (.ireturn, 1)) {fs : List Frame}
    (hl : ∀ (f : JFrame) (acts : List Action), f.method = m → f.locked = none → f.entered = [] → (doReturn e (T.setTop f) acts (some (.int z))).1 = T.setFrames fs) : Steps p.tables e below (T.setTop (mkF m pc Ls (.int z :: rest))) (T.setFrames fs) := by
  have hm' : T.vm.method? m = some meth := X.method'
  have hn : narrow .int (.int z) = .int z := rfl
  show Steps p.tables e below (T.setTop { method := m, pc := pc, locals := Ls, stack := _ :: rest, locked := none }) _
  jvm_step X.here [X.here.top, hx, hd, hm', hret, hn]
  first | (intro acts; rw [hl _ acts rfl rfl rfl]) | rw [hl _ _ rfl rfl rfl]
  exact Steps.refl _
end New
end Jvm.RoadKit
namespace Jvm.Pilot.@@N@@
open Jvm Jvm.ClassFile Sem Op Lib Jvm.Free Jvm.Stand Jvm.LawKit Jvm.RoadKit Bundle Jvm.Pilot.@@N@@.Jvm.D
def own_gates (k : Int32) : Int32 := if k = (3 : Int32) then 1 else if k = (4 : Int32) then 2 else if k = (5 : Int32) then 4 else if k = (6 : Int32) then 8 else 0
def own_exp (k : Int32) : Int32 := if k < (3 : Int32) then 0 else if (6 : Int32) < k then 0 else ((1 : Int32) <<< ((k - (3 : Int32)) &&& 31))
theorem own_num (k : Int32) (h1 : 3 ≤ k.toInt) (h2 : k.toInt ≤ 6) : k = 3 ∨ k = 4 ∨ k = 5 ∨ k = 6 := by
  have e3 : (3 : Int32).toInt = 3 := rfl
  have e4 : (4 : Int32).toInt = 4 := rfl
  have e5 : (5 : Int32).toInt = 5 := rfl
  have e6 : (6 : Int32).toInt = 6 := rfl
  rw [← Int32.toInt_inj, ← Int32.toInt_inj, ← Int32.toInt_inj, ← Int32.toInt_inj]
  omega
theorem own_out {i : Int32} (h3 : ¬ i = (3 : Int32)) (h4 : ¬ i = (4 : Int32)) (h5 : ¬ i = (5 : Int32)) (h6 : ¬ i = (6 : Int32)) : i.toInt < 3 ∨ i.toInt > 6 := by
  by_cases h : 3 ≤ i.toInt ∧ i.toInt ≤ 6
  · rcases own_num i h.1 h.2 with q | q | q | q <;> contradiction
  · omega
theorem own_eq (k : Int32) : own_gates k = own_exp k := by
  have e3 : (3 : Int32).toInt = 3 := rfl
  have e6 : (6 : Int32).toInt = 6 := rfl
  by_cases h : 3 ≤ k.toInt ∧ k.toInt ≤ 6
  · rcases own_num k h.1 h.2 with rfl | rfl | rfl | rfl <;> decide
  · have g : own_exp k = 0 := by
      unfold own_exp
      simp only [Int32.lt_iff_toInt_lt, e3, e6]
      (repeat' split) <;> first | rfl | omega
    rw [g]
    unfold own_gates
    rw [if_neg, if_neg, if_neg, if_neg]
    all_goals (rintro rfl; exact h (by decide))
theorem own_and (k : Int32) : (own_gates k &&& (-16 : Int32)) = (0 : Int32) := by
  unfold own_gates
  (repeat' split) <;> decide
theorem ef_rm1 (m : MethodId) (x0 : Int32) : entryFrame m #[(.int x0)] 2 = mkF m 0 #[.val (.int x0), .unset] [] := by first | (simp [entryFrame, mkF, argsToLocals, Value.category]; done) | rfl
theorem pn_com_example_lynceus_lynceus_Moves : plainName "com/example/lynceus/lynceus/Moves" = true := by first | (simp [plainName, overriddenIn]; done) | decide +kernel
theorem d1_0 : decode prog_47_method_4_code 0 = .ok (.iload_n 0, 1) := by decide +kernel
theorem d1_1 : decode prog_47_method_4_code 1 = .ok (.tableswitch 48 3 6 #[31, 35, 39, 43], 31) := by decide +kernel
theorem d1_32 : decode prog_47_method_4_code 32 = .ok (.iconst 1, 1) := by decide +kernel
theorem d1_33 : decode prog_47_method_4_code 33 = .ok (.goto 17, 3) := by decide +kernel
theorem d1_50 : decode prog_47_method_4_code 50 = .ok (.istore_n 1, 1) := by decide +kernel
theorem d1_51 : decode prog_47_method_4_code 51 = .ok (.iload_n 1, 1) := by decide +kernel
theorem d1_52 : decode prog_47_method_4_code 52 = .ok (.i2b, 1) := by decide +kernel
theorem d1_53 : decode prog_47_method_4_code 53 = .ok (.ireturn, 1) := by decide +kernel
theorem d1_36 : decode prog_47_method_4_code 36 = .ok (.iconst 2, 1) := by decide +kernel
theorem d1_37 : decode prog_47_method_4_code 37 = .ok (.goto 13, 3) := by decide +kernel
theorem d1_40 : decode prog_47_method_4_code 40 = .ok (.iconst 4, 1) := by decide +kernel
theorem d1_41 : decode prog_47_method_4_code 41 = .ok (.goto 9, 3) := by decide +kernel
theorem d1_44 : decode prog_47_method_4_code 44 = .ok (.bipush 8, 2) := by decide +kernel
theorem d1_46 : decode prog_47_method_4_code 46 = .ok (.goto 4, 3) := by decide +kernel
theorem d1_49 : decode prog_47_method_4_code 49 = .ok (.iconst 0, 1) := by decide +kernel
def Q_rm1 (Z : State) (p1 : Int32) (h0 : Heap) (n0 : Nat) (v : Option Value) (h : Heap) (L : List Loc) : Prop := v = some (.int (own_gates p1)) ∧ Fr n0 L ∧ h = h0
set_option maxRecDepth 65536 in
set_option maxHeartbeats 40000000 in
theorem rm1 (l : Launch) (Z : State) (a0 : Array Value) (hw : ∀ d ∈ tables_1, d.before a0 Z = true) (ws : List Jvm.Cond) (p1 : Int32) (h0 : Heap) (n0 : Nat) (Z0 : n0 ≤ h0.size) :
    MetFree l (⟨"com/example/lynceus/lynceus/Moves", "gates", "(B)B"⟩ : MethodName) (head1 (Jvm.Cond.code (⟨"com/example/lynceus/lynceus/Moves", "gates", "(B)B"⟩ : MethodName) prog_47_method_4_code 2 (some .byte) :: ws) ({ frames := 0, cells := 0, slots := 0, locals := 0 } : Room)) (fun a U => a = #[(.int p1)] ∧ Z.Warmed39 U.vm ∧ U.heap = h0) (fun _ _ _ _ _ => True) (fun _ U o U' => ∃ v L, o = .returned v ∧ Q_rm1 Z p1 h0 n0 v U'.heap L ∧ FrameEnd U o U' L ({ frames := 0, cells := 0, slots := 0, locals := 0 } : Room).cells ({ frames := 0, cells := 0, slots := 0, locals := 0 } : Room).slots) := by
  refine MetFree.of_bodySF (plainFor_of_name pn_com_example_lynceus_lynceus_Moves) hisR ?_
  intro p e s m args below meth c s₁ Bd hml0 hP hK
  obtain ⟨rfl, hZ, hh⟩ := hP
  have hx := Bd.exec
  have hby := Bd.bytes
  have hml : c.maxLocals = 2 := hml0
  have hown : s.vm.findClass "com/example/lynceus/lynceus/Moves" = some m.cls := findClass_of_methodNamed Bd.named
  have hnm := (name_of_methodNamed Bd.named Bd.method).1
  have X0 : Stand p l e ({ frames := 0, cells := 0, slots := 0, locals := 0 } : Room) s m #[(.int p1)] below meth c s₁ [] 0 0 := Stand.of_body Bd
  have e0 : s₁.heap = h0 := by rw [← hh, Bd.state]; rfl
  have N0 := Fr.nil n0
  have pre0 : ∀ t, Steps p.tables e below (s₁.setTop (mkF m 0 #[.val (.int p1), .unset] [])) t → Steps p.tables e below (s₁.setTop (entryFrame m #[(.int p1)] 2)) t := fun t k => castTop (ef_rm1 m p1) k
  obtain ⟨fs, hr, hrun, hended, hW, hsame⟩ := X0.leave (v := some (.int (own_gates p1))) (fun h => by rw [Bd.returns] at h; cases h)
  refine ⟨_, _, pre0 _ ?_, hrun, hended, _, _, rfl, ?_, ⟨_, rfl⟩, hW, hsame.mono (by decide) (by decide)⟩
  rotate_left
  · exact ⟨rfl, N0, e0⟩
  show Steps p.tables e below (s₁.setTop (mkF m 0 #[.val (.int p1), .unset] [])) _
  refine XS.iloadN X0.here hx rfl (hb hby d1_0) rfl ?_
  by_cases hs1_3 : p1 = (3 : Int32)
  · show Steps p.tables e below (s₁.setTop (mkF m 1 #[.val (.int p1), .unset] [(.int p1)])) _
    refine XS.tswIn X0.here hx rfl (pc0 := 1) (pc' := 32) (o := 31) rfl (hb hby d1_1) (i := p1) rfl (by rw [hs1_3]; decide) (by rw [hs1_3]; decide) (by decide) (by decide) ?_
    show Steps p.tables e below (s₁.setTop (mkF m 32 #[.val (.int p1), .unset] [])) _
    refine XS.iconst X0.here hx rfl (hb hby d1_32) ?_
    show Steps p.tables e below (s₁.setTop (mkF m 33 #[.val (.int p1), .unset] [(.int (1 : Int32))])) _
    refine XS.goto X0.here hx rfl (pc0 := 33) (pc' := 50) rfl (hb hby d1_33) (by decide) (by decide) ?_
    show Steps p.tables e below (s₁.setTop (mkF m 50 #[.val (.int p1), .unset] [(.int (1 : Int32))])) _
    refine XS.istoreN X0.here hx rfl (hb hby d1_50) rfl (l' := #[.val (.int p1), .val (.int (1 : Int32))]) rfl ?_
    show Steps p.tables e below (s₁.setTop (mkF m 51 #[.val (.int p1), .val (.int (1 : Int32))] [])) _
    refine XS.iloadN X0.here hx rfl (hb hby d1_51) rfl ?_
    show Steps p.tables e below (s₁.setTop (mkF m 52 #[.val (.int p1), .val (.int (1 : Int32))] [(.int (1 : Int32))])) _
    refine XS.i2b X0.here hx rfl (hb hby d1_52) rfl ?_
    show Steps p.tables e below (s₁.setTop (mkF m 53 #[.val (.int p1), .val (.int (1 : Int32))] [(.int ((1 : Int32).toInt8.toInt32))])) _
    have q : (own_gates p1) = nar .byte ((1 : Int32).toInt8.toInt32) := (show (own_gates p1) = ((1 : Int32).toInt8.toInt32) by exact (if_pos hs1_3).trans (by decide)).trans (by decide)
    rw [q] at hr
    exact retN X0 hx (t := .byte) Bd.returns (by simp) (hb hby d1_53) hr
  by_cases hs1_4 : p1 = (4 : Int32)
  · show Steps p.tables e below (s₁.setTop (mkF m 1 #[.val (.int p1), .unset] [(.int p1)])) _
    refine XS.tswIn X0.here hx rfl (pc0 := 1) (pc' := 36) (o := 35) rfl (hb hby d1_1) (i := p1) rfl (by rw [hs1_4]; decide) (by rw [hs1_4]; decide) (by decide) (by decide) ?_
    show Steps p.tables e below (s₁.setTop (mkF m 36 #[.val (.int p1), .unset] [])) _
    refine XS.iconst X0.here hx rfl (hb hby d1_36) ?_
    show Steps p.tables e below (s₁.setTop (mkF m 37 #[.val (.int p1), .unset] [(.int (2 : Int32))])) _
    refine XS.goto X0.here hx rfl (pc0 := 37) (pc' := 50) rfl (hb hby d1_37) (by decide) (by decide) ?_
    show Steps p.tables e below (s₁.setTop (mkF m 50 #[.val (.int p1), .unset] [(.int (2 : Int32))])) _
    refine XS.istoreN X0.here hx rfl (hb hby d1_50) rfl (l' := #[.val (.int p1), .val (.int (2 : Int32))]) rfl ?_
    show Steps p.tables e below (s₁.setTop (mkF m 51 #[.val (.int p1), .val (.int (2 : Int32))] [])) _
    refine XS.iloadN X0.here hx rfl (hb hby d1_51) rfl ?_
    show Steps p.tables e below (s₁.setTop (mkF m 52 #[.val (.int p1), .val (.int (2 : Int32))] [(.int (2 : Int32))])) _
    refine XS.i2b X0.here hx rfl (hb hby d1_52) rfl ?_
    show Steps p.tables e below (s₁.setTop (mkF m 53 #[.val (.int p1), .val (.int (2 : Int32))] [(.int ((2 : Int32).toInt8.toInt32))])) _
    have q : (own_gates p1) = nar .byte ((2 : Int32).toInt8.toInt32) := (show (own_gates p1) = ((2 : Int32).toInt8.toInt32) by exact (if_neg hs1_3).trans ((if_pos hs1_4).trans (by decide))).trans (by decide)
    rw [q] at hr
    exact retN X0 hx (t := .byte) Bd.returns (by simp) (hb hby d1_53) hr
  by_cases hs1_5 : p1 = (5 : Int32)
  · show Steps p.tables e below (s₁.setTop (mkF m 1 #[.val (.int p1), .unset] [(.int p1)])) _
    refine XS.tswIn X0.here hx rfl (pc0 := 1) (pc' := 40) (o := 39) rfl (hb hby d1_1) (i := p1) rfl (by rw [hs1_5]; decide) (by rw [hs1_5]; decide) (by decide) (by decide) ?_
    show Steps p.tables e below (s₁.setTop (mkF m 40 #[.val (.int p1), .unset] [])) _
    refine XS.iconst X0.here hx rfl (hb hby d1_40) ?_
    show Steps p.tables e below (s₁.setTop (mkF m 41 #[.val (.int p1), .unset] [(.int (4 : Int32))])) _
    refine XS.goto X0.here hx rfl (pc0 := 41) (pc' := 50) rfl (hb hby d1_41) (by decide) (by decide) ?_
    show Steps p.tables e below (s₁.setTop (mkF m 50 #[.val (.int p1), .unset] [(.int (4 : Int32))])) _
    refine XS.istoreN X0.here hx rfl (hb hby d1_50) rfl (l' := #[.val (.int p1), .val (.int (4 : Int32))]) rfl ?_
    show Steps p.tables e below (s₁.setTop (mkF m 51 #[.val (.int p1), .val (.int (4 : Int32))] [])) _
    refine XS.iloadN X0.here hx rfl (hb hby d1_51) rfl ?_
    show Steps p.tables e below (s₁.setTop (mkF m 52 #[.val (.int p1), .val (.int (4 : Int32))] [(.int (4 : Int32))])) _
    refine XS.i2b X0.here hx rfl (hb hby d1_52) rfl ?_
    show Steps p.tables e below (s₁.setTop (mkF m 53 #[.val (.int p1), .val (.int (4 : Int32))] [(.int ((4 : Int32).toInt8.toInt32))])) _
    have q : (own_gates p1) = nar .byte ((4 : Int32).toInt8.toInt32) := (show (own_gates p1) = ((4 : Int32).toInt8.toInt32) by exact (if_neg hs1_3).trans ((if_neg hs1_4).trans ((if_pos hs1_5).trans (by decide)))).trans (by decide)
    rw [q] at hr
    exact retN X0 hx (t := .byte) Bd.returns (by simp) (hb hby d1_53) hr
  by_cases hs1_6 : p1 = (6 : Int32)
  · show Steps p.tables e below (s₁.setTop (mkF m 1 #[.val (.int p1), .unset] [(.int p1)])) _
    refine XS.tswIn X0.here hx rfl (pc0 := 1) (pc' := 44) (o := 43) rfl (hb hby d1_1) (i := p1) rfl (by rw [hs1_6]; decide) (by rw [hs1_6]; decide) (by decide) (by decide) ?_
    show Steps p.tables e below (s₁.setTop (mkF m 44 #[.val (.int p1), .unset] [])) _
    refine XS.bipush X0.here hx rfl (hb hby d1_44) ?_
    show Steps p.tables e below (s₁.setTop (mkF m 46 #[.val (.int p1), .unset] [(.int (8 : Int32))])) _
    refine XS.goto X0.here hx rfl (pc0 := 46) (pc' := 50) rfl (hb hby d1_46) (by decide) (by decide) ?_
    show Steps p.tables e below (s₁.setTop (mkF m 50 #[.val (.int p1), .unset] [(.int (8 : Int32))])) _
    refine XS.istoreN X0.here hx rfl (hb hby d1_50) rfl (l' := #[.val (.int p1), .val (.int (8 : Int32))]) rfl ?_
    show Steps p.tables e below (s₁.setTop (mkF m 51 #[.val (.int p1), .val (.int (8 : Int32))] [])) _
    refine XS.iloadN X0.here hx rfl (hb hby d1_51) rfl ?_
    show Steps p.tables e below (s₁.setTop (mkF m 52 #[.val (.int p1), .val (.int (8 : Int32))] [(.int (8 : Int32))])) _
    refine XS.i2b X0.here hx rfl (hb hby d1_52) rfl ?_
    show Steps p.tables e below (s₁.setTop (mkF m 53 #[.val (.int p1), .val (.int (8 : Int32))] [(.int ((8 : Int32).toInt8.toInt32))])) _
    have q : (own_gates p1) = nar .byte ((8 : Int32).toInt8.toInt32) := (show (own_gates p1) = ((8 : Int32).toInt8.toInt32) by exact (if_neg hs1_3).trans ((if_neg hs1_4).trans ((if_neg hs1_5).trans ((if_pos hs1_6).trans (by decide))))).trans (by decide)
    rw [q] at hr
    exact retN X0 hx (t := .byte) Bd.returns (by simp) (hb hby d1_53) hr
  show Steps p.tables e below (s₁.setTop (mkF m 1 #[.val (.int p1), .unset] [(.int p1)])) _
  refine XS.tswOut X0.here hx rfl (pc0 := 1) (pc' := 49) rfl (hb hby d1_1) (i := p1) rfl (own_out hs1_3 hs1_4 hs1_5 hs1_6) (by decide) (by decide) ?_
  show Steps p.tables e below (s₁.setTop (mkF m 49 #[.val (.int p1), .unset] [])) _
  refine XS.iconst X0.here hx rfl (hb hby d1_49) ?_
  show Steps p.tables e below (s₁.setTop (mkF m 50 #[.val (.int p1), .unset] [(.int (0 : Int32))])) _
  refine XS.istoreN X0.here hx rfl (hb hby d1_50) rfl (l' := #[.val (.int p1), .val (.int (0 : Int32))]) rfl ?_
  show Steps p.tables e below (s₁.setTop (mkF m 51 #[.val (.int p1), .val (.int (0 : Int32))] [])) _
  refine XS.iloadN X0.here hx rfl (hb hby d1_51) rfl ?_
  show Steps p.tables e below (s₁.setTop (mkF m 52 #[.val (.int p1), .val (.int (0 : Int32))] [(.int (0 : Int32))])) _
  refine XS.i2b X0.here hx rfl (hb hby d1_52) rfl ?_
  show Steps p.tables e below (s₁.setTop (mkF m 53 #[.val (.int p1), .val (.int (0 : Int32))] [(.int ((0 : Int32).toInt8.toInt32))])) _
  have q : (own_gates p1) = nar .byte ((0 : Int32).toInt8.toInt32) := (show (own_gates p1) = ((0 : Int32).toInt8.toInt32) by exact (if_neg hs1_3).trans ((if_neg hs1_4).trans ((if_neg hs1_5).trans ((if_neg hs1_6).trans (by decide))))).trans (by decide)
  rw [q] at hr
  exact retN X0 hx (t := .byte) Bd.returns (by simp) (hb hby d1_53) hr
theorem ef_rm0 (m : MethodId) (x0 : Int32) : entryFrame m #[(.int x0)] maxLocals = mkF m 0 #[.val (.int x0), .unset, .unset, .unset, .unset] [] := by first | (simp [entryFrame, mkF, argsToLocals, Value.category, maxLocals]; done) | rfl
theorem pn_com_example_lynceus_lynceus_MovesGatesPinLaw : plainName "com/example/lynceus/lynceus/MovesGatesPinLaw" = true := by first | (simp [plainName, overriddenIn]; done) | decide +kernel
theorem pd__B_B : parseMethodDescriptor "(B)B" = some ⟨[.byte], some .byte⟩ := by decide +kernel
def Q_rm0 (Z : State) (p1 : Int32) (h0 : Heap) (n0 : Nat) (v : Option Value) (h : Heap) (L : List Loc) : Prop := v = some (.int (1 : Int32)) ∧ Fr n0 L
set_option maxRecDepth 65536 in
set_option maxHeartbeats 40000000 in
theorem rm0 (l : Launch) (Z : State) (a0 : Array Value) (hw : ∀ d ∈ tables_1, d.before a0 Z = true) (ws : List Jvm.Cond) (p1 : Int32) (h0 : Heap) (n0 : Nat) (Z0 : n0 ≤ h0.size) :
    MetFree l x (head1 (Jvm.Cond.code x code maxLocals ret :: ws) room_1) (fun a U => a = #[(.int p1)] ∧ Z.Warmed39 U.vm ∧ U.heap = h0) (fun _ _ _ _ _ => True) (fun _ U o U' => ∃ v L, o = .returned v ∧ Q_rm0 Z p1 h0 n0 v U'.heap L ∧ FrameEnd U o U' L 0 0) := by
  refine MetFree.of_bodySF (plainFor_of_name pn_com_example_lynceus_lynceus_MovesGatesPinLaw) hisR ?_
  intro p e s m args below meth c s₁ Bd hml0 hP hK
  obtain ⟨rfl, hZ, hh⟩ := hP
  have hx := Bd.exec
  have hby := Bd.bytes
  have hml : c.maxLocals = 5 := hml0
  have hown : s.vm.findClass "com/example/lynceus/lynceus/MovesGatesPinLaw" = some m.cls := findClass_of_methodNamed Bd.named
  have hnm := (name_of_methodNamed Bd.named Bd.method).1
  have X0 : Stand p l e room_1 s m #[(.int p1)] below meth c s₁ [] 0 0 := Stand.of_body Bd
  have e0 : s₁.heap = h0 := by rw [← hh, Bd.state]; rfl
  have N0 := Fr.nil n0
  have pre0 : ∀ t, Steps p.tables e below (s₁.setTop (mkF m 0 #[.val (.int p1), .unset, .unset, .unset, .unset] [])) t → Steps p.tables e below (s₁.setTop (entryFrame m #[(.int p1)] maxLocals)) t := fun t k => castTop (ef_rm0 m p1) k
  have pre1 : ∀ t, Steps p.tables e below (s₁.setTop (mkF m 3 #[.val (.int p1), .val (.int (p1.toInt8.toInt32)), .unset, .unset, .unset] [])) t → Steps p.tables e below (s₁.setTop (entryFrame m #[(.int p1)] maxLocals)) t := fun t k => pre0 t (by
    show Steps p.tables e below (s₁.setTop (mkF m 0 #[.val (.int p1), .unset, .unset, .unset, .unset] [])) _
    refine XS.iloadN X0.here hx rfl (hb hby at_0) rfl ?_
    show Steps p.tables e below (s₁.setTop (mkF m 1 #[.val (.int p1), .unset, .unset, .unset, .unset] [(.int p1)])) _
    refine XS.i2b X0.here hx rfl (hb hby at_1) rfl ?_
    show Steps p.tables e below (s₁.setTop (mkF m 2 #[.val (.int p1), .unset, .unset, .unset, .unset] [(.int (p1.toInt8.toInt32))])) _
    refine XS.istoreN X0.here hx rfl (hb hby at_2) rfl (l' := #[.val (.int p1), .val (.int (p1.toInt8.toInt32)), .unset, .unset, .unset]) rfl ?_
    exact k)
  obtain ⟨kd, hkd⟩ : ∃ z, z = (p1.toInt8.toInt32) := ⟨_, rfl⟩
  rw [← hkd] at pre1
  have pre2 : ∀ t, Steps p.tables e below (s₁.setTop (mkF m 4 #[.val (.int p1), .val (.int kd), .unset, .unset, .unset] [(.int kd)])) t → Steps p.tables e below (s₁.setTop (entryFrame m #[(.int p1)] maxLocals)) t := fun t k => pre1 t (by
    show Steps p.tables e below (s₁.setTop (mkF m 3 #[.val (.int p1), .val (.int kd), .unset, .unset, .unset] [])) _
    refine XS.iloadN X0.here hx rfl (hb hby at_3) rfl ?_
    exact k)
  obtain ⟨_, _, ⟨T3, L3, k3, n3⟩, -, X3, ⟨Lc3, hQ3, l3, y3, z3⟩, st3⟩ := Jvm.LawKit.callS X0 hx (y := (⟨"com/example/lynceus/lynceus/Moves", "gates", "(B)B"⟩ : MethodName)) hown (mvT hZ (hw _ (List.mem_of_getElem? (i := 0) rfl))) (mvT hZ (hw _ (List.mem_of_getElem? (i := 1) rfl))) (mvT hZ (hw _ (List.mem_of_getElem? (i := 2) rfl))) (mvT hZ (hw _ (List.mem_of_getElem? (i := 3) rfl))) (by decide) (backOf (W := 0) (rm1 l Z a0 hw [] kd h0 n0 Z0) hZ (hw _ (List.mem_of_getElem? (i := 3) rfl)) (hw _ (List.mem_of_getElem? (i := 2) rfl)) (by decide) (by decide)) (g := (mkF m 4 #[.val (.int p1), .val (.int kd), .unset, .unset, .unset] [(.int kd)])) rfl (by rw [hml]; rfl) (argsL := [(.int kd)]) (rest := []) (lenOf pd__B_B rfl) rfl (by show 2 * 0 + _ ≤ _; exact Nat.le_of_eq rfl) (hb hby at_4) (fun _ _ => ⟨rfl, e0, (by decide : 0 + 0 ≤ _), (by decide : 0 + 0 ≤ _)⟩)
  dsimp only [Pt.U, Pt.locs, Pt.cells, Pt.slots] at X3 l3 y3 z3 st3 hQ3
  subst l3 y3 z3
  obtain ⟨rfl, N3q, eq1⟩ := hQ3
  have N3 := Fr.app N0 N3q
  have pre4 : ∀ t, Steps p.tables e below (T3.setTop (mkF m 7 #[.val (.int p1), .val (.int kd), .unset, .unset, .unset] [(.int (own_gates kd))])) t → Steps p.tables e below (s₁.setTop (entryFrame m #[(.int p1)] maxLocals)) t := fun t k => pre2 t (st3 t k)
  have pre5 : ∀ t, Steps p.tables e below (T3.setTop (mkF m 27 #[.val (.int p1), .val (.int kd), .val (.int (own_gates kd)), .val (.int (own_exp kd)), .unset] [])) t → Steps p.tables e below (s₁.setTop (entryFrame m #[(.int p1)] maxLocals)) t := fun t k => pre4 t (by
    show Steps p.tables e below (T3.setTop (mkF m 7 #[.val (.int p1), .val (.int kd), .unset, .unset, .unset] [(.int (own_gates kd))])) _
    refine XS.istoreN X3.here hx rfl (hb hby at_7) rfl (l' := #[.val (.int p1), .val (.int kd), .val (.int (own_gates kd)), .unset, .unset]) rfl ?_
    show Steps p.tables e below (T3.setTop (mkF m 8 #[.val (.int p1), .val (.int kd), .val (.int (own_gates kd)), .unset, .unset] [])) _
    refine XS.iconst X3.here hx rfl (hb hby at_8) ?_
    show Steps p.tables e below (T3.setTop (mkF m 9 #[.val (.int p1), .val (.int kd), .val (.int (own_gates kd)), .unset, .unset] [(.int (0 : Int32))])) _
    refine XS.istoreN X3.here hx rfl (hb hby at_9) rfl (l' := #[.val (.int p1), .val (.int kd), .val (.int (own_gates kd)), .val (.int (0 : Int32)), .unset]) rfl ?_
    show Steps p.tables e below (T3.setTop (mkF m 10 #[.val (.int p1), .val (.int kd), .val (.int (own_gates kd)), .val (.int (0 : Int32)), .unset] [])) _
    refine XS.iloadN X3.here hx rfl (hb hby at_10) rfl ?_
    show Steps p.tables e below (T3.setTop (mkF m 11 #[.val (.int p1), .val (.int kd), .val (.int (own_gates kd)), .val (.int (0 : Int32)), .unset] [(.int kd)])) _
    refine XS.iconst X3.here hx rfl (hb hby at_11) ?_
    by_cases hc12 : kd < (3 : Int32)
    · show Steps p.tables e below (T3.setTop (mkF m 12 #[.val (.int p1), .val (.int kd), .val (.int (own_gates kd)), .val (.int (0 : Int32)), .unset] [(.int (3 : Int32)), (.int kd)])) _
      refine XS.icmpYes X3.here hx rfl (pc0 := 12) (pc' := 27) rfl (hb hby at_12) rfl (tlt hc12).1 (by decide) (by decide) ?_
      show Steps p.tables e below (T3.setTop (mkF m 27 #[.val (.int p1), .val (.int kd), .val (.int (own_gates kd)), .val (.int (0 : Int32)), .unset] [])) _
      exact castTop (by rw [show (own_exp kd) = (0 : Int32) from by exact (if_pos hc12).trans (rfl)]) k
    · show Steps p.tables e below (T3.setTop (mkF m 12 #[.val (.int p1), .val (.int kd), .val (.int (own_gates kd)), .val (.int (0 : Int32)), .unset] [(.int (3 : Int32)), (.int kd)])) _
      refine XS.icmpNo X3.here hx rfl (hb hby at_12) rfl (flt hc12).1 ?_
      show Steps p.tables e below (T3.setTop (mkF m 15 #[.val (.int p1), .val (.int kd), .val (.int (own_gates kd)), .val (.int (0 : Int32)), .unset] [])) _
      refine XS.iloadN X3.here hx rfl (hb hby at_15) rfl ?_
      show Steps p.tables e below (T3.setTop (mkF m 16 #[.val (.int p1), .val (.int kd), .val (.int (own_gates kd)), .val (.int (0 : Int32)), .unset] [(.int kd)])) _
      refine XS.bipush X3.here hx rfl (hb hby at_16) ?_
      by_cases hc18 : (6 : Int32) < kd
      · show Steps p.tables e below (T3.setTop (mkF m 18 #[.val (.int p1), .val (.int kd), .val (.int (own_gates kd)), .val (.int (0 : Int32)), .unset] [(.int (6 : Int32)), (.int kd)])) _
        refine XS.icmpYes X3.here hx rfl (pc0 := 18) (pc' := 27) rfl (hb hby at_18) rfl (tlt hc18).2.2.1 (by decide) (by decide) ?_
        show Steps p.tables e below (T3.setTop (mkF m 27 #[.val (.int p1), .val (.int kd), .val (.int (own_gates kd)), .val (.int (0 : Int32)), .unset] [])) _
        exact castTop (by rw [show (own_exp kd) = (0 : Int32) from by exact (if_neg hc12).trans ((if_pos hc18).trans (rfl))]) k
      · show Steps p.tables e below (T3.setTop (mkF m 18 #[.val (.int p1), .val (.int kd), .val (.int (own_gates kd)), .val (.int (0 : Int32)), .unset] [(.int (6 : Int32)), (.int kd)])) _
        refine XS.icmpNo X3.here hx rfl (hb hby at_18) rfl (flt hc18).2.2.1 ?_
        show Steps p.tables e below (T3.setTop (mkF m 21 #[.val (.int p1), .val (.int kd), .val (.int (own_gates kd)), .val (.int (0 : Int32)), .unset] [])) _
        refine XS.iconst X3.here hx rfl (hb hby at_21) ?_
        show Steps p.tables e below (T3.setTop (mkF m 22 #[.val (.int p1), .val (.int kd), .val (.int (own_gates kd)), .val (.int (0 : Int32)), .unset] [(.int (1 : Int32))])) _
        refine XS.iloadN X3.here hx rfl (hb hby at_22) rfl ?_
        show Steps p.tables e below (T3.setTop (mkF m 23 #[.val (.int p1), .val (.int kd), .val (.int (own_gates kd)), .val (.int (0 : Int32)), .unset] [(.int kd), (.int (1 : Int32))])) _
        refine XS.iconst X3.here hx rfl (hb hby at_23) ?_
        show Steps p.tables e below (T3.setTop (mkF m 24 #[.val (.int p1), .val (.int kd), .val (.int (own_gates kd)), .val (.int (0 : Int32)), .unset] [(.int (3 : Int32)), (.int kd), (.int (1 : Int32))])) _
        refine XS.isub X3.here hx rfl (hb hby at_24) rfl ?_
        show Steps p.tables e below (T3.setTop (mkF m 25 #[.val (.int p1), .val (.int kd), .val (.int (own_gates kd)), .val (.int (0 : Int32)), .unset] [(.int (kd - (3 : Int32))), (.int (1 : Int32))])) _
        refine XS.ishl X3.here hx rfl (hb hby at_25) rfl ?_
        show Steps p.tables e below (T3.setTop (mkF m 26 #[.val (.int p1), .val (.int kd), .val (.int (own_gates kd)), .val (.int (0 : Int32)), .unset] [(.int ((1 : Int32) <<< ((kd - (3 : Int32)) &&& 31)))])) _
        refine XS.istoreN X3.here hx rfl (hb hby at_26) rfl (l' := #[.val (.int p1), .val (.int kd), .val (.int (own_gates kd)), .val (.int ((1 : Int32) <<< ((kd - (3 : Int32)) &&& 31))), .unset]) rfl ?_
        show Steps p.tables e below (T3.setTop (mkF m 27 #[.val (.int p1), .val (.int kd), .val (.int (own_gates kd)), .val (.int ((1 : Int32) <<< ((kd - (3 : Int32)) &&& 31))), .unset] [])) _
        exact castTop (by rw [show (own_exp kd) = ((1 : Int32) <<< ((kd - (3 : Int32)) &&& 31)) from by exact (if_neg hc12).trans ((if_neg hc18).trans (rfl))]) k)
  have pre6 : ∀ t, Steps p.tables e below (T3.setTop (mkF m 52 #[.val (.int p1), .val (.int kd), .val (.int (own_gates kd)), .val (.int (own_exp kd)), .val (.int (1 : Int32))] [(.int (1 : Int32))])) t → Steps p.tables e below (s₁.setTop (entryFrame m #[(.int p1)] maxLocals)) t := fun t k => pre5 t (by
    show Steps p.tables e below (T3.setTop (mkF m 27 #[.val (.int p1), .val (.int kd), .val (.int (own_gates kd)), .val (.int (own_exp kd)), .unset] [])) _
    refine XS.iconst X3.here hx rfl (hb hby at_27) ?_
    show Steps p.tables e below (T3.setTop (mkF m 28 #[.val (.int p1), .val (.int kd), .val (.int (own_gates kd)), .val (.int (own_exp kd)), .unset] [(.int (1 : Int32))])) _
    refine XS.istore X3.here hx rfl (hb hby at_28) rfl (l' := #[.val (.int p1), .val (.int kd), .val (.int (own_gates kd)), .val (.int (own_exp kd)), .val (.int (1 : Int32))]) rfl ?_
    show Steps p.tables e below (T3.setTop (mkF m 30 #[.val (.int p1), .val (.int kd), .val (.int (own_gates kd)), .val (.int (own_exp kd)), .val (.int (1 : Int32))] [])) _
    refine XS.iload X3.here hx rfl (hb hby at_30) rfl ?_
    show Steps p.tables e below (T3.setTop (mkF m 32 #[.val (.int p1), .val (.int kd), .val (.int (own_gates kd)), .val (.int (own_exp kd)), .val (.int (1 : Int32))] [(.int (1 : Int32))])) _
    refine XS.ifNo X3.here hx rfl (hb hby at_32) rfl ((if0 _ _).trans (feq (by decide : ¬ ((1 : Int32) = (0 : Int32)))).1) ?_
    show Steps p.tables e below (T3.setTop (mkF m 35 #[.val (.int p1), .val (.int kd), .val (.int (own_gates kd)), .val (.int (own_exp kd)), .val (.int (1 : Int32))] [])) _
    refine XS.iloadN X3.here hx rfl (hb hby at_35) rfl ?_
    show Steps p.tables e below (T3.setTop (mkF m 36 #[.val (.int p1), .val (.int kd), .val (.int (own_gates kd)), .val (.int (own_exp kd)), .val (.int (1 : Int32))] [(.int (own_gates kd))])) _
    refine XS.iloadN X3.here hx rfl (hb hby at_36) rfl ?_
    show Steps p.tables e below (T3.setTop (mkF m 37 #[.val (.int p1), .val (.int kd), .val (.int (own_gates kd)), .val (.int (own_exp kd)), .val (.int (1 : Int32))] [(.int (own_exp kd)), (.int (own_gates kd))])) _
    refine XS.icmpNo X3.here hx rfl (hb hby at_37) rfl (teq (own_eq kd)).2 ?_
    show Steps p.tables e below (T3.setTop (mkF m 40 #[.val (.int p1), .val (.int kd), .val (.int (own_gates kd)), .val (.int (own_exp kd)), .val (.int (1 : Int32))] [])) _
    refine XS.iloadN X3.here hx rfl (hb hby at_40) rfl ?_
    show Steps p.tables e below (T3.setTop (mkF m 41 #[.val (.int p1), .val (.int kd), .val (.int (own_gates kd)), .val (.int (own_exp kd)), .val (.int (1 : Int32))] [(.int (own_gates kd))])) _
    refine XS.bipush X3.here hx rfl (hb hby at_41) ?_
    show Steps p.tables e below (T3.setTop (mkF m 43 #[.val (.int p1), .val (.int kd), .val (.int (own_gates kd)), .val (.int (own_exp kd)), .val (.int (1 : Int32))] [(.int (-16 : Int32)), (.int (own_gates kd))])) _
    refine XS.iand X3.here hx rfl (hb hby at_43) rfl ?_
    show Steps p.tables e below (T3.setTop (mkF m 44 #[.val (.int p1), .val (.int kd), .val (.int (own_gates kd)), .val (.int (own_exp kd)), .val (.int (1 : Int32))] [(.int ((own_gates kd) &&& (-16 : Int32)))])) _
    refine XS.ifNo X3.here hx rfl (hb hby at_44) rfl ((if0 _ _).trans (teq (own_and kd)).2) ?_
    show Steps p.tables e below (T3.setTop (mkF m 47 #[.val (.int p1), .val (.int kd), .val (.int (own_gates kd)), .val (.int (own_exp kd)), .val (.int (1 : Int32))] [])) _
    refine XS.iconst X3.here hx rfl (hb hby at_47) ?_
    show Steps p.tables e below (T3.setTop (mkF m 48 #[.val (.int p1), .val (.int kd), .val (.int (own_gates kd)), .val (.int (own_exp kd)), .val (.int (1 : Int32))] [(.int (1 : Int32))])) _
    refine XS.goto X3.here hx rfl (pc0 := 48) (pc' := 52) rfl (hb hby at_48) (by decide) (by decide) ?_
    exact k)
  obtain ⟨fs, hr, hrun, hended, hW, hsame⟩ := X3.leave (v := some (.int (1 : Int32))) (fun h => by rw [Bd.returns] at h; cases h)
  refine ⟨_, _, pre6 _ ?_, hrun, hended, _, _, rfl, ?_, ⟨_, rfl⟩, hW, hsame.mono (by decide) (by decide)⟩
  · exact retN X3 hx (t := .boolean) Bd.returns (by simp) (hb hby at_52) hr
  · exact ⟨rfl, N3⟩
set_option maxRecDepth 65536 in
set_option maxHeartbeats 40000000 in
theorem comes_1 {Post : Tables → Env → Array Value → State → Outcome → State → Prop} (hpost : ∀ tb e args s v u, (limb_1_1.after args s (.returned v) u = true ∧ limb_1_2.after args s (.returned v) u = true ∧ True) → FrameEnd s (.returned v) u (Jvm.fieldLocs frame_1_writes args s ++ Jvm.arrayLocs frame_1_arrays args s ++ Jvm.staticLocs frame_1_statics s) 0 0 → Post tb e args s (.returned v) u) :
    ArmFor flags0 classFile x code maxLocals ret World_1 tables_1 room_1 Calls_1 rest_1 Pre_1 Post := by
  intro l hfl _ _ p e ha hc hk s m args below hf hA hF happ hP
  obtain ⟨hcalls, hrest, hpre⟩ := hP
  obtain ⟨-, -, -, hnamed, -, -, -, hat⟩ := (Spec.applies_iff hf).mp happ
  obtain ⟨hg, hn⟩ := and_e (Cond.before_iff.mp (show (Jvm.Cond.and given_1 narrow_1).before args s = true from hpre))
  obtain ⟨gc, gr0⟩ := and_e hg
  obtain ⟨w0, rfl⟩ : ∃ w0 : Value, args = #[w0] := by
    have hs : args.size = 1 := by simpa [Cond.value, given_1] using gc
    obtain ⟨L⟩ := args
    match L, hs with
    | [w0], _ => exact ⟨w0, rfl⟩
  have hw := fun d (hd : d ∈ tables_1) => atoms_spec (ws := Jvm.Cond.code x code maxLocals ret :: tables_1) hat d (List.mem_cons_of_mem _ hd)
  obtain ⟨i0, ei0⟩ := is_v gr0
  obtain rfl : w0 = (.int i0) := Option.some.inj ei0
  obtain ⟨n, o, h1, h2, h3, _, L, rfl, ⟨rfl, N⟩, hq⟩ := rm0 l s _ hw tables_1 i0 s.heap s.heap.size (Nat.le_refl _) p e ha hc hk s m _ below hf ((Spec.applies_iff_loose hf).mp happ).1 ⟨rfl, State.Warmed39.refl s, rfl⟩ trivial
  refine ⟨n, _, h1, h2, h3, hpost _ _ _ _ _ _ ⟨Cond.after_iff.mpr rfl, Cond.after_iff.mpr (eq_i res_at (Term.int_eval (1)) rfl), trivial⟩ ⟨hq.1, hq.2.1, (hq.2.2.sift fun y hy => Or.inr (N y hy)).mono (by decide) (by decide)⟩⟩
theorem main_1_1 : Claimed_1_1 := comes_1 fun _ _ _ _ _ _ h hF => ⟨h.1, hF⟩
theorem main_1_2 : Claimed_1_2 := comes_1 fun _ _ _ _ _ _ h hF => ⟨h.2.1, hF⟩
end Jvm.Pilot.@@N@@
namespace Jvm.Pilot.@@N@@
open Jvm Jvm.ClassFile Sem Op Lib Jvm.Free Jvm.Stand Jvm.Pilot.@@N@@.Jvm.D
/-! MADE BY PROGRAM (witnessworld.py) out of the Statement's table words and the real class files: 9 classes; the members and pool entries that the words name. The judged class is class 1, her method 1. -/
namespace start1
open Jvm.ClassFile
def u (s : String) : CpInfo := .utf8 (stringToUtf16 s)
/-- a pool by its gaps: so many unusable entries, then the entry; so many at the end -/
def gap : Nat → List CpInfo → List CpInfo
  | 0, r => r
  | n + 1, r => .unusable :: gap n r
def poolList (es : List (Nat × CpInfo)) (last : Nat) : List CpInfo := es.foldr (fun e r => gap e.1 (e.2 :: r)) (gap last [])
def pool (es : List (Nat × CpInfo)) (last : Nat) : Array CpInfo := ⟨poolList es last⟩
def fileOf (pool : Array CpInfo) (this : Nat) (attrs : Array Attribute := #[]) (ms : Array MethodInfo := #[]) (fl : Nat := 33) (sup : Nat := 0) (ifs : Array Nat := #[]) (fds : Array FieldInfo := #[]) : ClassFile where
  minorVersion := 0
  majorVersion := 65
  constantPool := pool
  accessFlags := fl
  thisClass := this
  superClass := sup
  interfaces := ifs
  fields := fds
  methods := ms
  attributes := attrs
def plain (name : String) (sup : Option ClassId) : Class where
  name := name
  kind := .ordinary
  loader := none
  accessFlags := 33
  super := sup
  interfaces := #[]
  cf := none
  fields := #[]
  methods := #[]
  instanceTypes := #[]
  staticTypes := #[]
  resolved := #[]
  callSites := []
  init := .initialized
  statics := none
  mirror := none

def pool0 : Array CpInfo := pool [(5, u "<init>"), (0, u "()V"), (1, .class_ 10), (1, u "java/lang/Object")] 113

def k0m0 : Method := { name := "<init>", desc := "()V", sig := { parameters := [], returnType := none }, accessFlags := 1, code := none }
/-- java/lang/Object -/
def k0 : Class := { plain "java/lang/Object" none with
  accessFlags := 33
  interfaces := #[]
  cf := some (fileOf pool0 8 #[] #[{ accessFlags := 1, nameIndex := 5, descriptorIndex := 6, attributes := #[] }] 33 0 #[] #[])
  fields := #[]
  methods := #[k0m0]
  instanceTypes := #[]
  staticTypes := #[]
  resolved := Array.replicate 124 none
  statics := none }

def pool1 : Array CpInfo := pool [(2, .class_ 4), (1, u "java/lang/Object"), (0, u "<init>"), (0, u "()V"), (0, .methodref 8 9), (0, .class_ 10), (0, .nameAndType 11 12), (0, u "com/example/lynceus/lynceus/Moves"), (0, u "gates"), (0, u "(B)B"), (0, .class_ 14), (0, u "com/example/lynceus/lynceus/MovesGatesPinLaw"), (2, u "law"), (0, u "(I)Z")] 3

def k1m0 : Method := { name := "<init>", desc := "()V", sig := { parameters := [], returnType := none }, accessFlags := 2, code := none }
def k1c1 : Code := { maxStack := 3, maxLocals := 5, code := code, exceptionTable := #[], attributes := #[] }
def k1m1 : Method := { name := "law", desc := "(I)Z", sig := { parameters := [.int], returnType := some .boolean }, accessFlags := 9, code := some k1c1 }
/-- com/example/lynceus/lynceus/MovesGatesPinLaw -/
def k1 : Class := { plain "com/example/lynceus/lynceus/MovesGatesPinLaw" (some 0) with
  accessFlags := 49
  interfaces := #[]
  cf := some (fileOf pool1 13 #[] #[{ accessFlags := 2, nameIndex := 5, descriptorIndex := 6, attributes := #[] }, { accessFlags := 9, nameIndex := 17, descriptorIndex := 18, attributes := #[] }] 49 2 #[] #[])
  fields := #[]
  methods := #[k1m0, k1m1]
  instanceTypes := #[]
  staticTypes := #[]
  resolved := Array.replicate 22 none
  statics := none }

def pool2 : Array CpInfo := pool [(1, .class_ 2), (0, u "com/example/lynceus/lynceus/Moves"), (1, .class_ 6), (1, u "java/lang/Object"), (4, u "silentFirst"), (0, u "[I"), (2, u "readingFirst"), (2, u "silentTargets"), (2, u "silentGates"), (0, u "[B"), (2, u "readingTargets"), (4, u "readingSets"), (0, u "[Lcom/example/lynceus/lynceus/CharSet;"), (2, u "sharedSetNumbers"), (2, u "counters"), (2, u "counterMoves"), (2, u "counterMins"), (2, u "counterMaxes"), (2, u "counts"), (0, u "[Z"), (18, u "gates"), (0, u "(B)B"), (2, u "gatesNeeded"), (0, u "I"), (2, u "sharedSets"), (2, u "indexed"), (7, u "indexes"), (0, u "[Lcom/example/lynceus/lynceus/SetIndex;"), (34, u "mostIndexed"), (31, u "CHAR"), (0, u "B"), (2, u "SPLIT"), (1, u "EMPTY"), (1, u "TEXT_START"), (1, u "TEXT_END"), (1, u "NOT_AFTER_WORD"), (1, u "NOT_BEFORE_WORD"), (1, u "MATCH"), (1, u "AT_TEXT_START"), (0, u "AT_TEXT_END"), (0, u "NO_WORD_BEFORE"), (0, u "NO_WORD_AFTER"), (1, u "WORD_GATES"), (1, u "ALL_GATES"), (1, u "MOST_TRIED")] 50

def k2c0 : Code := { maxStack := 1, maxLocals := 2, code := prog_47_method_4_code, exceptionTable := #[], attributes := #[] }
def k2m0 : Method := { name := "gates", desc := "(B)B", sig := { parameters := [.byte], returnType := some .byte }, accessFlags := 8, code := some k2c0 }
/-- com/example/lynceus/lynceus/Moves -/
def k2 : Class := { plain "com/example/lynceus/lynceus/Moves" (some 0) with
  accessFlags := 48
  interfaces := #[]
  cf := some (fileOf pool2 1 #[] #[{ accessFlags := 8, nameIndex := 69, descriptorIndex := 70, attributes := #[] }] 48 4 #[] #[{ accessFlags := 24, nameIndex := 156, descriptorIndex := 157, attributes := #[] }, { accessFlags := 24, nameIndex := 160, descriptorIndex := 157, attributes := #[] }, { accessFlags := 24, nameIndex := 162, descriptorIndex := 157, attributes := #[] }, { accessFlags := 24, nameIndex := 164, descriptorIndex := 157, attributes := #[] }, { accessFlags := 24, nameIndex := 166, descriptorIndex := 157, attributes := #[] }, { accessFlags := 24, nameIndex := 168, descriptorIndex := 157, attributes := #[] }, { accessFlags := 24, nameIndex := 170, descriptorIndex := 157, attributes := #[] }, { accessFlags := 24, nameIndex := 172, descriptorIndex := 157, attributes := #[] }, { accessFlags := 24, nameIndex := 174, descriptorIndex := 74, attributes := #[] }, { accessFlags := 24, nameIndex := 175, descriptorIndex := 74, attributes := #[] }, { accessFlags := 24, nameIndex := 176, descriptorIndex := 74, attributes := #[] }, { accessFlags := 24, nameIndex := 177, descriptorIndex := 74, attributes := #[] }, { accessFlags := 24, nameIndex := 179, descriptorIndex := 74, attributes := #[] }, { accessFlags := 24, nameIndex := 181, descriptorIndex := 74, attributes := #[] }, { accessFlags := 26, nameIndex := 183, descriptorIndex := 74, attributes := #[] }, { accessFlags := 18, nameIndex := 11, descriptorIndex := 12, attributes := #[] }, { accessFlags := 18, nameIndex := 18, descriptorIndex := 12, attributes := #[] }, { accessFlags := 18, nameIndex := 21, descriptorIndex := 22, attributes := #[] }, { accessFlags := 18, nameIndex := 73, descriptorIndex := 74, attributes := #[] }, { accessFlags := 18, nameIndex := 15, descriptorIndex := 12, attributes := #[] }, { accessFlags := 18, nameIndex := 25, descriptorIndex := 12, attributes := #[] }, { accessFlags := 18, nameIndex := 30, descriptorIndex := 31, attributes := #[] }, { accessFlags := 18, nameIndex := 34, descriptorIndex := 12, attributes := #[] }, { accessFlags := 18, nameIndex := 77, descriptorIndex := 74, attributes := #[] }, { accessFlags := 18, nameIndex := 80, descriptorIndex := 12, attributes := #[] }, { accessFlags := 18, nameIndex := 88, descriptorIndex := 89, attributes := #[] }, { accessFlags := 18, nameIndex := 124, descriptorIndex := 74, attributes := #[] }, { accessFlags := 18, nameIndex := 37, descriptorIndex := 12, attributes := #[] }, { accessFlags := 18, nameIndex := 40, descriptorIndex := 12, attributes := #[] }, { accessFlags := 18, nameIndex := 43, descriptorIndex := 12, attributes := #[] }, { accessFlags := 18, nameIndex := 46, descriptorIndex := 12, attributes := #[] }, { accessFlags := 18, nameIndex := 49, descriptorIndex := 50, attributes := #[] }])
  fields := #[{ name := "CHAR", type := .byte, accessFlags := 24, slot := 0, constantValue := 0 }, { name := "SPLIT", type := .byte, accessFlags := 24, slot := 1, constantValue := 0 }, { name := "EMPTY", type := .byte, accessFlags := 24, slot := 2, constantValue := 0 }, { name := "TEXT_START", type := .byte, accessFlags := 24, slot := 3, constantValue := 0 }, { name := "TEXT_END", type := .byte, accessFlags := 24, slot := 4, constantValue := 0 }, { name := "NOT_AFTER_WORD", type := .byte, accessFlags := 24, slot := 5, constantValue := 0 }, { name := "NOT_BEFORE_WORD", type := .byte, accessFlags := 24, slot := 6, constantValue := 0 }, { name := "MATCH", type := .byte, accessFlags := 24, slot := 7, constantValue := 0 }, { name := "AT_TEXT_START", type := .int, accessFlags := 24, slot := 8, constantValue := 0 }, { name := "AT_TEXT_END", type := .int, accessFlags := 24, slot := 9, constantValue := 0 }, { name := "NO_WORD_BEFORE", type := .int, accessFlags := 24, slot := 10, constantValue := 0 }, { name := "NO_WORD_AFTER", type := .int, accessFlags := 24, slot := 11, constantValue := 0 }, { name := "WORD_GATES", type := .int, accessFlags := 24, slot := 12, constantValue := 0 }, { name := "ALL_GATES", type := .int, accessFlags := 24, slot := 13, constantValue := 0 }, { name := "MOST_TRIED", type := .int, accessFlags := 26, slot := 14, constantValue := 0 }, { name := "silentFirst", type := (.array .int), accessFlags := 18, slot := 0, constantValue := 0 }, { name := "silentTargets", type := (.array .int), accessFlags := 18, slot := 1, constantValue := 0 }, { name := "silentGates", type := (.array .byte), accessFlags := 18, slot := 2, constantValue := 0 }, { name := "gatesNeeded", type := .int, accessFlags := 18, slot := 3, constantValue := 0 }, { name := "readingFirst", type := (.array .int), accessFlags := 18, slot := 4, constantValue := 0 }, { name := "readingTargets", type := (.array .int), accessFlags := 18, slot := 5, constantValue := 0 }, { name := "readingSets", type := (.array (.object "com/example/lynceus/lynceus/CharSet")), accessFlags := 18, slot := 6, constantValue := 0 }, { name := "sharedSetNumbers", type := (.array .int), accessFlags := 18, slot := 7, constantValue := 0 }, { name := "sharedSets", type := .int, accessFlags := 18, slot := 8, constantValue := 0 }, { name := "indexed", type := (.array .int), accessFlags := 18, slot := 9, constantValue := 0 }, { name := "indexes", type := (.array (.object "com/example/lynceus/lynceus/SetIndex")), accessFlags := 18, slot := 10, constantValue := 0 }, { name := "mostIndexed", type := .int, accessFlags := 18, slot := 11, constantValue := 0 }, { name := "counters", type := (.array .int), accessFlags := 18, slot := 12, constantValue := 0 }, { name := "counterMoves", type := (.array .int), accessFlags := 18, slot := 13, constantValue := 0 }, { name := "counterMins", type := (.array .int), accessFlags := 18, slot := 14, constantValue := 0 }, { name := "counterMaxes", type := (.array .int), accessFlags := 18, slot := 15, constantValue := 0 }, { name := "counts", type := (.array .boolean), accessFlags := 18, slot := 16, constantValue := 0 }]
  methods := #[k2m0]
  instanceTypes := #[(.array .int), (.array .int), (.array .byte), .int, (.array .int), (.array .int), (.array (.object "com/example/lynceus/lynceus/CharSet")), (.array .int), .int, (.array .int), (.array (.object "com/example/lynceus/lynceus/SetIndex")), .int, (.array .int), (.array .int), (.array .int), (.array .int), (.array .boolean)]
  staticTypes := #[.byte, .byte, .byte, .byte, .byte, .byte, .byte, .byte, .int, .int, .int, .int, .int, .int, .int]
  resolved := Array.replicate 234 none
  statics := none }

def pool3 : Array CpInfo := pool [(1, u "java/lang/Cloneable"), (0, .class_ 1), (0, u "java/lang/Object"), (0, .class_ 3)] 3

/-- java/lang/Cloneable -/
def k3 : Class := { plain "java/lang/Cloneable" (some 0) with
  accessFlags := 1537
  interfaces := #[]
  cf := some (fileOf pool3 2 #[] #[] 1537 4 #[] #[])
  fields := #[]
  methods := #[]
  instanceTypes := #[]
  staticTypes := #[]
  resolved := Array.replicate 8 none
  statics := none }

def pool4 : Array CpInfo := pool [(1, u "java/io/Serializable"), (0, .class_ 1), (0, u "java/lang/Object"), (0, .class_ 3)] 3

/-- java/io/Serializable -/
def k4 : Class := { plain "java/io/Serializable" (some 0) with
  accessFlags := 1537
  interfaces := #[]
  cf := some (fileOf pool4 2 #[] #[] 1537 4 #[] #[])
  fields := #[]
  methods := #[]
  instanceTypes := #[]
  staticTypes := #[]
  resolved := Array.replicate 8 none
  statics := none }

/-- the primitive byte -/
def k5 : Class := { plain "byte" none with kind := .primitive 'B', accessFlags := 0x411 }
/-- [B -/
def k6 : Class := { plain "[B" (some 0) with kind := .array 5 .byte, interfaces := #[3, 4], accessFlags := 1041 }

/-- the primitive int -/
def k7 : Class := { plain "int" none with kind := .primitive 'I', accessFlags := 0x411 }
/-- [I -/
def k8 : Class := { plain "[I" (some 0) with kind := .array 7 .int, interfaces := #[3, 4], accessFlags := 1041 }

def heap : Heap := #[]
def classes : Array Class := #[k0, k1, k2, k3, k4, k5, k6, k7, k8]
def interned : List (Array UInt16 × Addr) := []
def slotsUsed : Nat := 0
def theMethod : MethodId := ⟨1, 1⟩
def args0 : Array Value := #[.int 5]
def aboutOver (below : List Frame) : State where
  vm := { classes := classes, interned := interned.toArray }
  heap := heap
  slotsUsed := slotsUsed
  threads := #[{ frames := .invoking theMethod args0 :: below }]
def below0 : List Frame := [.native { method := ⟨0, 0⟩, args := #[] }]
def about1 : State := aboutOver below0
def p0 : Program := .bare "" "" ""
def e0 : Env := launch0.env 0 0 0
theorem w_frames : about1.frames = Frame.invoking theMethod args0 :: below0 := rfl
set_option maxRecDepth 65536 in
theorem w_args : argsFit about1.vm theMethod args0 = true := by decide +kernel
set_option maxRecDepth 65536 in
theorem w_heap : heapFits about1 = true := by decide +kernel
set_option maxRecDepth 65536 in
theorem w_runnable : about1.curStatus? = some .runnable := by decide +kernel
set_option maxRecDepth 65536 in
theorem w_alone : about1.alone = true := by decide +kernel
set_option maxRecDepth 65536 in
theorem w_named : about1.methodNamed? x = some theMethod := by decide +kernel
set_option maxRecDepth 65536 in
theorem w_hears : about1.hears theMethod below0 = true := by decide +kernel
set_option maxRecDepth 65536 in
theorem w_ripe : about1.ripe theMethod args0 below0 = true := by decide +kernel
theorem w_running : about1.status = .running := rfl
set_option maxRecDepth 65536 in
theorem w_room : about1.hasRoom e0.platform room_1 = true :=
  launch0.hasRoom_least _ room_1 (by decide +kernel) (by decide +kernel) (by decide +kernel) (by decide +kernel) (by decide +kernel) (by decide +kernel)
theorem allAtoms_all (ts : List Jvm.Cond) (a : Array Jvm.Value) (st : Jvm.State) : (allAtoms ts).before a st = ts.all (fun c => c.before a st) := by
  induction ts with
  | nil => rfl
  | cons c t ih =>
    show (Jvm.Cond.and c (allAtoms t)).before a st = _
    rw [Jvm.Cond.before_and, ih, List.all_cons]
def words1 : List Jvm.Cond := Jvm.Cond.code x code maxLocals ret :: tables_1
/-- a 'code' word, met by the world's own term for the bytes: nothing is compared byte by byte -/
theorem code_word {y : MethodName} {bytes : ByteArray} {mx : Nat} {rt : Option FieldType} {a : Array Value} {s : State} {m : MethodId} {meth : Method} {c : Code} (h1 : s.methodNamed? y = some m) (h2 : s.vm.method? m = some meth) (h3 : meth.code = some c) (h4 : c.code = bytes)
    (h5 : (c.maxLocals == mx && c.exceptionTable.isEmpty && decide (c.maxStack ≤ mostOperands) && decide (meth.sig.returnType = rt) && !meth.locks && decide (parseMethodDescriptor y.desc = some meth.sig)) = true) : (Jvm.Cond.code y bytes mx rt).before a s = true := by
  simp only [Bool.and_eq_true, beq_iff_eq, Bool.not_eq_true', decide_eq_true_eq] at h5
  obtain ⟨⟨⟨⟨⟨g1, g2⟩, g3⟩, g4⟩, g5⟩, g6⟩ := h5
  simp [Cond.before, Cond.holds, Cond.value, h1, h2, h3, h4, g1, g2, g3, g4, g5, g6]
def isCode : Jvm.Cond → Bool
  | .code _ _ _ _ => true
  | _ => false
theorem all_split {L : List Jvm.Cond} {P : Jvm.Cond → Bool} (h1 : L.all (fun c => isCode c || P c) = true) (h2 : ∀ c ∈ L.filter isCode, P c = true) : L.all P = true := by
  refine List.all_eq_true.mpr fun c hc => ?_
  have h := List.all_eq_true.mp h1 c hc
  rcases Bool.eq_false_or_eq_true (isCode c) with hi | hi
  · exact h2 c (List.mem_filter.mpr ⟨hc, hi⟩)
  · simpa [hi] using h
set_option maxRecDepth 65536 in
theorem w_c0 : (Jvm.Cond.code x code maxLocals ret).before args0 about1 = true := code_word (m := ⟨1, 1⟩) (meth := k1m1) (c := k1c1) (by decide +kernel) rfl rfl rfl (by decide +kernel)
set_option maxRecDepth 65536 in
theorem w_c1 : (Jvm.Cond.code ({ cls := "com/example/lynceus/lynceus/Moves", name := "gates", desc := "(B)B" } : Jvm.MethodName) prog_47_method_4_code (2 : Nat) (Option.some Jvm.ClassFile.FieldType.byte)).before args0 about1 = true := code_word (m := ⟨2, 0⟩) (meth := k2m0) (c := k2c0) (by decide +kernel) rfl rfl rfl (by decide +kernel)
def codes1 : List Jvm.Cond := [Jvm.Cond.code x code maxLocals ret, Jvm.Cond.code ({ cls := "com/example/lynceus/lynceus/Moves", name := "gates", desc := "(B)B" } : Jvm.MethodName) prog_47_method_4_code (2 : Nat) (Option.some Jvm.ClassFile.FieldType.byte)]
set_option maxRecDepth 65536 in
theorem codes_eq : words1.filter isCode = codes1 := rfl
theorem w_codes : ∀ c ∈ words1.filter isCode, c.before args0 about1 = true := by
  rw [codes_eq]
  intro c hc
  simp only [codes1, List.mem_cons, List.not_mem_nil, or_false] at hc
  rcases hc with rfl | rfl
  · exact w_c0
  · exact w_c1
set_option maxRecDepth 65536 in
theorem w_t1 : words1.all (fun c => isCode c || c.before args0 about1) = true := by decide +kernel
theorem w_tables : (allAtoms (Jvm.Cond.code x code maxLocals ret :: tables_1)).before args0 about1 = true := by
  rw [allAtoms_all]
  show words1.all (fun c => c.before args0 about1) = true
  refine all_split ?_ w_codes
  rw [w_t1]
set_option maxRecDepth 65536 in
theorem w_case : (Jvm.Cond.and given_1 narrow_1).before args0 about1 = true := by decide +kernel
theorem w_applies : (headSpec (Jvm.Cond.code x code maxLocals ret :: tables_1) room_1).applies x e0.platform about1 = true :=
  (Spec.applies_iff w_frames).mpr ⟨w_running, w_runnable, w_alone, w_named, w_hears, w_ripe, w_room, w_tables⟩
theorem atStart : AtStart classFile x code maxLocals ret World_1 tables_1 room_1 Calls_1 rest_1 Pre_1 launch0 p0 e0 about1 theMethod args0 below0 :=
  ⟨lists_1, trivial, launch0.admits_env _ _ _, launch0.least_env, fairChoices_fair.cas, fairChoices_fair.clock, w_frames, w_args, w_heap, w_applies, trivial, trivial, w_case⟩
end start1
theorem witness_1 : WitnessClaimed_1 := ⟨start1.p0, start1.e0, start1.about1, start1.theMethod, start1.args0, start1.below0, start1.atStart⟩
end Jvm.Pilot.@@N@@
