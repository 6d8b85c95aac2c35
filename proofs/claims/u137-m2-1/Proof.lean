import JvmDerived
import JvmDerived.Pilot.@@N@@Statement
import JvmDerived.Pilot.@@N@@Code
set_option linter.unusedVariables false
set_option linter.unusedSimpArgs false
namespace Jvm.RoadKit
open Sem ClassFile Op Lib Jvm.Stand Jvm.Free Jvm.LawKit
section New
variable {p : Program} {l : Launch} {e : Env} {R : Room} {s : State} {m : MethodId} {args : Array Value} {below : List Frame} {meth : Method} {c : Code} {T : State} {locs : List Loc} {cells slots : Nat}
theorem retI (X : Stand p l e R s m args below meth c T locs cells slots) (hx : p.tables.exec = Jvm.exec) {pc : Nat} {Ls : Array Slot} {z : Int32} {rest : List Value} (hret : meth.sig.returnType = some .int) (hd : decode c.code pc = .ok (.ireturn, 1)) {fs : List Frame}
    (hl : ∀ (f : JFrame) (acts : List Action), f.method = m → f.locked = none → f.entered = [] → (doReturn e (T.setTop f) acts (some (.int z))).1 = T.setFrames fs) : Steps p.tables e below (T.setTop (mkF m pc Ls (.int z :: rest))) (T.setFrames fs) := by
  have hm' : T.vm.method? m = some meth := X.method'
  have hn : narrow .int (.int z) = .int z := rfl
  show Steps p.tables e below (T.setTop { method := m, pc := pc, locals := Ls, stack := _ :: rest, locked := none }) _
  jvm_step X.here [X.here.top, hx, hd, hm', hret, hn]
  first | (intro acts; rw [hl _ acts rfl rfl rfl]) | rw [hl _ _ rfl rfl rfl]
  exact Steps.refl _
end New
end Jvm.RoadKit
namespace Jvm.Pilot.@@N@@
open Jvm Jvm.ClassFile Sem Op Lib Jvm.Free Jvm.Stand Jvm.LawKit Jvm.RoadKit Bundle Jvm.Pilot.@@N@@.Jvm.D
def own_pos (x : Int64) : Int64 := if (x &&& (9223372036854775807 : Int64)) = (0 : Int64) then (1 : Int64) else (x &&& (9223372036854775807 : Int64))
theorem own_gt (x : Int64) : (0 : Int64) < own_pos x := by
  have e1 : (x &&& (9223372036854775807 : Int64)).toInt = x.toInt % (2 ^ 63 : Nat) := c_maskL x 9223372036854775807 63 (by decide) (by decide)
  have e0 : (0 : Int64).toInt = 0 := rfl
  unfold own_pos
  split
  · decide
  · rename_i h
    rw [← Int64.toInt_inj, e0] at h
    rw [Int64.lt_iff_toInt_lt, e0]
    omega
theorem ef_rmP (m : MethodId) (x0 : Int64) : entryFrame m #[(.long x0)] 4 = mkF m 0 #[.val (.long x0), .second, .unset, .unset] [] := by first | (simp [entryFrame, mkF, argsToLocals, Value.category]; done) | rfl
theorem pn_com_example_lease_lock_leaselock_StoreGrantGrantedPinLaw : plainName "com/example/lease_lock/leaselock/StoreGrantGrantedPinLaw" = true := by first | (simp [plainName, overriddenIn]; done) | decide +kernel
theorem d1_0 : decode method_2_code 0 = .ok (.lload_n 0, 1) := by decide +kernel
theorem d1_1 : decode method_2_code 1 = .ok (.ldc2_w 9, 3) := by decide +kernel
theorem d1_4 : decode method_2_code 4 = .ok (.land, 1) := by decide +kernel
theorem d1_5 : decode method_2_code 5 = .ok (.lstore_n 2, 1) := by decide +kernel
theorem d1_6 : decode method_2_code 6 = .ok (.lload_n 2, 1) := by decide +kernel
theorem d1_7 : decode method_2_code 7 = .ok (.lconst 0, 1) := by decide +kernel
theorem d1_8 : decode method_2_code 8 = .ok (.lcmp, 1) := by decide +kernel
theorem d1_9 : decode method_2_code 9 = .ok (.ifCond .ne 5, 3) := by decide +kernel
theorem d1_12 : decode method_2_code 12 = .ok (.lconst 1, 1) := by decide +kernel
theorem d1_13 : decode method_2_code 13 = .ok (.lreturn, 1) := by decide +kernel
theorem d1_14 : decode method_2_code 14 = .ok (.lload_n 2, 1) := by decide +kernel
theorem d1_15 : decode method_2_code 15 = .ok (.lreturn, 1) := by decide +kernel
def Q_rmP (Z : State) (p1 : Int64) (h0 : Heap) (n0 : Nat) (v : Option Value) (h : Heap) (L : List Loc) : Prop := v = some (.long (own_pos p1)) ∧ Fr n0 L ∧ h = h0
set_option maxRecDepth 65536 in
set_option maxHeartbeats 40000000 in
theorem rmP (l : Launch) (Z : State) (a0 : Array Value) (hw : ∀ d ∈ tables_1, d.before a0 Z = true) (ws : List Jvm.Cond) (p1 : Int64) (h0 : Heap) (n0 : Nat) (Z0 : n0 ≤ h0.size) :
    MetFree l (⟨"com/example/lease_lock/leaselock/StoreGrantGrantedPinLaw", "positive", "(J)J"⟩ : MethodName) (head1 (Jvm.Cond.code (⟨"com/example/lease_lock/leaselock/StoreGrantGrantedPinLaw", "positive", "(J)J"⟩ : MethodName) method_2_code 4 (some .long) :: ws) ({ frames := 0, cells := 0, slots := 0, locals := 0 } : Room)) (fun a U => a = #[(.long p1)] ∧ Z.Warmed39 U.vm ∧ U.heap = h0) (fun _ _ _ _ _ => True) (fun _ U o U' => ∃ v L, o = .returned v ∧ Q_rmP Z p1 h0 n0 v U'.heap L ∧ FrameEnd U o U' L ({ frames := 0, cells := 0, slots := 0, locals := 0 } : Room).cells ({ frames := 0, cells := 0, slots := 0, locals := 0 } : Room).slots) := by
  refine MetFree.of_bodySF (plainFor_of_name pn_com_example_lease_lock_leaselock_StoreGrantGrantedPinLaw) hisR ?_
  intro p e s m args below meth c s₁ Bd hml0 hP hK
  obtain ⟨rfl, hZ, hh⟩ := hP
  have hx := Bd.exec
  have hby := Bd.bytes
  have hml : c.maxLocals = 4 := hml0
  have hown : s.vm.findClass "com/example/lease_lock/leaselock/StoreGrantGrantedPinLaw" = some m.cls := findClass_of_methodNamed Bd.named
  have hnm := (name_of_methodNamed Bd.named Bd.method).1
  have X0 : Stand p l e ({ frames := 0, cells := 0, slots := 0, locals := 0 } : Room) s m #[(.long p1)] below meth c s₁ [] 0 0 := Stand.of_body Bd
  have e0 : s₁.heap = h0 := by rw [← hh, Bd.state]; rfl
  have N0 := Fr.nil n0
  have pre0 : ∀ t, Steps p.tables e below (s₁.setTop (mkF m 0 #[.val (.long p1), .second, .unset, .unset] [])) t → Steps p.tables e below (s₁.setTop (entryFrame m #[(.long p1)] 4)) t := fun t k => castTop (ef_rmP m p1) k
  obtain ⟨fs, hr, hrun, hended, hW, hsame⟩ := X0.leave (v := some (.long (own_pos p1))) (fun h => by rw [Bd.returns] at h; cases h)
  refine ⟨_, _, pre0 _ ?_, hrun, hended, _, _, rfl, ?_, ⟨_, rfl⟩, hW, hsame.mono (by decide) (by decide)⟩
  rotate_left
  · exact ⟨rfl, N0, e0⟩
  show Steps p.tables e below (s₁.setTop (mkF m 0 #[.val (.long p1), .second, .unset, .unset] [])) _
  refine XS.lloadN X0.here hx rfl (hb hby d1_0) rfl ?_
  show Steps p.tables e below (s₁.setTop (mkF m 1 #[.val (.long p1), .second, .unset, .unset] [(.long p1)])) _
  refine X0.ldc2J hx hown (mvT hZ (hw _ (List.mem_of_getElem? (i := 4) rfl))) rfl (hb hby d1_1) ?_
  show Steps p.tables e below (s₁.setTop (mkF m 4 #[.val (.long p1), .second, .unset, .unset] [(.long (9223372036854775807 : Int64)), (.long p1)])) _
  refine XS.land X0.here hx rfl (hb hby d1_4) rfl ?_
  show Steps p.tables e below (s₁.setTop (mkF m 5 #[.val (.long p1), .second, .unset, .unset] [(.long (p1 &&& (9223372036854775807 : Int64)))])) _
  refine XS.lstoreN X0.here hx rfl (hb hby d1_5) rfl (l' := #[.val (.long p1), .second, .val (.long (p1 &&& (9223372036854775807 : Int64))), .second]) rfl ?_
  show Steps p.tables e below (s₁.setTop (mkF m 6 #[.val (.long p1), .second, .val (.long (p1 &&& (9223372036854775807 : Int64))), .second] [])) _
  refine XS.lloadN X0.here hx rfl (hb hby d1_6) rfl ?_
  show Steps p.tables e below (s₁.setTop (mkF m 7 #[.val (.long p1), .second, .val (.long (p1 &&& (9223372036854775807 : Int64))), .second] [(.long (p1 &&& (9223372036854775807 : Int64)))])) _
  refine XS.lconst X0.here hx rfl (hb hby d1_7) ?_
  show Steps p.tables e below (s₁.setTop (mkF m 8 #[.val (.long p1), .second, .val (.long (p1 &&& (9223372036854775807 : Int64))), .second] [(.long (0 : Int64)), (.long (p1 &&& (9223372036854775807 : Int64)))])) _
  refine XS.lcmp X0.here hx rfl (hb hby d1_8) rfl ?_
  by_cases hc9 : (lcmpW (p1 &&& (9223372036854775807 : Int64)) (0 : Int64)) = (0 : Int32)
  · show Steps p.tables e below (s₁.setTop (mkF m 9 #[.val (.long p1), .second, .val (.long (p1 &&& (9223372036854775807 : Int64))), .second] [(.int (lcmpW (p1 &&& (9223372036854775807 : Int64)) (0 : Int64)))])) _
    refine XS.ifNo X0.here hx rfl (hb hby d1_9) rfl ((if0 _ _).trans (teq hc9).2) ?_
    show Steps p.tables e below (s₁.setTop (mkF m 12 #[.val (.long p1), .second, .val (.long (p1 &&& (9223372036854775807 : Int64))), .second] [])) _
    refine XS.lconst X0.here hx rfl (hb hby d1_12) ?_
    show Steps p.tables e below (s₁.setTop (mkF m 13 #[.val (.long p1), .second, .val (.long (p1 &&& (9223372036854775807 : Int64))), .second] [(.long (1 : Int64))])) _
    have q : (own_pos p1) = (1 : Int64) := by exact (if_pos ((lw_eq _ _).mp hc9)).trans (rfl)
    rw [q] at hr
    exact X0.lreturnOut hx Bd.returns (hb hby d1_13) hr
  · show Steps p.tables e below (s₁.setTop (mkF m 9 #[.val (.long p1), .second, .val (.long (p1 &&& (9223372036854775807 : Int64))), .second] [(.int (lcmpW (p1 &&& (9223372036854775807 : Int64)) (0 : Int64)))])) _
    refine XS.ifYes X0.here hx rfl (pc0 := 9) (pc' := 14) rfl (hb hby d1_9) rfl ((if0 _ _).trans (feq hc9).2) (by decide) (by decide) ?_
    show Steps p.tables e below (s₁.setTop (mkF m 14 #[.val (.long p1), .second, .val (.long (p1 &&& (9223372036854775807 : Int64))), .second] [])) _
    refine XS.lloadN X0.here hx rfl (hb hby d1_14) rfl ?_
    show Steps p.tables e below (s₁.setTop (mkF m 15 #[.val (.long p1), .second, .val (.long (p1 &&& (9223372036854775807 : Int64))), .second] [(.long (p1 &&& (9223372036854775807 : Int64)))])) _
    have q : (own_pos p1) = (p1 &&& (9223372036854775807 : Int64)) := by exact (if_neg (mt (lw_eq _ _).mpr hc9)).trans (rfl)
    rw [q] at hr
    exact X0.lreturnOut hx Bd.returns (hb hby d1_15) hr
theorem ef_rmI (m : MethodId) (x0 : Addr) (x1 : Int32) (x2 : Int64) : entryFrame m #[(.ref x0), (.int x1), (.long x2), .null] 5 = mkF m 0 #[.val (.ref x0), .val (.int x1), .val (.long x2), .second, .val .null] [] := by first | (simp [entryFrame, mkF, argsToLocals, Value.category]; done) | rfl
theorem pn_com_example_lease_lock_leaselock_StoreGrant : plainName "com/example/lease_lock/leaselock/StoreGrant" = true := by first | (simp [plainName, overriddenIn]; done) | decide +kernel
theorem d3_0 : decode prog_11_method_1_code 0 = .ok (.aload_n 0, 1) := by decide +kernel
theorem d3_1 : decode prog_11_method_1_code 1 = .ok (.invokespecial 1, 3) := by decide +kernel
theorem d3_4 : decode prog_11_method_1_code 4 = .ok (.aload_n 0, 1) := by decide +kernel
theorem d3_5 : decode prog_11_method_1_code 5 = .ok (.iload_n 1, 1) := by decide +kernel
theorem d3_6 : decode prog_11_method_1_code 6 = .ok (.putfield 7, 3) := by decide +kernel
theorem d3_9 : decode prog_11_method_1_code 9 = .ok (.aload_n 0, 1) := by decide +kernel
theorem d3_10 : decode prog_11_method_1_code 10 = .ok (.lload_n 2, 1) := by decide +kernel
theorem d3_11 : decode prog_11_method_1_code 11 = .ok (.putfield 13, 3) := by decide +kernel
theorem d3_14 : decode prog_11_method_1_code 14 = .ok (.aload_n 0, 1) := by decide +kernel
theorem d3_15 : decode prog_11_method_1_code 15 = .ok (.aload 4, 2) := by decide +kernel
theorem d3_17 : decode prog_11_method_1_code 17 = .ok (.putfield 17, 3) := by decide +kernel
theorem d3_20 : decode prog_11_method_1_code 20 = .ok (.return_, 1) := by decide +kernel
def Q_rmI (Z : State) (a1 : Addr) (p2 : Int64) (h0 : Heap) (n0 : Nat) (v : Option Value) (h : Heap) (L : List Loc) : Prop := v = none ∧ Fr n0 L ∧ Keep h0 h [a1] ∧ Fld Z h a1 "com/example/lease_lock/leaselock/StoreGrant" "granted" "Z" (.int (1 : Int32)) ∧ Fld Z h a1 "com/example/lease_lock/leaselock/StoreGrant" "fencingToken" "J" (.long p2)
set_option maxRecDepth 65536 in
set_option maxHeartbeats 40000000 in
theorem rmI (l : Launch) (Z : State) (a0 : Array Value) (hw : ∀ d ∈ tables_1, d.before a0 Z = true) (ws : List Jvm.Cond) (a1 : Addr) (p2 : Int64) (h0 : Heap) (n0 : Nat) (Z0 : n0 ≤ h0.size) (F0 : Fld Z h0 a1 "com/example/lease_lock/leaselock/StoreGrant" "granted" "Z" (.int (0 : Int32))) (F1 : Fld Z h0 a1 "com/example/lease_lock/leaselock/StoreGrant" "fencingToken" "J" (.long (0 : Int64))) (F2 : Fld Z h0 a1 "com/example/lease_lock/leaselock/StoreGrant" "heldFor" "Ljava/time/Duration;" .null) (E0 : Exa Z h0 a1 "com/example/lease_lock/leaselock/StoreGrant") (g1 : n0 ≤ a1) :
    MetFree l (⟨"com/example/lease_lock/leaselock/StoreGrant", "<init>", "(ZJLjava/time/Duration;)V"⟩ : MethodName) (head1 (Jvm.Cond.code (⟨"com/example/lease_lock/leaselock/StoreGrant", "<init>", "(ZJLjava/time/Duration;)V"⟩ : MethodName) prog_11_method_1_code 5 none :: ws) ({ frames := 1, cells := 0, slots := 0, locals := 12 } : Room)) (fun a U => a = #[(.ref a1), (.int (1 : Int32)), (.long p2), .null] ∧ Z.Warmed39 U.vm ∧ U.heap = h0) (fun _ _ _ _ _ => True) (fun _ U o U' => ∃ v L, o = .returned v ∧ Q_rmI Z a1 p2 h0 n0 v U'.heap L ∧ FrameEnd U o U' L ({ frames := 1, cells := 0, slots := 0, locals := 12 } : Room).cells ({ frames := 1, cells := 0, slots := 0, locals := 12 } : Room).slots) := by
  refine MetFree.of_bodySF (plainFor_of_name pn_com_example_lease_lock_leaselock_StoreGrant) hisR ?_
  intro p e s m args below meth c s₁ Bd hml0 hP hK
  obtain ⟨rfl, hZ, hh⟩ := hP
  have hx := Bd.exec
  have hby := Bd.bytes
  have hml : c.maxLocals = 5 := hml0
  have hown : s.vm.findClass "com/example/lease_lock/leaselock/StoreGrant" = some m.cls := findClass_of_methodNamed Bd.named
  have hnm := (name_of_methodNamed Bd.named Bd.method).1
  have X0 : Stand p l e ({ frames := 1, cells := 0, slots := 0, locals := 12 } : Room) s m #[(.ref a1), (.int (1 : Int32)), (.long p2), .null] below meth c s₁ [] 0 0 := Stand.of_body Bd
  have e0 : s₁.heap = h0 := by rw [← hh, Bd.state]; rfl
  have N0 := Fr.nil n0
  have pre0 : ∀ t, Steps p.tables e below (s₁.setTop (mkF m 0 #[.val (.ref a1), .val (.int (1 : Int32)), .val (.long p2), .second, .val .null] [])) t → Steps p.tables e below (s₁.setTop (entryFrame m #[(.ref a1), (.int (1 : Int32)), (.long p2), .null] 5)) t := fun t k => castTop (ef_rmI m a1 (1 : Int32) p2) k
  have pre1 : ∀ t, Steps p.tables e below (s₁.setTop (mkF m 1 #[.val (.ref a1), .val (.int (1 : Int32)), .val (.long p2), .second, .val .null] [(.ref a1)])) t → Steps p.tables e below (s₁.setTop (entryFrame m #[(.ref a1), (.int (1 : Int32)), (.long p2), .null] 5)) t := fun t k => pre0 t (by
    show Steps p.tables e below (s₁.setTop (mkF m 0 #[.val (.ref a1), .val (.int (1 : Int32)), .val (.long p2), .second, .val .null] [])) _
    refine XS.aloadN X0.here hx rfl (hb hby d3_0) rfl rfl ?_
    exact k)
  obtain ⟨T2, X2, e2, st2⟩ := initO X0 hx hZ hown (hw _ (List.mem_of_getElem? (i := 14) rfl)) (hw _ (List.mem_of_getElem? (i := 15) rfl)) (hw _ (List.mem_of_getElem? (i := 16) rfl)) e0 (g := (mkF m 1 #[.val (.ref a1), .val (.int (1 : Int32)), .val (.long p2), .second, .val .null] [(.ref a1)])) rfl (by rw [hml]; rfl) rfl (hb hby d3_1) (by decide) (W := 0) (by show 2 * 0 + _ ≤ _; exact Nat.le_of_eq rfl) (by decide)
  have pre3 : ∀ t, Steps p.tables e below (T2.setTop (mkF m 4 #[.val (.ref a1), .val (.int (1 : Int32)), .val (.long p2), .second, .val .null] [])) t → Steps p.tables e below (s₁.setTop (entryFrame m #[(.ref a1), (.int (1 : Int32)), (.long p2), .null] 5)) t := fun t k => pre1 t (st2 t k)
  have pre4 : ∀ t, Steps p.tables e below (T2.setTop (mkF m 6 #[.val (.ref a1), .val (.int (1 : Int32)), .val (.long p2), .second, .val .null] [(.int (1 : Int32)), (.ref a1)])) t → Steps p.tables e below (s₁.setTop (entryFrame m #[(.ref a1), (.int (1 : Int32)), (.long p2), .null] 5)) t := fun t k => pre3 t (by
    show Steps p.tables e below (T2.setTop (mkF m 4 #[.val (.ref a1), .val (.int (1 : Int32)), .val (.long p2), .second, .val .null] [])) _
    refine XS.aloadN X2.here hx rfl (hb hby d3_4) rfl rfl ?_
    show Steps p.tables e below (T2.setTop (mkF m 5 #[.val (.ref a1), .val (.int (1 : Int32)), .val (.long p2), .second, .val .null] [(.ref a1)])) _
    refine XS.iloadN X2.here hx rfl (hb hby d3_5) rfl ?_
    exact k)
  obtain ⟨T5, h5, X5, e5, W5, st5⟩ := putFN X2 hx hZ hown (hw _ (List.mem_of_getElem? (i := 17) rfl)) Via.refl e2 F0 E0 (Or.inr ⟨(hw _ (List.mem_of_getElem? (i := 18) rfl)), rfl, hnm⟩) (hw _ (List.mem_of_getElem? (i := 10) rfl)) (ty := .boolean) (v' := (.int (1 : Int32))) (by decide) rfl rfl (g := (mkF m 6 #[.val (.ref a1), .val (.int (1 : Int32)), .val (.long p2), .second, .val .null] [(.int (1 : Int32)), (.ref a1)])) rfl rfl (hb hby d3_6)
  have pre6 : ∀ t, Steps p.tables e below (T5.setTop (mkF m 9 #[.val (.ref a1), .val (.int (1 : Int32)), .val (.long p2), .second, .val .null] [])) t → Steps p.tables e below (s₁.setTop (entryFrame m #[(.ref a1), (.int (1 : Int32)), (.long p2), .null] 5)) t := fun t k => pre4 t (st5 t k)
  have N5 := Fr.snoc X5 N0 g1
  have F1_e5 : Fld Z h5 a1 "com/example/lease_lock/leaselock/StoreGrant" "fencingToken" "J" (.long (0 : Int64)) := F1.other W5 (Or.inr (slot_ne (Or.inr (hw _ (List.mem_of_getElem? (i := 20) rfl))) (Or.inr (hw _ (List.mem_of_getElem? (i := 18) rfl))) (by decide) (t := .long) (t' := .boolean) (by decide) (by decide)))
  have F2_e5 : Fld Z h5 a1 "com/example/lease_lock/leaselock/StoreGrant" "heldFor" "Ljava/time/Duration;" .null := F2.other W5 (Or.inr (slot_ne (Or.inr (hw _ (List.mem_of_getElem? (i := 22) rfl))) (Or.inr (hw _ (List.mem_of_getElem? (i := 18) rfl))) (by decide) (t := (.object "java/time/Duration")) (t' := .boolean) (by decide) (by decide)))
  have E0_e5 : Exa Z h5 a1 "com/example/lease_lock/leaselock/StoreGrant" := E0.wr W5
  have sz5 : n0 ≤ h5.size := Nat.le_trans Z0 (Keep.of_wr W5).1
  have KK5 : Keep h0 h5 [a1] := (Keep.refl h0 [a1]).wr W5 (Or.inl (List.mem_of_getElem? (i := 0) rfl))
  have F_a1_granted_e5 : Fld Z h5 a1 "com/example/lease_lock/leaselock/StoreGrant" "granted" "Z" (.int (1 : Int32)) := F0.same W5
  have pre7 : ∀ t, Steps p.tables e below (T5.setTop (mkF m 11 #[.val (.ref a1), .val (.int (1 : Int32)), .val (.long p2), .second, .val .null] [(.long p2), (.ref a1)])) t → Steps p.tables e below (s₁.setTop (entryFrame m #[(.ref a1), (.int (1 : Int32)), (.long p2), .null] 5)) t := fun t k => pre6 t (by
    show Steps p.tables e below (T5.setTop (mkF m 9 #[.val (.ref a1), .val (.int (1 : Int32)), .val (.long p2), .second, .val .null] [])) _
    refine XS.aloadN X5.here hx rfl (hb hby d3_9) rfl rfl ?_
    show Steps p.tables e below (T5.setTop (mkF m 10 #[.val (.ref a1), .val (.int (1 : Int32)), .val (.long p2), .second, .val .null] [(.ref a1)])) _
    refine XS.lloadN X5.here hx rfl (hb hby d3_10) rfl ?_
    exact k)
  obtain ⟨T8, h8, X8, e8, W8, st8⟩ := putF X5 hx hZ hown (host := "") (Or.inl (hw _ (List.mem_of_getElem? (i := 19) rfl))) Via.refl e5 F1_e5 E0_e5 (Or.inr ⟨(hw _ (List.mem_of_getElem? (i := 20) rfl)), rfl, hnm⟩) (hw _ (List.mem_of_getElem? (i := 10) rfl)) (ty := .long) (by decide) rfl rfl (g := (mkF m 11 #[.val (.ref a1), .val (.int (1 : Int32)), .val (.long p2), .second, .val .null] [(.long p2), (.ref a1)])) rfl rfl (hb hby d3_11)
  have pre9 : ∀ t, Steps p.tables e below (T8.setTop (mkF m 14 #[.val (.ref a1), .val (.int (1 : Int32)), .val (.long p2), .second, .val .null] [])) t → Steps p.tables e below (s₁.setTop (entryFrame m #[(.ref a1), (.int (1 : Int32)), (.long p2), .null] 5)) t := fun t k => pre7 t (st8 t k)
  have N8 := Fr.snoc X8 N5 g1
  have F_a1_granted_e8 : Fld Z h8 a1 "com/example/lease_lock/leaselock/StoreGrant" "granted" "Z" (.int (1 : Int32)) := F_a1_granted_e5.other W8 (Or.inr (slot_ne (Or.inr (hw _ (List.mem_of_getElem? (i := 18) rfl))) (Or.inr (hw _ (List.mem_of_getElem? (i := 20) rfl))) (by decide) (t := .boolean) (t' := .long) (by decide) (by decide)))
  have F2_e8 : Fld Z h8 a1 "com/example/lease_lock/leaselock/StoreGrant" "heldFor" "Ljava/time/Duration;" .null := F2_e5.other W8 (Or.inr (slot_ne (Or.inr (hw _ (List.mem_of_getElem? (i := 22) rfl))) (Or.inr (hw _ (List.mem_of_getElem? (i := 20) rfl))) (by decide) (t := (.object "java/time/Duration")) (t' := .long) (by decide) (by decide)))
  have E0_e8 : Exa Z h8 a1 "com/example/lease_lock/leaselock/StoreGrant" := E0_e5.wr W8
  have sz8 : n0 ≤ h8.size := Nat.le_trans sz5 (Keep.of_wr W8).1
  have KK8 : Keep h0 h8 [a1] := KK5.wr W8 (Or.inl (List.mem_of_getElem? (i := 0) rfl))
  have F_a1_fencingToken_e8 : Fld Z h8 a1 "com/example/lease_lock/leaselock/StoreGrant" "fencingToken" "J" (.long p2) := F1_e5.same W8
  have pre10 : ∀ t, Steps p.tables e below (T8.setTop (mkF m 17 #[.val (.ref a1), .val (.int (1 : Int32)), .val (.long p2), .second, .val .null] [.null, (.ref a1)])) t → Steps p.tables e below (s₁.setTop (entryFrame m #[(.ref a1), (.int (1 : Int32)), (.long p2), .null] 5)) t := fun t k => pre9 t (by
    show Steps p.tables e below (T8.setTop (mkF m 14 #[.val (.ref a1), .val (.int (1 : Int32)), .val (.long p2), .second, .val .null] [])) _
    refine XS.aloadN X8.here hx rfl (hb hby d3_14) rfl rfl ?_
    show Steps p.tables e below (T8.setTop (mkF m 15 #[.val (.ref a1), .val (.int (1 : Int32)), .val (.long p2), .second, .val .null] [(.ref a1)])) _
    refine XS.aload X8.here hx rfl (hb hby d3_15) rfl rfl ?_
    exact k)
  obtain ⟨T11, h11, X11, e11, W11, st11⟩ := putF X8 hx hZ hown (host := "") (Or.inl (hw _ (List.mem_of_getElem? (i := 21) rfl))) Via.refl e8 F2_e8 E0_e8 (Or.inr ⟨(hw _ (List.mem_of_getElem? (i := 22) rfl)), rfl, hnm⟩) (hw _ (List.mem_of_getElem? (i := 10) rfl)) (ty := (.object "java/time/Duration")) (by decide) rfl rfl (g := (mkF m 17 #[.val (.ref a1), .val (.int (1 : Int32)), .val (.long p2), .second, .val .null] [.null, (.ref a1)])) rfl rfl (hb hby d3_17)
  have pre12 : ∀ t, Steps p.tables e below (T11.setTop (mkF m 20 #[.val (.ref a1), .val (.int (1 : Int32)), .val (.long p2), .second, .val .null] [])) t → Steps p.tables e below (s₁.setTop (entryFrame m #[(.ref a1), (.int (1 : Int32)), (.long p2), .null] 5)) t := fun t k => pre10 t (st11 t k)
  have N11 := Fr.snoc X11 N8 g1
  have F_a1_granted_e11 : Fld Z h11 a1 "com/example/lease_lock/leaselock/StoreGrant" "granted" "Z" (.int (1 : Int32)) := F_a1_granted_e8.other W11 (Or.inr (slot_ne (Or.inr (hw _ (List.mem_of_getElem? (i := 18) rfl))) (Or.inr (hw _ (List.mem_of_getElem? (i := 22) rfl))) (by decide) (t := .boolean) (t' := (.object "java/time/Duration")) (by decide) (by decide)))
  have F_a1_fencingToken_e11 : Fld Z h11 a1 "com/example/lease_lock/leaselock/StoreGrant" "fencingToken" "J" (.long p2) := F_a1_fencingToken_e8.other W11 (Or.inr (slot_ne (Or.inr (hw _ (List.mem_of_getElem? (i := 20) rfl))) (Or.inr (hw _ (List.mem_of_getElem? (i := 22) rfl))) (by decide) (t := .long) (t' := (.object "java/time/Duration")) (by decide) (by decide)))
  have E0_e11 : Exa Z h11 a1 "com/example/lease_lock/leaselock/StoreGrant" := E0_e8.wr W11
  have sz11 : n0 ≤ h11.size := Nat.le_trans sz8 (Keep.of_wr W11).1
  have KK11 : Keep h0 h11 [a1] := KK8.wr W11 (Or.inl (List.mem_of_getElem? (i := 0) rfl))
  have F_a1_heldFor_e11 : Fld Z h11 a1 "com/example/lease_lock/leaselock/StoreGrant" "heldFor" "Ljava/time/Duration;" .null := F2_e8.same W11
  have pre13 : ∀ t, Steps p.tables e below (T11.setTop (mkF m 20 #[.val (.ref a1), .val (.int (1 : Int32)), .val (.long p2), .second, .val .null] [])) t → Steps p.tables e below (s₁.setTop (entryFrame m #[(.ref a1), (.int (1 : Int32)), (.long p2), .null] 5)) t := fun t k => pre12 t (by
    exact k)
  obtain ⟨fs, hr, hrun, hended, hW, hsame⟩ := X11.leave (v := none) (fun _ => rfl)
  refine ⟨_, _, pre13 _ ?_, hrun, hended, _, _, rfl, ?_, ⟨_, rfl⟩, hW, hsame.mono (by decide) (by decide)⟩
  · exact X11.returnOut hx Bd.returns (hb hby d3_20) hr
  · show Q_rmI Z a1 p2 h0 n0 _ T11.heap _
    rw [e11]
    exact ⟨rfl, N11, KK11, F_a1_granted_e11, F_a1_fencingToken_e11⟩
theorem ef_rmG (m : MethodId) (x0 : Int64) : entryFrame m #[(.long x0)] 2 = mkF m 0 #[.val (.long x0), .second] [] := by first | (simp [entryFrame, mkF, argsToLocals, Value.category]; done) | rfl
theorem d2_0 : decode prog_11_method_2_code 0 = .ok (.lload_n 0, 1) := by decide +kernel
theorem d2_1 : decode prog_11_method_2_code 1 = .ok (.lconst 0, 1) := by decide +kernel
theorem d2_2 : decode prog_11_method_2_code 2 = .ok (.lcmp, 1) := by decide +kernel
theorem d2_3 : decode prog_11_method_2_code 3 = .ok (.ifCond .gt 17, 3) := by decide +kernel
theorem d2_20 : decode prog_11_method_2_code 20 = .ok (.new 8, 3) := by decide +kernel
theorem d2_23 : decode prog_11_method_2_code 23 = .ok (.dup, 1) := by decide +kernel
theorem d2_24 : decode prog_11_method_2_code 24 = .ok (.iconst 1, 1) := by decide +kernel
theorem d2_25 : decode prog_11_method_2_code 25 = .ok (.lload_n 0, 1) := by decide +kernel
theorem d2_26 : decode prog_11_method_2_code 26 = .ok (.aconst_null, 1) := by decide +kernel
theorem d2_27 : decode prog_11_method_2_code 27 = .ok (.invokespecial 30, 3) := by decide +kernel
theorem pd__ZJLjava_time_Duration__V : parseMethodDescriptor "(ZJLjava/time/Duration;)V" = some ⟨[.boolean, .long, (.object "java/time/Duration")], none⟩ := by decide +kernel
theorem d2_30 : decode prog_11_method_2_code 30 = .ok (.areturn, 1) := by decide +kernel
def Q_rmG (Z : State) (p1 : Int64) (h0 : Heap) (n0 : Nat) (v : Option Value) (h : Heap) (L : List Loc) : Prop := ∃ r, v = some (.ref r) ∧ Fr n0 L ∧ Keep h0 h [] ∧ Exa Z h r "com/example/lease_lock/leaselock/StoreGrant" ∧ Fld Z h r "com/example/lease_lock/leaselock/StoreGrant" "granted" "Z" (.int (1 : Int32)) ∧ Fld Z h r "com/example/lease_lock/leaselock/StoreGrant" "fencingToken" "J" (.long p1)
set_option maxRecDepth 65536 in
set_option maxHeartbeats 40000000 in
theorem rmG (l : Launch) (Z : State) (a0 : Array Value) (hw : ∀ d ∈ tables_1, d.before a0 Z = true) (ws : List Jvm.Cond) (p1 : Int64) (h0 : Heap) (n0 : Nat) (Z0 : n0 ≤ h0.size) (hpos : (0 : Int64) < p1) :
    MetFree l (⟨"com/example/lease_lock/leaselock/StoreGrant", "granted", "(J)Lcom/example/lease_lock/leaselock/StoreGrant;"⟩ : MethodName) (head1 (Jvm.Cond.code (⟨"com/example/lease_lock/leaselock/StoreGrant", "granted", "(J)Lcom/example/lease_lock/leaselock/StoreGrant;"⟩ : MethodName) prog_11_method_2_code 2 (some (.object "com/example/lease_lock/leaselock/StoreGrant")) :: ws) ({ frames := 2, cells := 1, slots := 3, locals := 29 } : Room)) (fun a U => a = #[(.long p1)] ∧ Z.Warmed39 U.vm ∧ U.heap = h0) (fun _ _ _ _ _ => True) (fun _ U o U' => ∃ v L, o = .returned v ∧ Q_rmG Z p1 h0 n0 v U'.heap L ∧ FrameEnd U o U' L ({ frames := 2, cells := 1, slots := 3, locals := 29 } : Room).cells ({ frames := 2, cells := 1, slots := 3, locals := 29 } : Room).slots) := by
  refine MetFree.of_bodySF (plainFor_of_name pn_com_example_lease_lock_leaselock_StoreGrant) hisR ?_
  intro p e s m args below meth c s₁ Bd hml0 hP hK
  obtain ⟨rfl, hZ, hh⟩ := hP
  have hx := Bd.exec
  have hby := Bd.bytes
  have hml : c.maxLocals = 2 := hml0
  have hown : s.vm.findClass "com/example/lease_lock/leaselock/StoreGrant" = some m.cls := findClass_of_methodNamed Bd.named
  have hnm := (name_of_methodNamed Bd.named Bd.method).1
  have X0 : Stand p l e ({ frames := 2, cells := 1, slots := 3, locals := 29 } : Room) s m #[(.long p1)] below meth c s₁ [] 0 0 := Stand.of_body Bd
  have e0 : s₁.heap = h0 := by rw [← hh, Bd.state]; rfl
  have N0 := Fr.nil n0
  have pre0 : ∀ t, Steps p.tables e below (s₁.setTop (mkF m 0 #[.val (.long p1), .second] [])) t → Steps p.tables e below (s₁.setTop (entryFrame m #[(.long p1)] 2)) t := fun t k => castTop (ef_rmG m p1) k
  have pre1 : ∀ t, Steps p.tables e below (s₁.setTop (mkF m 20 #[.val (.long p1), .second] [])) t → Steps p.tables e below (s₁.setTop (entryFrame m #[(.long p1)] 2)) t := fun t k => pre0 t (by
    show Steps p.tables e below (s₁.setTop (mkF m 0 #[.val (.long p1), .second] [])) _
    refine XS.lloadN X0.here hx rfl (hb hby d2_0) rfl ?_
    show Steps p.tables e below (s₁.setTop (mkF m 1 #[.val (.long p1), .second] [(.long p1)])) _
    refine XS.lconst X0.here hx rfl (hb hby d2_1) ?_
    show Steps p.tables e below (s₁.setTop (mkF m 2 #[.val (.long p1), .second] [(.long (0 : Int64)), (.long p1)])) _
    refine XS.lcmp X0.here hx rfl (hb hby d2_2) rfl ?_
    show Steps p.tables e below (s₁.setTop (mkF m 3 #[.val (.long p1), .second] [(.int (lcmpW p1 (0 : Int64)))])) _
    refine XS.ifYes X0.here hx rfl (pc0 := 3) (pc' := 20) rfl (hb hby d2_3) rfl ((if0 _ _).trans (tlt ((lw_gt _ _).mpr hpos)).2.2.1) (by decide) (by decide) ?_
    exact k)
  obtain ⟨T2, h2, X2, e2, E2, A2, D2, -, st2⟩ := newO X0 hx hZ hown (hw _ (List.mem_of_getElem? (i := 9) rfl)) (hw _ (List.mem_of_getElem? (i := 10) rfl)) (hw _ (List.mem_of_getElem? (i := 7) rfl)) e0 (g := (mkF m 20 #[.val (.long p1), .second] [])) rfl (hb hby d2_20) (by decide) (by decide)
  obtain ⟨b1, g2⟩ : ∃ z, z = h0.size := ⟨_, rfl⟩
  rw [← g2] at A2 D2 st2
  have pre3 : ∀ t, Steps p.tables e below (T2.setTop (mkF m 23 #[.val (.long p1), .second] [(.ref b1)])) t → Steps p.tables e below (s₁.setTop (entryFrame m #[(.long p1)] 2)) t := fun t k => pre1 t (st2 t k)
  have g_b1 : n0 ≤ b1 := Nat.le_trans Z0 (Nat.le_of_eq g2.symm)
  have fr_b1 : h0.size ≤ b1 := Nat.le_trans (Keep.refl h0 []).1 (Nat.le_of_eq g2.symm)
  have sz2 : n0 ≤ h2.size := Nat.le_trans Z0 E2.1
  have KK2 : Keep h0 h2 [] := (Keep.refl h0 []).ext E2
  have F_b1_granted : Fld Z h2 b1 "com/example/lease_lock/leaselock/StoreGrant" "granted" "Z" (.int (0 : Int32)) := D2 (Or.inr (hw _ (List.mem_of_getElem? (i := 18) rfl))) (ty := .boolean) (by decide)
  have F_b1_fencingToken : Fld Z h2 b1 "com/example/lease_lock/leaselock/StoreGrant" "fencingToken" "J" (.long (0 : Int64)) := D2 (Or.inr (hw _ (List.mem_of_getElem? (i := 20) rfl))) (ty := .long) (by decide)
  have F_b1_heldFor : Fld Z h2 b1 "com/example/lease_lock/leaselock/StoreGrant" "heldFor" "Ljava/time/Duration;" .null := D2 (Or.inr (hw _ (List.mem_of_getElem? (i := 22) rfl))) (ty := (.object "java/time/Duration")) (by decide)
  have pre4 : ∀ t, Steps p.tables e below (T2.setTop (mkF m 27 #[.val (.long p1), .second] [.null, (.long p1), (.int (1 : Int32)), (.ref b1), (.ref b1)])) t → Steps p.tables e below (s₁.setTop (entryFrame m #[(.long p1)] 2)) t := fun t k => pre3 t (by
    show Steps p.tables e below (T2.setTop (mkF m 23 #[.val (.long p1), .second] [(.ref b1)])) _
    refine XS.dup X2.here hx rfl (hb hby d2_23) rfl rfl ?_
    show Steps p.tables e below (T2.setTop (mkF m 24 #[.val (.long p1), .second] [(.ref b1), (.ref b1)])) _
    refine XS.iconst X2.here hx rfl (hb hby d2_24) ?_
    show Steps p.tables e below (T2.setTop (mkF m 25 #[.val (.long p1), .second] [(.int (1 : Int32)), (.ref b1), (.ref b1)])) _
    refine XS.lloadN X2.here hx rfl (hb hby d2_25) rfl ?_
    show Steps p.tables e below (T2.setTop (mkF m 26 #[.val (.long p1), .second] [(.long p1), (.int (1 : Int32)), (.ref b1), (.ref b1)])) _
    refine XS.aconstNull X2.here hx rfl (hb hby d2_26) ?_
    exact k)
  obtain ⟨_, _, ⟨T5, L5, k5, n5⟩, -, X5, ⟨Lc5, hQ5, l5, y5, z5⟩, st5⟩ := X2.specialBack hx (y := (⟨"com/example/lease_lock/leaselock/StoreGrant", "<init>", "(ZJLjava/time/Duration;)V"⟩ : MethodName)) rfl hown (mvT hZ (hw _ (List.mem_of_getElem? (i := 11) rfl))) (mvT hZ (hw _ (List.mem_of_getElem? (i := 12) rfl))) (mvT hZ (hw _ (List.mem_of_getElem? (i := 13) rfl))) (by decide) (backOf (W := 1) (rmI l Z a0 hw [] b1 p1 h2 n0 sz2 F_b1_granted F_b1_fencingToken F_b1_heldFor A2 g_b1) hZ (hw _ (List.mem_of_getElem? (i := 13) rfl)) (hw _ (List.mem_of_getElem? (i := 7) rfl)) (by decide) (by decide)) (g := (mkF m 27 #[.val (.long p1), .second] [.null, (.long p1), (.int (1 : Int32)), (.ref b1), (.ref b1)])) rfl (by rw [hml]; rfl) (Steps.refl _) (a := b1) (argsL := [(.int (1 : Int32)), (.long p1), .null]) (rest := [(.ref b1)]) (lenOf pd__ZJLjava_time_Duration__V rfl) rfl (by show 2 * 0 + _ ≤ _; exact Nat.le_of_eq rfl) (hb hby d2_27) (fun _ _ => ⟨rfl, e2, (by decide : 0 + 1 + 0 ≤ _), (by decide : 0 + 3 + 0 ≤ _)⟩)
  dsimp only [Pt.U, Pt.locs, Pt.cells, Pt.slots] at X5 l5 y5 z5 st5 hQ5
  subst l5 y5 z5
  obtain ⟨rfl, N5q, ky1, fg1, ft1⟩ := hQ5
  have N5 := Fr.app N0 N5q
  have pre6 : ∀ t, Steps p.tables e below (T5.setTop (mkF m 30 #[.val (.long p1), .second] [(.ref b1)])) t → Steps p.tables e below (s₁.setTop (entryFrame m #[(.long p1)] 2)) t := fun t k => pre4 t (st5.trans k)
  have A2_e5 : Exa Z T5.heap b1 "com/example/lease_lock/leaselock/StoreGrant" := A2.keep ky1
  have sz5 : n0 ≤ T5.heap.size := Nat.le_trans sz2 ky1.1
  have KK5 : Keep h0 T5.heap [] := Keep.trans KK2 ky1 (allS (Or.inr fr_b1) all0)
  have pre7 : ∀ t, Steps p.tables e below (T5.setTop (mkF m 30 #[.val (.long p1), .second] [(.ref b1)])) t → Steps p.tables e below (s₁.setTop (entryFrame m #[(.long p1)] 2)) t := fun t k => pre6 t (by
    exact k)
  obtain ⟨fs, hr, hrun, hended, hW, hsame⟩ := X5.leave (v := some (.ref b1)) (fun h => by rw [Bd.returns] at h; cases h)
  refine ⟨_, _, pre7 _ ?_, hrun, hended, _, _, rfl, ?_, ⟨_, rfl⟩, hW, hsame.mono (by decide) (by decide)⟩
  · exact retOut X5 hx Bd.returns rfl (Or.inr (Or.inr (Or.inr (Or.inr ⟨rfl, rfl, rfl⟩)))) (hb hby d2_30) hr
  · show Q_rmG Z p1 h0 n0 _ T5.heap _
    exact ⟨b1, rfl, N5, KK5, A2_e5, fg1, ft1⟩
theorem ef_rmZ (m : MethodId) (x0 : Addr) : entryFrame m #[(.ref x0)] 1 = mkF m 0 #[.val (.ref x0)] [] := by first | (simp [entryFrame, mkF, argsToLocals, Value.category]; done) | rfl
theorem d5_0 : decode prog_11_method_6_code 0 = .ok (.aload_n 0, 1) := by decide +kernel
theorem d5_1 : decode prog_11_method_6_code 1 = .ok (.getfield 7, 3) := by decide +kernel
theorem d5_4 : decode prog_11_method_6_code 4 = .ok (.ireturn, 1) := by decide +kernel
def Q_rmZ (Z : State) (a1 : Addr) (h0 : Heap) (n0 : Nat) (v : Option Value) (h : Heap) (L : List Loc) : Prop := v = some (.int (1 : Int32)) ∧ Fr n0 L ∧ h = h0
set_option maxRecDepth 65536 in
set_option maxHeartbeats 40000000 in
theorem rmZ (l : Launch) (Z : State) (a0 : Array Value) (hw : ∀ d ∈ tables_1, d.before a0 Z = true) (ws : List Jvm.Cond) (a1 : Addr) (h0 : Heap) (n0 : Nat) (Z0 : n0 ≤ h0.size) (F0 : Fld Z h0 a1 "com/example/lease_lock/leaselock/StoreGrant" "granted" "Z" (.int (1 : Int32))) :
    MetFree l (⟨"com/example/lease_lock/leaselock/StoreGrant", "isGranted", "()Z"⟩ : MethodName) (head1 (Jvm.Cond.code (⟨"com/example/lease_lock/leaselock/StoreGrant", "isGranted", "()Z"⟩ : MethodName) prog_11_method_6_code 1 (some .boolean) :: ws) ({ frames := 0, cells := 0, slots := 0, locals := 0 } : Room)) (fun a U => a = #[(.ref a1)] ∧ Z.Warmed39 U.vm ∧ U.heap = h0) (fun _ _ _ _ _ => True) (fun _ U o U' => ∃ v L, o = .returned v ∧ Q_rmZ Z a1 h0 n0 v U'.heap L ∧ FrameEnd U o U' L ({ frames := 0, cells := 0, slots := 0, locals := 0 } : Room).cells ({ frames := 0, cells := 0, slots := 0, locals := 0 } : Room).slots) := by
  refine MetFree.of_bodySF (plainFor_of_name pn_com_example_lease_lock_leaselock_StoreGrant) hisR ?_
  intro p e s m args below meth c s₁ Bd hml0 hP hK
  obtain ⟨rfl, hZ, hh⟩ := hP
  have hx := Bd.exec
  have hby := Bd.bytes
  have hml : c.maxLocals = 1 := hml0
  have hown : s.vm.findClass "com/example/lease_lock/leaselock/StoreGrant" = some m.cls := findClass_of_methodNamed Bd.named
  have hnm := (name_of_methodNamed Bd.named Bd.method).1
  have X0 : Stand p l e ({ frames := 0, cells := 0, slots := 0, locals := 0 } : Room) s m #[(.ref a1)] below meth c s₁ [] 0 0 := Stand.of_body Bd
  have e0 : s₁.heap = h0 := by rw [← hh, Bd.state]; rfl
  have N0 := Fr.nil n0
  have pre0 : ∀ t, Steps p.tables e below (s₁.setTop (mkF m 0 #[.val (.ref a1)] [])) t → Steps p.tables e below (s₁.setTop (entryFrame m #[(.ref a1)] 1)) t := fun t k => castTop (ef_rmZ m a1) k
  have pre1 : ∀ t, Steps p.tables e below (s₁.setTop (mkF m 1 #[.val (.ref a1)] [(.ref a1)])) t → Steps p.tables e below (s₁.setTop (entryFrame m #[(.ref a1)] 1)) t := fun t k => pre0 t (by
    show Steps p.tables e below (s₁.setTop (mkF m 0 #[.val (.ref a1)] [])) _
    refine XS.aloadN X0.here hx rfl (hb hby d5_0) rfl rfl ?_
    exact k)
  obtain ⟨T2, X2, e2, st2⟩ := getF X0 hx hZ hown (host := "") (Or.inl (hw _ (List.mem_of_getElem? (i := 17) rfl))) Via.refl e0 F0 (g := (mkF m 1 #[.val (.ref a1)] [(.ref a1)])) rfl rfl (hb hby d5_1)
  have pre3 : ∀ t, Steps p.tables e below (T2.setTop (mkF m 4 #[.val (.ref a1)] [(.int (1 : Int32))])) t → Steps p.tables e below (s₁.setTop (entryFrame m #[(.ref a1)] 1)) t := fun t k => pre1 t (st2 t k)
  have pre4 : ∀ t, Steps p.tables e below (T2.setTop (mkF m 4 #[.val (.ref a1)] [(.int (1 : Int32))])) t → Steps p.tables e below (s₁.setTop (entryFrame m #[(.ref a1)] 1)) t := fun t k => pre3 t (by
    exact k)
  obtain ⟨fs, hr, hrun, hended, hW, hsame⟩ := X2.leave (v := some (.int (1 : Int32))) (fun h => by rw [Bd.returns] at h; cases h)
  refine ⟨_, _, pre4 _ ?_, hrun, hended, _, _, rfl, ?_, ⟨_, rfl⟩, hW, hsame.mono (by decide) (by decide)⟩
  · exact retN X2 hx (t := .boolean) Bd.returns (by simp) (hb hby d5_4) hr
  · exact ⟨rfl, N0, e2⟩
theorem ef_rmF (m : MethodId) (x0 : Addr) : entryFrame m #[(.ref x0)] 1 = mkF m 0 #[.val (.ref x0)] [] := by first | (simp [entryFrame, mkF, argsToLocals, Value.category]; done) | rfl
theorem d6_0 : decode prog_11_method_7_code 0 = .ok (.aload_n 0, 1) := by decide +kernel
theorem d6_1 : decode prog_11_method_7_code 1 = .ok (.getfield 13, 3) := by decide +kernel
theorem d6_4 : decode prog_11_method_7_code 4 = .ok (.lreturn, 1) := by decide +kernel
def Q_rmF (Z : State) (a1 : Addr) (t1 : Int64) (h0 : Heap) (n0 : Nat) (v : Option Value) (h : Heap) (L : List Loc) : Prop := v = some (.long t1) ∧ Fr n0 L ∧ h = h0
set_option maxRecDepth 65536 in
set_option maxHeartbeats 40000000 in
theorem rmF (l : Launch) (Z : State) (a0 : Array Value) (hw : ∀ d ∈ tables_1, d.before a0 Z = true) (ws : List Jvm.Cond) (a1 : Addr) (t1 : Int64) (h0 : Heap) (n0 : Nat) (Z0 : n0 ≤ h0.size) (F0 : Fld Z h0 a1 "com/example/lease_lock/leaselock/StoreGrant" "fencingToken" "J" (.long t1)) :
    MetFree l (⟨"com/example/lease_lock/leaselock/StoreGrant", "fencingToken", "()J"⟩ : MethodName) (head1 (Jvm.Cond.code (⟨"com/example/lease_lock/leaselock/StoreGrant", "fencingToken", "()J"⟩ : MethodName) prog_11_method_7_code 1 (some .long) :: ws) ({ frames := 0, cells := 0, slots := 0, locals := 0 } : Room)) (fun a U => a = #[(.ref a1)] ∧ Z.Warmed39 U.vm ∧ U.heap = h0) (fun _ _ _ _ _ => True) (fun _ U o U' => ∃ v L, o = .returned v ∧ Q_rmF Z a1 t1 h0 n0 v U'.heap L ∧ FrameEnd U o U' L ({ frames := 0, cells := 0, slots := 0, locals := 0 } : Room).cells ({ frames := 0, cells := 0, slots := 0, locals := 0 } : Room).slots) := by
  refine MetFree.of_bodySF (plainFor_of_name pn_com_example_lease_lock_leaselock_StoreGrant) hisR ?_
  intro p e s m args below meth c s₁ Bd hml0 hP hK
  obtain ⟨rfl, hZ, hh⟩ := hP
  have hx := Bd.exec
  have hby := Bd.bytes
  have hml : c.maxLocals = 1 := hml0
  have hown : s.vm.findClass "com/example/lease_lock/leaselock/StoreGrant" = some m.cls := findClass_of_methodNamed Bd.named
  have hnm := (name_of_methodNamed Bd.named Bd.method).1
  have X0 : Stand p l e ({ frames := 0, cells := 0, slots := 0, locals := 0 } : Room) s m #[(.ref a1)] below meth c s₁ [] 0 0 := Stand.of_body Bd
  have e0 : s₁.heap = h0 := by rw [← hh, Bd.state]; rfl
  have N0 := Fr.nil n0
  have pre0 : ∀ t, Steps p.tables e below (s₁.setTop (mkF m 0 #[.val (.ref a1)] [])) t → Steps p.tables e below (s₁.setTop (entryFrame m #[(.ref a1)] 1)) t := fun t k => castTop (ef_rmF m a1) k
  have pre1 : ∀ t, Steps p.tables e below (s₁.setTop (mkF m 1 #[.val (.ref a1)] [(.ref a1)])) t → Steps p.tables e below (s₁.setTop (entryFrame m #[(.ref a1)] 1)) t := fun t k => pre0 t (by
    show Steps p.tables e below (s₁.setTop (mkF m 0 #[.val (.ref a1)] [])) _
    refine XS.aloadN X0.here hx rfl (hb hby d6_0) rfl rfl ?_
    exact k)
  obtain ⟨T2, X2, e2, st2⟩ := getF X0 hx hZ hown (host := "") (Or.inl (hw _ (List.mem_of_getElem? (i := 19) rfl))) Via.refl e0 F0 (g := (mkF m 1 #[.val (.ref a1)] [(.ref a1)])) rfl rfl (hb hby d6_1)
  have pre3 : ∀ t, Steps p.tables e below (T2.setTop (mkF m 4 #[.val (.ref a1)] [(.long t1)])) t → Steps p.tables e below (s₁.setTop (entryFrame m #[(.ref a1)] 1)) t := fun t k => pre1 t (st2 t k)
  have pre4 : ∀ t, Steps p.tables e below (T2.setTop (mkF m 4 #[.val (.ref a1)] [(.long t1)])) t → Steps p.tables e below (s₁.setTop (entryFrame m #[(.ref a1)] 1)) t := fun t k => pre3 t (by
    exact k)
  obtain ⟨fs, hr, hrun, hended, hW, hsame⟩ := X2.leave (v := some (.long t1)) (fun h => by rw [Bd.returns] at h; cases h)
  refine ⟨_, _, pre4 _ ?_, hrun, hended, _, _, rfl, ?_, ⟨_, rfl⟩, hW, hsame.mono (by decide) (by decide)⟩
  · exact X2.lreturnOut hx Bd.returns (hb hby d6_4) hr
  · exact ⟨rfl, N0, e2⟩
theorem ef_rm0 (m : MethodId) (x0 : Int64) (x1 : Int64) : entryFrame m #[(.long x0), (.long x1)] maxLocals = mkF m 0 #[.val (.long x0), .second, .val (.long x1), .second, .unset, .unset, .unset, .unset, .unset, .unset] [] := by first | (simp [entryFrame, mkF, argsToLocals, Value.category, maxLocals]; done) | rfl
theorem pd__J_J : parseMethodDescriptor "(J)J" = some ⟨[.long], some .long⟩ := by decide +kernel
theorem pd__J_Lcom_example_lease_lock_leaselock_StoreGrant_ : parseMethodDescriptor "(J)Lcom/example/lease_lock/leaselock/StoreGrant;" = some ⟨[.long], some (.object "com/example/lease_lock/leaselock/StoreGrant")⟩ := by decide +kernel
theorem pd___Z : parseMethodDescriptor "()Z" = some ⟨[], some .boolean⟩ := by decide +kernel
theorem pd___J : parseMethodDescriptor "()J" = some ⟨[], some .long⟩ := by decide +kernel
def Q_rm0 (Z : State) (p1 : Int64) (p2 : Int64) (h0 : Heap) (n0 : Nat) (v : Option Value) (h : Heap) (L : List Loc) : Prop := v = some (.int (1 : Int32)) ∧ Fr n0 L
set_option maxRecDepth 65536 in
set_option maxHeartbeats 40000000 in
theorem rm0 (l : Launch) (Z : State) (a0 : Array Value) (hw : ∀ d ∈ tables_1, d.before a0 Z = true) (ws : List Jvm.Cond) (p1 : Int64) (p2 : Int64) (h0 : Heap) (n0 : Nat) (Z0 : n0 ≤ h0.size) :
    MetFree l x (head1 (Jvm.Cond.code x code maxLocals ret :: ws) room_1) (fun a U => a = #[(.long p1), (.long p2)] ∧ Z.Warmed39 U.vm ∧ U.heap = h0) (fun _ _ _ _ _ => True) (fun _ U o U' => ∃ v L, o = .returned v ∧ Q_rm0 Z p1 p2 h0 n0 v U'.heap L ∧ FrameEnd U o U' L 16 128) := by
  refine MetFree.of_bodySF (plainFor_of_name pn_com_example_lease_lock_leaselock_StoreGrantGrantedPinLaw) hisR ?_
  intro p e s m args below meth c s₁ Bd hml0 hP hK
  obtain ⟨rfl, hZ, hh⟩ := hP
  have hx := Bd.exec
  have hby := Bd.bytes
  have hml : c.maxLocals = 10 := hml0
  have hown : s.vm.findClass "com/example/lease_lock/leaselock/StoreGrantGrantedPinLaw" = some m.cls := findClass_of_methodNamed Bd.named
  have hnm := (name_of_methodNamed Bd.named Bd.method).1
  have X0 : Stand p l e room_1 s m #[(.long p1), (.long p2)] below meth c s₁ [] 0 0 := Stand.of_body Bd
  have e0 : s₁.heap = h0 := by rw [← hh, Bd.state]; rfl
  have N0 := Fr.nil n0
  have pre0 : ∀ t, Steps p.tables e below (s₁.setTop (mkF m 0 #[.val (.long p1), .second, .val (.long p2), .second, .unset, .unset, .unset, .unset, .unset, .unset] [])) t → Steps p.tables e below (s₁.setTop (entryFrame m #[(.long p1), (.long p2)] maxLocals)) t := fun t k => castTop (ef_rm0 m p1 p2) k
  have pre1 : ∀ t, Steps p.tables e below (s₁.setTop (mkF m 1 #[.val (.long p1), .second, .val (.long p2), .second, .unset, .unset, .unset, .unset, .unset, .unset] [(.long p1)])) t → Steps p.tables e below (s₁.setTop (entryFrame m #[(.long p1), (.long p2)] maxLocals)) t := fun t k => pre0 t (by
    show Steps p.tables e below (s₁.setTop (mkF m 0 #[.val (.long p1), .second, .val (.long p2), .second, .unset, .unset, .unset, .unset, .unset, .unset] [])) _
    refine XS.lloadN X0.here hx rfl (hb hby at_0) rfl ?_
    exact k)
  obtain ⟨_, _, ⟨T2, L2, k2, n2⟩, -, X2, ⟨Lc2, hQ2, l2, y2, z2⟩, st2⟩ := Jvm.LawKit.callS X0 hx (y := (⟨"com/example/lease_lock/leaselock/StoreGrantGrantedPinLaw", "positive", "(J)J"⟩ : MethodName)) hown (mvT hZ (hw _ (List.mem_of_getElem? (i := 0) rfl))) (mvT hZ (hw _ (List.mem_of_getElem? (i := 1) rfl))) (mvT hZ (hw _ (List.mem_of_getElem? (i := 2) rfl))) (mvT hZ (hw _ (List.mem_of_getElem? (i := 3) rfl))) (by decide) (backOf (W := 0) (rmP l Z a0 hw [] p1 h0 n0 Z0 ) hZ (hw _ (List.mem_of_getElem? (i := 3) rfl)) (hw _ (List.mem_of_getElem? (i := 2) rfl)) (by decide) (by decide)) (g := (mkF m 1 #[.val (.long p1), .second, .val (.long p2), .second, .unset, .unset, .unset, .unset, .unset, .unset] [(.long p1)])) rfl (by rw [hml]; rfl) (argsL := [(.long p1)]) (rest := []) (lenOf pd__J_J rfl) rfl (by show 2 * 0 + _ ≤ _; exact Nat.le_of_eq rfl) (hb hby at_1) (fun _ _ => ⟨rfl, e0, (by decide : 0 + 0 ≤ _), (by decide : 0 + 0 ≤ _)⟩)
  dsimp only [Pt.U, Pt.locs, Pt.cells, Pt.slots] at X2 l2 y2 z2 st2 hQ2
  subst l2 y2 z2
  obtain ⟨rfl, N2q, eq1⟩ := hQ2
  have N2 := Fr.app N0 N2q
  have pre3 : ∀ t, Steps p.tables e below (T2.setTop (mkF m 4 #[.val (.long p1), .second, .val (.long p2), .second, .unset, .unset, .unset, .unset, .unset, .unset] [(.long (own_pos p1))])) t → Steps p.tables e below (s₁.setTop (entryFrame m #[(.long p1), (.long p2)] maxLocals)) t := fun t k => pre1 t (st2 t k)
  have eqA : T2.heap = h0 := eq1
  have pre4 : ∀ t, Steps p.tables e below (T2.setTop (mkF m 7 #[.val (.long p1), .second, .val (.long p2), .second, .val (.long (own_pos p1)), .second, .unset, .unset, .unset, .unset] [(.long p2)])) t → Steps p.tables e below (s₁.setTop (entryFrame m #[(.long p1), (.long p2)] maxLocals)) t := fun t k => pre3 t (by
    show Steps p.tables e below (T2.setTop (mkF m 4 #[.val (.long p1), .second, .val (.long p2), .second, .unset, .unset, .unset, .unset, .unset, .unset] [(.long (own_pos p1))])) _
    refine XS.lstore X2.here hx rfl (hb hby at_4) rfl (l' := #[.val (.long p1), .second, .val (.long p2), .second, .val (.long (own_pos p1)), .second, .unset, .unset, .unset, .unset]) rfl ?_
    show Steps p.tables e below (T2.setTop (mkF m 6 #[.val (.long p1), .second, .val (.long p2), .second, .val (.long (own_pos p1)), .second, .unset, .unset, .unset, .unset] [])) _
    refine XS.lloadN X2.here hx rfl (hb hby at_6) rfl ?_
    exact k)
  obtain ⟨_, _, ⟨T5, L5, k5, n5⟩, -, X5, ⟨Lc5, hQ5, l5, y5, z5⟩, st5⟩ := Jvm.LawKit.callS X2 hx (y := (⟨"com/example/lease_lock/leaselock/StoreGrantGrantedPinLaw", "positive", "(J)J"⟩ : MethodName)) hown (mvT hZ (hw _ (List.mem_of_getElem? (i := 0) rfl))) (mvT hZ (hw _ (List.mem_of_getElem? (i := 1) rfl))) (mvT hZ (hw _ (List.mem_of_getElem? (i := 2) rfl))) (mvT hZ (hw _ (List.mem_of_getElem? (i := 3) rfl))) (by decide) (backOf (W := 0) (rmP l Z a0 hw [] p2 h0 n0 Z0 ) hZ (hw _ (List.mem_of_getElem? (i := 3) rfl)) (hw _ (List.mem_of_getElem? (i := 2) rfl)) (by decide) (by decide)) (g := (mkF m 7 #[.val (.long p1), .second, .val (.long p2), .second, .val (.long (own_pos p1)), .second, .unset, .unset, .unset, .unset] [(.long p2)])) rfl (by rw [hml]; rfl) (argsL := [(.long p2)]) (rest := []) (lenOf pd__J_J rfl) rfl (by show 2 * 0 + _ ≤ _; exact Nat.le_of_eq rfl) (hb hby at_7) (fun _ _ => ⟨rfl, eqA, (by decide : 0 + 0 + 0 ≤ _), (by decide : 0 + 0 + 0 ≤ _)⟩)
  dsimp only [Pt.U, Pt.locs, Pt.cells, Pt.slots] at X5 l5 y5 z5 st5 hQ5
  subst l5 y5 z5
  obtain ⟨rfl, N5q, eq2⟩ := hQ5
  have N5 := Fr.app N2 N5q
  have pre6 : ∀ t, Steps p.tables e below (T5.setTop (mkF m 10 #[.val (.long p1), .second, .val (.long p2), .second, .val (.long (own_pos p1)), .second, .unset, .unset, .unset, .unset] [(.long (own_pos p2))])) t → Steps p.tables e below (s₁.setTop (entryFrame m #[(.long p1), (.long p2)] maxLocals)) t := fun t k => pre4 t (st5 t k)
  have pre7 : ∀ t, Steps p.tables e below (T5.setTop (mkF m 14 #[.val (.long p1), .second, .val (.long p2), .second, .val (.long (own_pos p1)), .second, .val (.long (own_pos p2)), .second, .unset, .unset] [(.long (own_pos p1))])) t → Steps p.tables e below (s₁.setTop (entryFrame m #[(.long p1), (.long p2)] maxLocals)) t := fun t k => pre6 t (by
    show Steps p.tables e below (T5.setTop (mkF m 10 #[.val (.long p1), .second, .val (.long p2), .second, .val (.long (own_pos p1)), .second, .unset, .unset, .unset, .unset] [(.long (own_pos p2))])) _
    refine XS.lstore X5.here hx rfl (hb hby at_10) rfl (l' := #[.val (.long p1), .second, .val (.long p2), .second, .val (.long (own_pos p1)), .second, .val (.long (own_pos p2)), .second, .unset, .unset]) rfl ?_
    show Steps p.tables e below (T5.setTop (mkF m 12 #[.val (.long p1), .second, .val (.long p2), .second, .val (.long (own_pos p1)), .second, .val (.long (own_pos p2)), .second, .unset, .unset] [])) _
    refine XS.lload X5.here hx rfl (hb hby at_12) rfl ?_
    exact k)
  obtain ⟨_, _, ⟨T8, L8, k8, n8⟩, -, X8, ⟨Lc8, hQ8, l8, y8, z8⟩, st8⟩ := Jvm.LawKit.callS X5 hx (y := (⟨"com/example/lease_lock/leaselock/StoreGrant", "granted", "(J)Lcom/example/lease_lock/leaselock/StoreGrant;"⟩ : MethodName)) hown (mvT hZ (hw _ (List.mem_of_getElem? (i := 5) rfl))) (mvT hZ (hw _ (List.mem_of_getElem? (i := 6) rfl))) (mvT hZ (hw _ (List.mem_of_getElem? (i := 7) rfl))) (mvT hZ (hw _ (List.mem_of_getElem? (i := 8) rfl))) (by decide) (backOf (W := 0) (rmG l Z a0 hw [] (own_pos p1) h0 n0 Z0 (own_gt p1)) hZ (hw _ (List.mem_of_getElem? (i := 8) rfl)) (hw _ (List.mem_of_getElem? (i := 7) rfl)) (by decide) (by decide)) (g := (mkF m 14 #[.val (.long p1), .second, .val (.long p2), .second, .val (.long (own_pos p1)), .second, .val (.long (own_pos p2)), .second, .unset, .unset] [(.long (own_pos p1))])) rfl (by rw [hml]; rfl) (argsL := [(.long (own_pos p1))]) (rest := []) (lenOf pd__J_Lcom_example_lease_lock_leaselock_StoreGrant_ rfl) rfl (by show 2 * 0 + _ ≤ _; exact Nat.le_of_eq rfl) (hb hby at_14) (fun _ _ => ⟨rfl, eq2, (by decide : 0 + 0 + 0 + 1 ≤ _), (by decide : 0 + 0 + 0 + 3 ≤ _)⟩)
  dsimp only [Pt.U, Pt.locs, Pt.cells, Pt.slots] at X8 l8 y8 z8 st8 hQ8
  subst l8 y8 z8
  obtain ⟨r1, rfl, N8q, ky1, xa1, fg1, ft1⟩ := hQ8
  have N8 := Fr.app N5 N8q
  have pre9 : ∀ t, Steps p.tables e below (T8.setTop (mkF m 17 #[.val (.long p1), .second, .val (.long p2), .second, .val (.long (own_pos p1)), .second, .val (.long (own_pos p2)), .second, .unset, .unset] [(.ref r1)])) t → Steps p.tables e below (s₁.setTop (entryFrame m #[(.long p1), (.long p2)] maxLocals)) t := fun t k => pre7 t (st8 t k)
  have sz8 : n0 ≤ T8.heap.size := Nat.le_trans Z0 ky1.1
  have pre10 : ∀ t, Steps p.tables e below (T8.setTop (mkF m 21 #[.val (.long p1), .second, .val (.long p2), .second, .val (.long (own_pos p1)), .second, .val (.long (own_pos p2)), .second, .val (.ref r1), .unset] [(.long (own_pos p2))])) t → Steps p.tables e below (s₁.setTop (entryFrame m #[(.long p1), (.long p2)] maxLocals)) t := fun t k => pre9 t (by
    show Steps p.tables e below (T8.setTop (mkF m 17 #[.val (.long p1), .second, .val (.long p2), .second, .val (.long (own_pos p1)), .second, .val (.long (own_pos p2)), .second, .unset, .unset] [(.ref r1)])) _
    refine XS.astore X8.here hx rfl (hb hby at_17) rfl rfl (l' := #[.val (.long p1), .second, .val (.long p2), .second, .val (.long (own_pos p1)), .second, .val (.long (own_pos p2)), .second, .val (.ref r1), .unset]) rfl ?_
    show Steps p.tables e below (T8.setTop (mkF m 19 #[.val (.long p1), .second, .val (.long p2), .second, .val (.long (own_pos p1)), .second, .val (.long (own_pos p2)), .second, .val (.ref r1), .unset] [])) _
    refine XS.lload X8.here hx rfl (hb hby at_19) rfl ?_
    exact k)
  obtain ⟨_, _, ⟨T11, L11, k11, n11⟩, -, X11, ⟨Lc11, hQ11, l11, y11, z11⟩, st11⟩ := Jvm.LawKit.callS X8 hx (y := (⟨"com/example/lease_lock/leaselock/StoreGrant", "granted", "(J)Lcom/example/lease_lock/leaselock/StoreGrant;"⟩ : MethodName)) hown (mvT hZ (hw _ (List.mem_of_getElem? (i := 5) rfl))) (mvT hZ (hw _ (List.mem_of_getElem? (i := 6) rfl))) (mvT hZ (hw _ (List.mem_of_getElem? (i := 7) rfl))) (mvT hZ (hw _ (List.mem_of_getElem? (i := 8) rfl))) (by decide) (backOf (W := 0) (rmG l Z a0 hw [] (own_pos p2) T8.heap n0 sz8 (own_gt p2)) hZ (hw _ (List.mem_of_getElem? (i := 8) rfl)) (hw _ (List.mem_of_getElem? (i := 7) rfl)) (by decide) (by decide)) (g := (mkF m 21 #[.val (.long p1), .second, .val (.long p2), .second, .val (.long (own_pos p1)), .second, .val (.long (own_pos p2)), .second, .val (.ref r1), .unset] [(.long (own_pos p2))])) rfl (by rw [hml]; rfl) (argsL := [(.long (own_pos p2))]) (rest := []) (lenOf pd__J_Lcom_example_lease_lock_leaselock_StoreGrant_ rfl) rfl (by show 2 * 0 + _ ≤ _; exact Nat.le_of_eq rfl) (hb hby at_21) (fun _ _ => ⟨rfl, rfl, (by decide : 0 + 0 + 0 + 1 + 1 ≤ _), (by decide : 0 + 0 + 0 + 3 + 3 ≤ _)⟩)
  dsimp only [Pt.U, Pt.locs, Pt.cells, Pt.slots] at X11 l11 y11 z11 st11 hQ11
  subst l11 y11 z11
  obtain ⟨r2, rfl, N11q, ky2, xa2, fg2, ft2⟩ := hQ11
  have N11 := Fr.app N8 N11q
  have pre12 : ∀ t, Steps p.tables e below (T11.setTop (mkF m 24 #[.val (.long p1), .second, .val (.long p2), .second, .val (.long (own_pos p1)), .second, .val (.long (own_pos p2)), .second, .val (.ref r1), .unset] [(.ref r2)])) t → Steps p.tables e below (s₁.setTop (entryFrame m #[(.long p1), (.long p2)] maxLocals)) t := fun t k => pre10 t (st11 t k)
  have xa1_e11 : Exa Z T11.heap r1 "com/example/lease_lock/leaselock/StoreGrant" := xa1.keep ky2
  have fg1_e11 : Fld Z T11.heap r1 "com/example/lease_lock/leaselock/StoreGrant" "granted" "Z" (.int (1 : Int32)) := fg1.keep ky2 nin0
  have ft1_e11 : Fld Z T11.heap r1 "com/example/lease_lock/leaselock/StoreGrant" "fencingToken" "J" (.long (own_pos p1)) := ft1.keep ky2 nin0
  have sz11 : n0 ≤ T11.heap.size := Nat.le_trans sz8 ky2.1
  have pre13 : ∀ t, Steps p.tables e below (T11.setTop (mkF m 28 #[.val (.long p1), .second, .val (.long p2), .second, .val (.long (own_pos p1)), .second, .val (.long (own_pos p2)), .second, .val (.ref r1), .val (.ref r2)] [(.ref r1)])) t → Steps p.tables e below (s₁.setTop (entryFrame m #[(.long p1), (.long p2)] maxLocals)) t := fun t k => pre12 t (by
    show Steps p.tables e below (T11.setTop (mkF m 24 #[.val (.long p1), .second, .val (.long p2), .second, .val (.long (own_pos p1)), .second, .val (.long (own_pos p2)), .second, .val (.ref r1), .unset] [(.ref r2)])) _
    refine XS.astore X11.here hx rfl (hb hby at_24) rfl rfl (l' := #[.val (.long p1), .second, .val (.long p2), .second, .val (.long (own_pos p1)), .second, .val (.long (own_pos p2)), .second, .val (.ref r1), .val (.ref r2)]) rfl ?_
    show Steps p.tables e below (T11.setTop (mkF m 26 #[.val (.long p1), .second, .val (.long p2), .second, .val (.long (own_pos p1)), .second, .val (.long (own_pos p2)), .second, .val (.ref r1), .val (.ref r2)] [])) _
    refine XS.aload X11.here hx rfl (hb hby at_26) rfl rfl ?_
    exact k)
  obtain ⟨cI14, kI14, q14a, q14b, q14c⟩ := isOf hZ rfl xa1_e11
  have pre15 : ∀ t, Steps p.tables e below (T11.setTop (mkF m 28 #[.val (.long p1), .second, .val (.long p2), .second, .val (.long (own_pos p1)), .second, .val (.long (own_pos p2)), .second, .val (.ref r1), .val (.ref r2)] [(.ref r1)])) t → Steps p.tables e below (s₁.setTop (entryFrame m #[(.long p1), (.long p2)] maxLocals)) t := fun t k => pre13 t (by
    exact k)
  obtain ⟨_, _, ⟨T16, L16, k16, n16⟩, -, X16, ⟨Lc16, hQ16, l16, y16, z16⟩, st16⟩ := X11.virtualBack hx (y := (⟨"com/example/lease_lock/leaselock/StoreGrant", "isGranted", "()Z"⟩ : MethodName)) (z := (⟨"com/example/lease_lock/leaselock/StoreGrant", "isGranted", "()Z"⟩ : MethodName)) hown (mvT hZ (hw _ (List.mem_of_getElem? (i := 23) rfl))) (mvT hZ (hw _ (List.mem_of_getElem? (i := 24) rfl))) (notFace_of_selects (args := #[]) (mvT hZ (hw _ (List.mem_of_getElem? (i := 26) rfl)))) (mvT hZ (hw _ (List.mem_of_getElem? (i := 26) rfl))) (mvT hZ (hw _ (List.mem_of_getElem? (i := 25) rfl))) (by decide) (backOf (W := 0) (rmZ l Z a0 hw [] r1 T11.heap n0 sz11 fg1_e11) hZ (hw _ (List.mem_of_getElem? (i := 27) rfl)) (hw _ (List.mem_of_getElem? (i := 7) rfl)) (by decide) (by decide)) q14a q14c (g := (mkF m 28 #[.val (.long p1), .second, .val (.long p2), .second, .val (.long (own_pos p1)), .second, .val (.long (own_pos p2)), .second, .val (.ref r1), .val (.ref r2)] [(.ref r1)])) rfl (by rw [hml]; rfl) (Steps.refl _) (argsL := []) (rest := []) (lenOf pd___Z rfl) rfl (by show 2 * 0 + _ ≤ _; exact Nat.le_of_eq rfl) (hb hby at_28) (fun _ _ => ⟨rfl, rfl, (by decide : 0 + 0 + 0 + 1 + 1 + 0 ≤ _), (by decide : 0 + 0 + 0 + 3 + 3 + 0 ≤ _)⟩)
  dsimp only [Pt.U, Pt.locs, Pt.cells, Pt.slots] at X16 l16 y16 z16 st16 hQ16
  subst l16 y16 z16
  obtain ⟨rfl, N16q, eq3⟩ := hQ16
  have N16 := Fr.app N11 N16q
  have pre17 : ∀ t, Steps p.tables e below (T16.setTop (mkF m 31 #[.val (.long p1), .second, .val (.long p2), .second, .val (.long (own_pos p1)), .second, .val (.long (own_pos p2)), .second, .val (.ref r1), .val (.ref r2)] [(.int (1 : Int32))])) t → Steps p.tables e below (s₁.setTop (entryFrame m #[(.long p1), (.long p2)] maxLocals)) t := fun t k => pre15 t (st16.trans k)
  have pre18 : ∀ t, Steps p.tables e below (T16.setTop (mkF m 38 #[.val (.long p1), .second, .val (.long p2), .second, .val (.long (own_pos p1)), .second, .val (.long (own_pos p2)), .second, .val (.ref r1), .val (.ref r2)] [(.ref r2)])) t → Steps p.tables e below (s₁.setTop (entryFrame m #[(.long p1), (.long p2)] maxLocals)) t := fun t k => pre17 t (by
    show Steps p.tables e below (T16.setTop (mkF m 31 #[.val (.long p1), .second, .val (.long p2), .second, .val (.long (own_pos p1)), .second, .val (.long (own_pos p2)), .second, .val (.ref r1), .val (.ref r2)] [(.int (1 : Int32))])) _
    refine XS.ifYes X16.here hx rfl (pc0 := 31) (pc' := 36) rfl (hb hby at_31) rfl ((if0 _ _).trans (feq (by decide : ¬ ((1 : Int32) = (0 : Int32)))).2) (by decide) (by decide) ?_
    show Steps p.tables e below (T16.setTop (mkF m 36 #[.val (.long p1), .second, .val (.long p2), .second, .val (.long (own_pos p1)), .second, .val (.long (own_pos p2)), .second, .val (.ref r1), .val (.ref r2)] [])) _
    refine XS.aload X16.here hx rfl (hb hby at_36) rfl rfl ?_
    exact k)
  obtain ⟨cI19, kI19, q19a, q19b, q19c⟩ := isOf hZ eq3 xa2
  have pre20 : ∀ t, Steps p.tables e below (T16.setTop (mkF m 38 #[.val (.long p1), .second, .val (.long p2), .second, .val (.long (own_pos p1)), .second, .val (.long (own_pos p2)), .second, .val (.ref r1), .val (.ref r2)] [(.ref r2)])) t → Steps p.tables e below (s₁.setTop (entryFrame m #[(.long p1), (.long p2)] maxLocals)) t := fun t k => pre18 t (by
    exact k)
  obtain ⟨_, _, ⟨T21, L21, k21, n21⟩, -, X21, ⟨Lc21, hQ21, l21, y21, z21⟩, st21⟩ := X16.virtualBack hx (y := (⟨"com/example/lease_lock/leaselock/StoreGrant", "isGranted", "()Z"⟩ : MethodName)) (z := (⟨"com/example/lease_lock/leaselock/StoreGrant", "isGranted", "()Z"⟩ : MethodName)) hown (mvT hZ (hw _ (List.mem_of_getElem? (i := 23) rfl))) (mvT hZ (hw _ (List.mem_of_getElem? (i := 24) rfl))) (notFace_of_selects (args := #[]) (mvT hZ (hw _ (List.mem_of_getElem? (i := 26) rfl)))) (mvT hZ (hw _ (List.mem_of_getElem? (i := 26) rfl))) (mvT hZ (hw _ (List.mem_of_getElem? (i := 25) rfl))) (by decide) (backOf (W := 0) (rmZ l Z a0 hw [] r2 T11.heap n0 sz11 fg2) hZ (hw _ (List.mem_of_getElem? (i := 27) rfl)) (hw _ (List.mem_of_getElem? (i := 7) rfl)) (by decide) (by decide)) q19a q19c (g := (mkF m 38 #[.val (.long p1), .second, .val (.long p2), .second, .val (.long (own_pos p1)), .second, .val (.long (own_pos p2)), .second, .val (.ref r1), .val (.ref r2)] [(.ref r2)])) rfl (by rw [hml]; rfl) (Steps.refl _) (argsL := []) (rest := []) (lenOf pd___Z rfl) rfl (by show 2 * 0 + _ ≤ _; exact Nat.le_of_eq rfl) (hb hby at_38) (fun _ _ => ⟨rfl, eq3, (by decide : 0 + 0 + 0 + 1 + 1 + 0 + 0 ≤ _), (by decide : 0 + 0 + 0 + 3 + 3 + 0 + 0 ≤ _)⟩)
  dsimp only [Pt.U, Pt.locs, Pt.cells, Pt.slots] at X21 l21 y21 z21 st21 hQ21
  subst l21 y21 z21
  obtain ⟨rfl, N21q, eq4⟩ := hQ21
  have N21 := Fr.app N16 N21q
  have pre22 : ∀ t, Steps p.tables e below (T21.setTop (mkF m 41 #[.val (.long p1), .second, .val (.long p2), .second, .val (.long (own_pos p1)), .second, .val (.long (own_pos p2)), .second, .val (.ref r1), .val (.ref r2)] [(.int (1 : Int32))])) t → Steps p.tables e below (s₁.setTop (entryFrame m #[(.long p1), (.long p2)] maxLocals)) t := fun t k => pre20 t (st21.trans k)
  have pre23 : ∀ t, Steps p.tables e below (T21.setTop (mkF m 48 #[.val (.long p1), .second, .val (.long p2), .second, .val (.long (own_pos p1)), .second, .val (.long (own_pos p2)), .second, .val (.ref r1), .val (.ref r2)] [(.ref r1)])) t → Steps p.tables e below (s₁.setTop (entryFrame m #[(.long p1), (.long p2)] maxLocals)) t := fun t k => pre22 t (by
    show Steps p.tables e below (T21.setTop (mkF m 41 #[.val (.long p1), .second, .val (.long p2), .second, .val (.long (own_pos p1)), .second, .val (.long (own_pos p2)), .second, .val (.ref r1), .val (.ref r2)] [(.int (1 : Int32))])) _
    refine XS.ifYes X21.here hx rfl (pc0 := 41) (pc' := 46) rfl (hb hby at_41) rfl ((if0 _ _).trans (feq (by decide : ¬ ((1 : Int32) = (0 : Int32)))).2) (by decide) (by decide) ?_
    show Steps p.tables e below (T21.setTop (mkF m 46 #[.val (.long p1), .second, .val (.long p2), .second, .val (.long (own_pos p1)), .second, .val (.long (own_pos p2)), .second, .val (.ref r1), .val (.ref r2)] [])) _
    refine XS.aload X21.here hx rfl (hb hby at_46) rfl rfl ?_
    exact k)
  obtain ⟨cI24, kI24, q24a, q24b, q24c⟩ := isOf hZ eq4 xa1_e11
  have pre25 : ∀ t, Steps p.tables e below (T21.setTop (mkF m 48 #[.val (.long p1), .second, .val (.long p2), .second, .val (.long (own_pos p1)), .second, .val (.long (own_pos p2)), .second, .val (.ref r1), .val (.ref r2)] [(.ref r1)])) t → Steps p.tables e below (s₁.setTop (entryFrame m #[(.long p1), (.long p2)] maxLocals)) t := fun t k => pre23 t (by
    exact k)
  obtain ⟨_, _, ⟨T26, L26, k26, n26⟩, -, X26, ⟨Lc26, hQ26, l26, y26, z26⟩, st26⟩ := X21.virtualBack hx (y := (⟨"com/example/lease_lock/leaselock/StoreGrant", "fencingToken", "()J"⟩ : MethodName)) (z := (⟨"com/example/lease_lock/leaselock/StoreGrant", "fencingToken", "()J"⟩ : MethodName)) hown (mvT hZ (hw _ (List.mem_of_getElem? (i := 28) rfl))) (mvT hZ (hw _ (List.mem_of_getElem? (i := 29) rfl))) (notFace_of_selects (args := #[]) (mvT hZ (hw _ (List.mem_of_getElem? (i := 31) rfl)))) (mvT hZ (hw _ (List.mem_of_getElem? (i := 31) rfl))) (mvT hZ (hw _ (List.mem_of_getElem? (i := 30) rfl))) (by decide) (backOf (W := 0) (rmF l Z a0 hw [] r1 (own_pos p1) T11.heap n0 sz11 ft1_e11) hZ (hw _ (List.mem_of_getElem? (i := 32) rfl)) (hw _ (List.mem_of_getElem? (i := 7) rfl)) (by decide) (by decide)) q24a q24c (g := (mkF m 48 #[.val (.long p1), .second, .val (.long p2), .second, .val (.long (own_pos p1)), .second, .val (.long (own_pos p2)), .second, .val (.ref r1), .val (.ref r2)] [(.ref r1)])) rfl (by rw [hml]; rfl) (Steps.refl _) (argsL := []) (rest := []) (lenOf pd___J rfl) rfl (by show 2 * 0 + _ ≤ _; exact Nat.le_of_eq rfl) (hb hby at_48) (fun _ _ => ⟨rfl, eq4, (by decide : 0 + 0 + 0 + 1 + 1 + 0 + 0 + 0 ≤ _), (by decide : 0 + 0 + 0 + 3 + 3 + 0 + 0 + 0 ≤ _)⟩)
  dsimp only [Pt.U, Pt.locs, Pt.cells, Pt.slots] at X26 l26 y26 z26 st26 hQ26
  subst l26 y26 z26
  obtain ⟨rfl, N26q, eq5⟩ := hQ26
  have N26 := Fr.app N21 N26q
  have pre27 : ∀ t, Steps p.tables e below (T26.setTop (mkF m 51 #[.val (.long p1), .second, .val (.long p2), .second, .val (.long (own_pos p1)), .second, .val (.long (own_pos p2)), .second, .val (.ref r1), .val (.ref r2)] [(.long (own_pos p1))])) t → Steps p.tables e below (s₁.setTop (entryFrame m #[(.long p1), (.long p2)] maxLocals)) t := fun t k => pre25 t (st26.trans k)
  have pre28 : ∀ t, Steps p.tables e below (T26.setTop (mkF m 61 #[.val (.long p1), .second, .val (.long p2), .second, .val (.long (own_pos p1)), .second, .val (.long (own_pos p2)), .second, .val (.ref r1), .val (.ref r2)] [(.ref r2)])) t → Steps p.tables e below (s₁.setTop (entryFrame m #[(.long p1), (.long p2)] maxLocals)) t := fun t k => pre27 t (by
    show Steps p.tables e below (T26.setTop (mkF m 51 #[.val (.long p1), .second, .val (.long p2), .second, .val (.long (own_pos p1)), .second, .val (.long (own_pos p2)), .second, .val (.ref r1), .val (.ref r2)] [(.long (own_pos p1))])) _
    refine XS.lload X26.here hx rfl (hb hby at_51) rfl ?_
    show Steps p.tables e below (T26.setTop (mkF m 53 #[.val (.long p1), .second, .val (.long p2), .second, .val (.long (own_pos p1)), .second, .val (.long (own_pos p2)), .second, .val (.ref r1), .val (.ref r2)] [(.long (own_pos p1)), (.long (own_pos p1))])) _
    refine XS.lcmp X26.here hx rfl (hb hby at_53) rfl ?_
    show Steps p.tables e below (T26.setTop (mkF m 54 #[.val (.long p1), .second, .val (.long p2), .second, .val (.long (own_pos p1)), .second, .val (.long (own_pos p2)), .second, .val (.ref r1), .val (.ref r2)] [(.int (lcmpW (own_pos p1) (own_pos p1)))])) _
    refine XS.ifYes X26.here hx rfl (pc0 := 54) (pc' := 59) rfl (hb hby at_54) rfl ((if0 _ _).trans (teq ((lw_eq _ _).mpr rfl)).1) (by decide) (by decide) ?_
    show Steps p.tables e below (T26.setTop (mkF m 59 #[.val (.long p1), .second, .val (.long p2), .second, .val (.long (own_pos p1)), .second, .val (.long (own_pos p2)), .second, .val (.ref r1), .val (.ref r2)] [])) _
    refine XS.aload X26.here hx rfl (hb hby at_59) rfl rfl ?_
    exact k)
  obtain ⟨cI29, kI29, q29a, q29b, q29c⟩ := isOf hZ eq5 xa2
  have pre30 : ∀ t, Steps p.tables e below (T26.setTop (mkF m 61 #[.val (.long p1), .second, .val (.long p2), .second, .val (.long (own_pos p1)), .second, .val (.long (own_pos p2)), .second, .val (.ref r1), .val (.ref r2)] [(.ref r2)])) t → Steps p.tables e below (s₁.setTop (entryFrame m #[(.long p1), (.long p2)] maxLocals)) t := fun t k => pre28 t (by
    exact k)
  obtain ⟨_, _, ⟨T31, L31, k31, n31⟩, -, X31, ⟨Lc31, hQ31, l31, y31, z31⟩, st31⟩ := X26.virtualBack hx (y := (⟨"com/example/lease_lock/leaselock/StoreGrant", "fencingToken", "()J"⟩ : MethodName)) (z := (⟨"com/example/lease_lock/leaselock/StoreGrant", "fencingToken", "()J"⟩ : MethodName)) hown (mvT hZ (hw _ (List.mem_of_getElem? (i := 28) rfl))) (mvT hZ (hw _ (List.mem_of_getElem? (i := 29) rfl))) (notFace_of_selects (args := #[]) (mvT hZ (hw _ (List.mem_of_getElem? (i := 31) rfl)))) (mvT hZ (hw _ (List.mem_of_getElem? (i := 31) rfl))) (mvT hZ (hw _ (List.mem_of_getElem? (i := 30) rfl))) (by decide) (backOf (W := 0) (rmF l Z a0 hw [] r2 (own_pos p2) T11.heap n0 sz11 ft2) hZ (hw _ (List.mem_of_getElem? (i := 32) rfl)) (hw _ (List.mem_of_getElem? (i := 7) rfl)) (by decide) (by decide)) q29a q29c (g := (mkF m 61 #[.val (.long p1), .second, .val (.long p2), .second, .val (.long (own_pos p1)), .second, .val (.long (own_pos p2)), .second, .val (.ref r1), .val (.ref r2)] [(.ref r2)])) rfl (by rw [hml]; rfl) (Steps.refl _) (argsL := []) (rest := []) (lenOf pd___J rfl) rfl (by show 2 * 0 + _ ≤ _; exact Nat.le_of_eq rfl) (hb hby at_61) (fun _ _ => ⟨rfl, eq5, (by decide : 0 + 0 + 0 + 1 + 1 + 0 + 0 + 0 + 0 ≤ _), (by decide : 0 + 0 + 0 + 3 + 3 + 0 + 0 + 0 + 0 ≤ _)⟩)
  dsimp only [Pt.U, Pt.locs, Pt.cells, Pt.slots] at X31 l31 y31 z31 st31 hQ31
  subst l31 y31 z31
  obtain ⟨rfl, N31q, eq6⟩ := hQ31
  have N31 := Fr.app N26 N31q
  have pre32 : ∀ t, Steps p.tables e below (T31.setTop (mkF m 64 #[.val (.long p1), .second, .val (.long p2), .second, .val (.long (own_pos p1)), .second, .val (.long (own_pos p2)), .second, .val (.ref r1), .val (.ref r2)] [(.long (own_pos p2))])) t → Steps p.tables e below (s₁.setTop (entryFrame m #[(.long p1), (.long p2)] maxLocals)) t := fun t k => pre30 t (st31.trans k)
  have pre33 : ∀ t, Steps p.tables e below (T31.setTop (mkF m 73 #[.val (.long p1), .second, .val (.long p2), .second, .val (.long (own_pos p1)), .second, .val (.long (own_pos p2)), .second, .val (.ref r1), .val (.ref r2)] [(.int (1 : Int32))])) t → Steps p.tables e below (s₁.setTop (entryFrame m #[(.long p1), (.long p2)] maxLocals)) t := fun t k => pre32 t (by
    show Steps p.tables e below (T31.setTop (mkF m 64 #[.val (.long p1), .second, .val (.long p2), .second, .val (.long (own_pos p1)), .second, .val (.long (own_pos p2)), .second, .val (.ref r1), .val (.ref r2)] [(.long (own_pos p2))])) _
    refine XS.lload X31.here hx rfl (hb hby at_64) rfl ?_
    show Steps p.tables e below (T31.setTop (mkF m 66 #[.val (.long p1), .second, .val (.long p2), .second, .val (.long (own_pos p1)), .second, .val (.long (own_pos p2)), .second, .val (.ref r1), .val (.ref r2)] [(.long (own_pos p2)), (.long (own_pos p2))])) _
    refine XS.lcmp X31.here hx rfl (hb hby at_66) rfl ?_
    show Steps p.tables e below (T31.setTop (mkF m 67 #[.val (.long p1), .second, .val (.long p2), .second, .val (.long (own_pos p1)), .second, .val (.long (own_pos p2)), .second, .val (.ref r1), .val (.ref r2)] [(.int (lcmpW (own_pos p2) (own_pos p2)))])) _
    refine XS.ifYes X31.here hx rfl (pc0 := 67) (pc' := 72) rfl (hb hby at_67) rfl ((if0 _ _).trans (teq ((lw_eq _ _).mpr rfl)).1) (by decide) (by decide) ?_
    show Steps p.tables e below (T31.setTop (mkF m 72 #[.val (.long p1), .second, .val (.long p2), .second, .val (.long (own_pos p1)), .second, .val (.long (own_pos p2)), .second, .val (.ref r1), .val (.ref r2)] [])) _
    refine XS.iconst X31.here hx rfl (hb hby at_72) ?_
    exact k)
  obtain ⟨fs, hr, hrun, hended, hW, hsame⟩ := X31.leave (v := some (.int (1 : Int32))) (fun h => by rw [Bd.returns] at h; cases h)
  refine ⟨_, _, pre33 _ ?_, hrun, hended, _, _, rfl, ?_, ⟨_, rfl⟩, hW, hsame.mono (by decide) (by decide)⟩
  · exact retN X31 hx (t := .boolean) Bd.returns (by simp) (hb hby at_73) hr
  · exact ⟨rfl, N31⟩
set_option maxRecDepth 65536 in
set_option maxHeartbeats 40000000 in
theorem comes_1 {Post : Tables → Env → Array Value → State → Outcome → State → Prop} (hpost : ∀ tb e args s v u, (limb_1_1.after args s (.returned v) u = true ∧ limb_1_2.after args s (.returned v) u = true ∧ True) → FrameEnd s (.returned v) u (Jvm.fieldLocs frame_1_writes args s ++ Jvm.arrayLocs frame_1_arrays args s ++ Jvm.staticLocs frame_1_statics s) 16 128 → Post tb e args s (.returned v) u) :
    ArmFor flags0 classFile x code maxLocals ret World_1 tables_1 room_1 Calls_1 rest_1 Pre_1 Post := by
  intro l hfl _ _ p e ha hc hk s m args below hf hA hF happ hP
  obtain ⟨hcalls, hrest, hpre⟩ := hP
  obtain ⟨-, -, -, hnamed, -, -, -, hat⟩ := (Spec.applies_iff hf).mp happ
  obtain ⟨hg, hn⟩ := and_e (Cond.before_iff.mp (show (Jvm.Cond.and given_1 narrow_1).before args s = true from hpre))
  obtain ⟨gc, gr0⟩ := and_e hg
  obtain ⟨ga0, gr1⟩ := and_e gr0
  obtain ⟨w0, w1, rfl⟩ : ∃ w0 w1 : Value, args = #[w0, w1] := by
    have hs : args.size = 2 := by simpa [Cond.value, given_1] using gc
    obtain ⟨L⟩ := args
    match L, hs with
    | [w0, w1], _ => exact ⟨w0, w1, rfl⟩
  have hw := fun d (hd : d ∈ tables_1) => atoms_spec (ws := Jvm.Cond.code x code maxLocals ret :: tables_1) hat d (List.mem_cons_of_mem _ hd)
  obtain ⟨i0, ei0⟩ := isL_v ga0
  obtain rfl : w0 = (.long i0) := Option.some.inj ei0
  obtain ⟨i1, ei1⟩ := isL_v gr1
  obtain rfl : w1 = (.long i1) := Option.some.inj ei1
  obtain ⟨n, o, h1, h2, h3, _, L, rfl, ⟨rfl, N⟩, hq⟩ := rm0 l s _ hw tables_1 i0 i1 s.heap s.heap.size (Nat.le_refl _) p e ha hc hk s m _ below hf ((Spec.applies_iff_loose hf).mp happ).1 ⟨rfl, State.Warmed39.refl s, rfl⟩ trivial
  refine ⟨n, _, h1, h2, h3, hpost _ _ _ _ _ _ ⟨Cond.after_iff.mpr rfl, Cond.after_iff.mpr (eq_i res_at (Term.int_eval (1)) rfl), trivial⟩ ⟨hq.1, hq.2.1, (hq.2.2.sift fun y hy => Or.inr (N y hy)).mono (by decide) (by decide)⟩⟩
theorem main_1_1 : Claimed_1_1 := comes_1 fun _ _ _ _ _ _ h hF => ⟨h.1, hF⟩
theorem main_1_2 : Claimed_1_2 := comes_1 fun _ _ _ _ _ _ h hF => ⟨h.2.1, hF⟩
end Jvm.Pilot.@@N@@
namespace Jvm.Pilot.@@N@@
open Jvm Jvm.ClassFile Sem Op Lib Jvm.Free Jvm.Stand Jvm.Pilot.@@N@@.Jvm.D
/-! MADE BY PROGRAM (witnessworld.py) out of the Statement's table words and the real class files: 9 classes; the members and pool entries that the words name. The judged class is class 1, her method 2. -/
namespace start1
open Jvm.ClassFile
def u (s : String) : CpInfo := .utf8 (stringToUtf16 s)
/-- a pool by its gaps: so many unusable entries, then the entry; so many at the end -/
def gap : Nat → List CpInfo → List CpInfo
  | 0, r => r
  | n + 1, r => .unusable :: gap n r
def poolList (es : List (Nat × CpInfo)) (last : Nat) : List CpInfo := es.foldr (fun e r => gap e.1 (e.2 :: r)) (gap last [])
def pool (es : List (Nat × CpInfo)) (last : Nat) : Array CpInfo := ⟨poolList es last⟩
def fileOf (pool : Array CpInfo) (this : Nat) (attrs : Array Attribute := #[]) (ms : Array MethodInfo := #[]) (fl : Nat := 33) (sup : Nat := 0) (ifs : Array Nat := #[]) (fds : Array FieldInfo := #[]) : ClassFile where
  minorVersion := 0
  majorVersion := 65
  constantPool := pool
  accessFlags := fl
  thisClass := this
  superClass := sup
  interfaces := ifs
  fields := fds
  methods := ms
  attributes := attrs
def plain (name : String) (sup : Option ClassId) : Class where
  name := name
  kind := .ordinary
  loader := none
  accessFlags := 33
  super := sup
  interfaces := #[]
  cf := none
  fields := #[]
  methods := #[]
  instanceTypes := #[]
  staticTypes := #[]
  resolved := #[]
  callSites := []
  init := .initialized
  statics := none
  mirror := none

def pool0 : Array CpInfo := pool [(5, u "<init>"), (0, u "()V"), (1, .class_ 10), (1, u "java/lang/Object")] 113

def k0c0 : Code := { maxStack := 0, maxLocals := 1, code := object_method_1_code, exceptionTable := #[], attributes := #[] }
def k0m0 : Method := { name := "<init>", desc := "()V", sig := { parameters := [], returnType := none }, accessFlags := 1, code := some k0c0 }
/-- java/lang/Object -/
def k0 : Class := { plain "java/lang/Object" none with
  accessFlags := 33
  interfaces := #[]
  cf := some (fileOf pool0 8 #[] #[{ accessFlags := 1, nameIndex := 5, descriptorIndex := 6, attributes := #[] }] 33 0 #[] #[])
  fields := #[]
  methods := #[k0m0]
  instanceTypes := #[]
  staticTypes := #[]
  resolved := Array.replicate 124 none
  statics := none }

def pool1 : Array CpInfo := pool [(2, .class_ 4), (1, u "java/lang/Object"), (0, u "<init>"), (0, u "()V"), (2, .long 9223372036854775807), (1, .methodref 12 13), (0, .class_ 14), (0, .nameAndType 15 16), (0, u "com/example/lease_lock/leaselock/StoreGrantGrantedPinLaw"), (0, u "positive"), (0, u "(J)J"), (0, .methodref 18 19), (0, .class_ 20), (0, .nameAndType 21 22), (0, u "com/example/lease_lock/leaselock/StoreGrant"), (0, u "granted"), (0, u "(J)Lcom/example/lease_lock/leaselock/StoreGrant;"), (0, .methodref 18 24), (0, .nameAndType 25 26), (0, u "isGranted"), (0, u "()Z"), (0, .methodref 18 28), (0, .nameAndType 29 30), (0, u "fencingToken"), (0, u "()J"), (3, u "law"), (0, u "(JJ)Z")] 2

def k1m0 : Method := { name := "<init>", desc := "()V", sig := { parameters := [], returnType := none }, accessFlags := 2, code := none }
def k1c1 : Code := { maxStack := 4, maxLocals := 4, code := method_2_code, exceptionTable := #[], attributes := #[] }
def k1m1 : Method := { name := "positive", desc := "(J)J", sig := { parameters := [.long], returnType := some .long }, accessFlags := 10, code := some k1c1 }
def k1c2 : Code := { maxStack := 4, maxLocals := 10, code := code, exceptionTable := #[], attributes := #[] }
def k1m2 : Method := { name := "law", desc := "(JJ)Z", sig := { parameters := [.long, .long], returnType := some .boolean }, accessFlags := 9, code := some k1c2 }
/-- com/example/lease_lock/leaselock/StoreGrantGrantedPinLaw -/
def k1 : Class := { plain "com/example/lease_lock/leaselock/StoreGrantGrantedPinLaw" (some 0) with
  accessFlags := 49
  interfaces := #[]
  cf := some (fileOf pool1 12 #[] #[{ accessFlags := 2, nameIndex := 5, descriptorIndex := 6, attributes := #[] }, { accessFlags := 10, nameIndex := 15, descriptorIndex := 16, attributes := #[] }, { accessFlags := 9, nameIndex := 34, descriptorIndex := 35, attributes := #[] }] 49 2 #[] #[])
  fields := #[]
  methods := #[k1m0, k1m1, k1m2]
  instanceTypes := #[]
  staticTypes := #[]
  resolved := Array.replicate 38 none
  statics := none }

def pool2 : Array CpInfo := pool [(1, .methodref 2 3), (0, .class_ 4), (0, .nameAndType 5 6), (0, u "java/lang/Object"), (0, u "<init>"), (0, u "()V"), (0, .fieldref 8 9), (0, .class_ 10), (0, .nameAndType 11 12), (0, u "com/example/lease_lock/leaselock/StoreGrant"), (0, u "granted"), (0, u "Z"), (0, .fieldref 8 14), (0, .nameAndType 15 16), (0, u "fencingToken"), (0, u "J"), (0, .fieldref 8 18), (0, .nameAndType 19 20), (0, u "heldFor"), (0, u "Ljava/time/Duration;"), (9, .methodref 8 31), (0, .nameAndType 5 32), (0, u "(ZJLjava/time/Duration;)V"), (2, u "GRANTED_WITHOUT_FENCING_NUMBER"), (0, u "Lcom/example/lease_lock/leaselock/StoreGrant;"), (12, u "()Z"), (11, u "REFUSED_FOR_AN_UNKNOWN_TIME"), (8, u "(J)Lcom/example/lease_lock/leaselock/StoreGrant;"), (4, u "isGranted"), (0, u "()J")] 23

def k2c0 : Code := { maxStack := 3, maxLocals := 5, code := prog_11_method_1_code, exceptionTable := #[], attributes := #[] }
def k2m0 : Method := { name := "<init>", desc := "(ZJLjava/time/Duration;)V", sig := { parameters := [.boolean, .long, (.object "java/time/Duration")], returnType := none }, accessFlags := 2, code := some k2c0 }
def k2c1 : Code := { maxStack := 6, maxLocals := 2, code := prog_11_method_2_code, exceptionTable := #[], attributes := #[] }
def k2m1 : Method := { name := "granted", desc := "(J)Lcom/example/lease_lock/leaselock/StoreGrant;", sig := { parameters := [.long], returnType := some (.object "com/example/lease_lock/leaselock/StoreGrant") }, accessFlags := 9, code := some k2c1 }
def k2c2 : Code := { maxStack := 1, maxLocals := 1, code := prog_11_method_6_code, exceptionTable := #[], attributes := #[] }
def k2m2 : Method := { name := "isGranted", desc := "()Z", sig := { parameters := [], returnType := some .boolean }, accessFlags := 1, code := some k2c2 }
def k2c3 : Code := { maxStack := 2, maxLocals := 1, code := prog_11_method_7_code, exceptionTable := #[], attributes := #[] }
def k2m3 : Method := { name := "fencingToken", desc := "()J", sig := { parameters := [], returnType := some .long }, accessFlags := 1, code := some k2c3 }
/-- com/example/lease_lock/leaselock/StoreGrant -/
def k2 : Class := { plain "com/example/lease_lock/leaselock/StoreGrant" (some 0) with
  accessFlags := 49
  interfaces := #[]
  cf := some (fileOf pool2 8 #[] #[{ accessFlags := 2, nameIndex := 5, descriptorIndex := 32, attributes := #[] }, { accessFlags := 9, nameIndex := 11, descriptorIndex := 70, attributes := #[] }, { accessFlags := 1, nameIndex := 75, descriptorIndex := 49, attributes := #[] }, { accessFlags := 1, nameIndex := 15, descriptorIndex := 76, attributes := #[] }] 49 2 #[] #[{ accessFlags := 26, nameIndex := 35, descriptorIndex := 36, attributes := #[] }, { accessFlags := 26, nameIndex := 61, descriptorIndex := 36, attributes := #[] }, { accessFlags := 18, nameIndex := 11, descriptorIndex := 12, attributes := #[] }, { accessFlags := 18, nameIndex := 15, descriptorIndex := 16, attributes := #[] }, { accessFlags := 18, nameIndex := 19, descriptorIndex := 20, attributes := #[] }])
  fields := #[{ name := "GRANTED_WITHOUT_FENCING_NUMBER", type := (.object "com/example/lease_lock/leaselock/StoreGrant"), accessFlags := 26, slot := 0, constantValue := 0 }, { name := "REFUSED_FOR_AN_UNKNOWN_TIME", type := (.object "com/example/lease_lock/leaselock/StoreGrant"), accessFlags := 26, slot := 1, constantValue := 0 }, { name := "granted", type := .boolean, accessFlags := 18, slot := 0, constantValue := 0 }, { name := "fencingToken", type := .long, accessFlags := 18, slot := 1, constantValue := 0 }, { name := "heldFor", type := (.object "java/time/Duration"), accessFlags := 18, slot := 2, constantValue := 0 }]
  methods := #[k2m0, k2m1, k2m2, k2m3]
  instanceTypes := #[.boolean, .long, (.object "java/time/Duration")]
  staticTypes := #[(.object "com/example/lease_lock/leaselock/StoreGrant"), (.object "com/example/lease_lock/leaselock/StoreGrant")]
  resolved := Array.replicate 100 none
  statics := none }

def pool3 : Array CpInfo := pool [(1, u "java/lang/Cloneable"), (0, .class_ 1), (0, u "java/lang/Object"), (0, .class_ 3)] 3

/-- java/lang/Cloneable -/
def k3 : Class := { plain "java/lang/Cloneable" (some 0) with
  accessFlags := 1537
  interfaces := #[]
  cf := some (fileOf pool3 2 #[] #[] 1537 4 #[] #[])
  fields := #[]
  methods := #[]
  instanceTypes := #[]
  staticTypes := #[]
  resolved := Array.replicate 8 none
  statics := none }

def pool4 : Array CpInfo := pool [(1, u "java/io/Serializable"), (0, .class_ 1), (0, u "java/lang/Object"), (0, .class_ 3)] 3

/-- java/io/Serializable -/
def k4 : Class := { plain "java/io/Serializable" (some 0) with
  accessFlags := 1537
  interfaces := #[]
  cf := some (fileOf pool4 2 #[] #[] 1537 4 #[] #[])
  fields := #[]
  methods := #[]
  instanceTypes := #[]
  staticTypes := #[]
  resolved := Array.replicate 8 none
  statics := none }

/-- the primitive byte -/
def k5 : Class := { plain "byte" none with kind := .primitive 'B', accessFlags := 0x411 }
/-- [B -/
def k6 : Class := { plain "[B" (some 0) with kind := .array 5 .byte, interfaces := #[3, 4], accessFlags := 1041 }

/-- the primitive int -/
def k7 : Class := { plain "int" none with kind := .primitive 'I', accessFlags := 0x411 }
/-- [I -/
def k8 : Class := { plain "[I" (some 0) with kind := .array 7 .int, interfaces := #[3, 4], accessFlags := 1041 }

def heap : Heap := #[]
def classes : Array Class := #[k0, k1, k2, k3, k4, k5, k6, k7, k8]
def interned : List (Array UInt16 × Addr) := []
def slotsUsed : Nat := 0
def theMethod : MethodId := ⟨1, 2⟩
def args0 : Array Value := #[.long 5, .long 7]
def aboutOver (below : List Frame) : State where
  vm := { classes := classes, interned := interned.toArray }
  heap := heap
  slotsUsed := slotsUsed
  threads := #[{ frames := .invoking theMethod args0 :: below }]
def below0 : List Frame := [.native { method := ⟨0, 0⟩, args := #[] }]
def about1 : State := aboutOver below0
def p0 : Program := .bare "" "" ""
def e0 : Env := launch0.env 0 0 0
theorem w_frames : about1.frames = Frame.invoking theMethod args0 :: below0 := rfl
set_option maxRecDepth 65536 in
theorem w_args : argsFit about1.vm theMethod args0 = true := by decide +kernel
set_option maxRecDepth 65536 in
theorem w_heap : heapFits about1 = true := by decide +kernel
set_option maxRecDepth 65536 in
theorem w_runnable : about1.curStatus? = some .runnable := by decide +kernel
set_option maxRecDepth 65536 in
theorem w_alone : about1.alone = true := by decide +kernel
set_option maxRecDepth 65536 in
theorem w_named : about1.methodNamed? x = some theMethod := by decide +kernel
set_option maxRecDepth 65536 in
theorem w_hears : about1.hears theMethod below0 = true := by decide +kernel
set_option maxRecDepth 65536 in
theorem w_ripe : about1.ripe theMethod args0 below0 = true := by decide +kernel
theorem w_running : about1.status = .running := rfl
set_option maxRecDepth 65536 in
theorem w_room : about1.hasRoom e0.platform room_1 = true :=
  launch0.hasRoom_least _ room_1 (by decide +kernel) (by decide +kernel) (by decide +kernel) (by decide +kernel) (by decide +kernel) (by decide +kernel)
theorem allAtoms_all (ts : List Jvm.Cond) (a : Array Jvm.Value) (st : Jvm.State) : (allAtoms ts).before a st = ts.all (fun c => c.before a st) := by
  induction ts with
  | nil => rfl
  | cons c t ih =>
    show (Jvm.Cond.and c (allAtoms t)).before a st = _
    rw [Jvm.Cond.before_and, ih, List.all_cons]
def words1 : List Jvm.Cond := Jvm.Cond.code x code maxLocals ret :: tables_1
/-- a 'code' word, met by the world's own term for the bytes: nothing is compared byte by byte -/
theorem code_word {y : MethodName} {bytes : ByteArray} {mx : Nat} {rt : Option FieldType} {a : Array Value} {s : State} {m : MethodId} {meth : Method} {c : Code} (h1 : s.methodNamed? y = some m) (h2 : s.vm.method? m = some meth) (h3 : meth.code = some c) (h4 : c.code = bytes)
    (h5 : (c.maxLocals == mx && c.exceptionTable.isEmpty && decide (c.maxStack ≤ mostOperands) && decide (meth.sig.returnType = rt) && !meth.locks && decide (parseMethodDescriptor y.desc = some meth.sig)) = true) : (Jvm.Cond.code y bytes mx rt).before a s = true := by
  simp only [Bool.and_eq_true, beq_iff_eq, Bool.not_eq_true', decide_eq_true_eq] at h5
  obtain ⟨⟨⟨⟨⟨g1, g2⟩, g3⟩, g4⟩, g5⟩, g6⟩ := h5
  simp [Cond.before, Cond.holds, Cond.value, h1, h2, h3, h4, g1, g2, g3, g4, g5, g6]
def isCode : Jvm.Cond → Bool
  | .code _ _ _ _ => true
  | _ => false
theorem all_split {L : List Jvm.Cond} {P : Jvm.Cond → Bool} (h1 : L.all (fun c => isCode c || P c) = true) (h2 : ∀ c ∈ L.filter isCode, P c = true) : L.all P = true := by
  refine List.all_eq_true.mpr fun c hc => ?_
  have h := List.all_eq_true.mp h1 c hc
  rcases Bool.eq_false_or_eq_true (isCode c) with hi | hi
  · exact h2 c (List.mem_filter.mpr ⟨hc, hi⟩)
  · simpa [hi] using h
set_option maxRecDepth 65536 in
theorem w_c0 : (Jvm.Cond.code x code maxLocals ret).before args0 about1 = true := code_word (m := ⟨1, 2⟩) (meth := k1m2) (c := k1c2) (by decide +kernel) rfl rfl rfl (by decide +kernel)
set_option maxRecDepth 65536 in
theorem w_c1 : (Jvm.Cond.code ({ cls := "com/example/lease_lock/leaselock/StoreGrantGrantedPinLaw", name := "positive", desc := "(J)J" } : Jvm.MethodName) method_2_code (4 : Nat) (Option.some Jvm.ClassFile.FieldType.long)).before args0 about1 = true := code_word (m := ⟨1, 1⟩) (meth := k1m1) (c := k1c1) (by decide +kernel) rfl rfl rfl (by decide +kernel)
set_option maxRecDepth 65536 in
theorem w_c2 : (Jvm.Cond.code ({ cls := "com/example/lease_lock/leaselock/StoreGrant", name := "granted", desc := "(J)Lcom/example/lease_lock/leaselock/StoreGrant;" } : Jvm.MethodName) prog_11_method_2_code (2 : Nat) (Option.some (Jvm.ClassFile.FieldType.object "com/example/lease_lock/leaselock/StoreGrant"))).before args0 about1 = true := code_word (m := ⟨2, 1⟩) (meth := k2m1) (c := k2c1) (by decide +kernel) rfl rfl rfl (by decide +kernel)
set_option maxRecDepth 65536 in
theorem w_c3 : (Jvm.Cond.code ({ cls := "com/example/lease_lock/leaselock/StoreGrant", name := "<init>", desc := "(ZJLjava/time/Duration;)V" } : Jvm.MethodName) prog_11_method_1_code (5 : Nat) (Option.none : Option Jvm.ClassFile.FieldType)).before args0 about1 = true := code_word (m := ⟨2, 0⟩) (meth := k2m0) (c := k2c0) (by decide +kernel) rfl rfl rfl (by decide +kernel)
set_option maxRecDepth 65536 in
theorem w_c4 : (Jvm.Cond.code ({ cls := "java/lang/Object", name := "<init>", desc := "()V" } : Jvm.MethodName) object_method_1_code (1 : Nat) (Option.none : Option Jvm.ClassFile.FieldType)).before args0 about1 = true := code_word (m := ⟨0, 0⟩) (meth := k0m0) (c := k0c0) (by decide +kernel) rfl rfl rfl (by decide +kernel)
set_option maxRecDepth 65536 in
theorem w_c5 : (Jvm.Cond.code ({ cls := "com/example/lease_lock/leaselock/StoreGrant", name := "isGranted", desc := "()Z" } : Jvm.MethodName) prog_11_method_6_code (1 : Nat) (Option.some Jvm.ClassFile.FieldType.boolean)).before args0 about1 = true := code_word (m := ⟨2, 2⟩) (meth := k2m2) (c := k2c2) (by decide +kernel) rfl rfl rfl (by decide +kernel)
set_option maxRecDepth 65536 in
theorem w_c6 : (Jvm.Cond.code ({ cls := "com/example/lease_lock/leaselock/StoreGrant", name := "fencingToken", desc := "()J" } : Jvm.MethodName) prog_11_method_7_code (1 : Nat) (Option.some Jvm.ClassFile.FieldType.long)).before args0 about1 = true := code_word (m := ⟨2, 3⟩) (meth := k2m3) (c := k2c3) (by decide +kernel) rfl rfl rfl (by decide +kernel)
def codes1 : List Jvm.Cond := [Jvm.Cond.code x code maxLocals ret, Jvm.Cond.code ({ cls := "com/example/lease_lock/leaselock/StoreGrantGrantedPinLaw", name := "positive", desc := "(J)J" } : Jvm.MethodName) method_2_code (4 : Nat) (Option.some Jvm.ClassFile.FieldType.long), Jvm.Cond.code ({ cls := "com/example/lease_lock/leaselock/StoreGrant", name := "granted", desc := "(J)Lcom/example/lease_lock/leaselock/StoreGrant;" } : Jvm.MethodName) prog_11_method_2_code (2 : Nat) (Option.some (Jvm.ClassFile.FieldType.object "com/example/lease_lock/leaselock/StoreGrant")), Jvm.Cond.code ({ cls := "com/example/lease_lock/leaselock/StoreGrant", name := "<init>", desc := "(ZJLjava/time/Duration;)V" } : Jvm.MethodName) prog_11_method_1_code (5 : Nat) (Option.none : Option Jvm.ClassFile.FieldType), Jvm.Cond.code ({ cls := "java/lang/Object", name := "<init>", desc := "()V" } : Jvm.MethodName) object_method_1_code (1 : Nat) (Option.none : Option Jvm.ClassFile.FieldType), Jvm.Cond.code ({ cls := "com/example/lease_lock/leaselock/StoreGrant", name := "isGranted", desc := "()Z" } : Jvm.MethodName) prog_11_method_6_code (1 : Nat) (Option.some Jvm.ClassFile.FieldType.boolean), Jvm.Cond.code ({ cls := "com/example/lease_lock/leaselock/StoreGrant", name := "fencingToken", desc := "()J" } : Jvm.MethodName) prog_11_method_7_code (1 : Nat) (Option.some Jvm.ClassFile.FieldType.long)]
set_option maxRecDepth 65536 in
theorem codes_eq : words1.filter isCode = codes1 := rfl
theorem w_codes : ∀ c ∈ words1.filter isCode, c.before args0 about1 = true := by
  rw [codes_eq]
  intro c hc
  simp only [codes1, List.mem_cons, List.not_mem_nil, or_false] at hc
  rcases hc with rfl | rfl | rfl | rfl | rfl | rfl | rfl
  · exact w_c0
  · exact w_c1
  · exact w_c2
  · exact w_c3
  · exact w_c4
  · exact w_c5
  · exact w_c6
set_option maxRecDepth 65536 in
theorem w_t1 : (words1.take 24).all (fun c => isCode c || c.before args0 about1) = true := by decide +kernel
set_option maxRecDepth 65536 in
theorem w_t2 : (words1.drop 24).all (fun c => isCode c || c.before args0 about1) = true := by decide +kernel
theorem w_tables : (allAtoms (Jvm.Cond.code x code maxLocals ret :: tables_1)).before args0 about1 = true := by
  rw [allAtoms_all]
  show words1.all (fun c => c.before args0 about1) = true
  refine all_split ?_ w_codes
  rw [← List.take_append_drop 24 words1, List.all_append, w_t1, w_t2]
  rfl
set_option maxRecDepth 65536 in
theorem w_case : (Jvm.Cond.and given_1 narrow_1).before args0 about1 = true := by decide +kernel
theorem w_applies : (headSpec (Jvm.Cond.code x code maxLocals ret :: tables_1) room_1).applies x e0.platform about1 = true :=
  (Spec.applies_iff w_frames).mpr ⟨w_running, w_runnable, w_alone, w_named, w_hears, w_ripe, w_room, w_tables⟩
theorem atStart : AtStart classFile x code maxLocals ret World_1 tables_1 room_1 Calls_1 rest_1 Pre_1 launch0 p0 e0 about1 theMethod args0 below0 :=
  ⟨lists_1, trivial, launch0.admits_env _ _ _, launch0.least_env, fairChoices_fair.cas, fairChoices_fair.clock, w_frames, w_args, w_heap, w_applies, trivial, trivial, w_case⟩
end start1
theorem witness_1 : WitnessClaimed_1 := ⟨start1.p0, start1.e0, start1.about1, start1.theMethod, start1.args0, start1.below0, start1.atStart⟩
end Jvm.Pilot.@@N@@
