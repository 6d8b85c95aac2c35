import JvmDerived
import JvmDerived.Pilot.@@N@@Statement
import JvmDerived.Pilot.@@N@@Code
set_option linter.unusedVariables false
set_option linter.unusedSimpArgs false
namespace Jvm.RoadKit
open Sem ClassFile Op Lib Jvm.Stand Jvm.Free Jvm.LawKit
section New
variable {p : Program} {l : Launch} {e : Env} {R : Room} {s : State} {m : MethodId} {args : Array Value} {below : List Frame} {meth : Method} {c : Code} {T : State} {locs : List Loc} {cells slots : Nat}
theorem retI (X : Stand p l e R s m args below meth c T locs cells slots) (hx : p.tables.exec = Jvm.exec) {pc : Nat} {Ls : Array Slot} {z : Int32} {rest : List Value} (hret : meth.sig.returnType = some .int) (hd : decode c.code pc = .ok (.ireturn, 1)) {fs : List Frame}
    (hl : ∀ (f : JFrame) (acts : List Action), f.method = m → f.locked = none → f.entered = [] → (doReturn e (T.setTop f) acts (some (.int z))).1 = T.setFrames fs) : Steps p.tables e below (T.setTop (mkF m pc Ls (.int z :: rest))) (T.setFrames fs) := by
  have hm' : T.vm.method? m = some meth := X.method'
  have hn : narrow .int (.int z) = .int z := rfl
  show Steps p.tables e below (T.setTop { method := m, pc := pc, locals := Ls, stack := _ :: rest, locked := none }) _
  jvm_step X.here [X.here.top, hx, hd, hm', hret, hn]
  first | (intro acts; rw [hl _ acts rfl rfl rfl]) | rw [hl _ _ rfl rfl rfl]
  exact Steps.refl _
end New
end Jvm.RoadKit
namespace Jvm.Pilot.@@N@@
open Jvm Jvm.ClassFile Sem Op Lib Jvm.Free Jvm.Stand Jvm.LawKit Jvm.RoadKit Bundle Jvm.Pilot.@@N@@.Jvm.D
def own_val (s : Int64) : Int64 := s - ((s + (99 : Int64)) / (100 : Int64)) - (2000000 : Int64)
def own_span (x : Int64) (b : Int32) : Int64 := if (b &&& (1 : Int32)) = (0 : Int32) then (x &&& (4611686018427387903 : Int64)) else (x &&& (65535 : Int64))
def own_ceil (r q : Int64) : Int64 := if r = (0 : Int64) then q else q + (1 : Int64)
theorem own_rng (x : Int64) (b : Int32) : 0 ≤ (own_span x b).toInt ∧ (own_span x b).toInt < 4611686018427387904 := by
  have e1 : (x &&& (4611686018427387903 : Int64)).toInt = x.toInt % (2 ^ 62 : Nat) := c_maskL x 4611686018427387903 62 (by decide) (by decide)
  have e2 : (x &&& (65535 : Int64)).toInt = x.toInt % (2 ^ 16 : Nat) := c_maskL x 65535 16 (by decide) (by decide)
  unfold own_span
  split
  · rw [e1]; omega
  · rw [e2]; omega
theorem own_v (s : Int64) (h1 : 0 ≤ s.toInt) (h2 : s.toInt < 4611686018427387904) : (own_val s).toInt = s.toInt - (s.toInt + 99) / 100 - 2000000 := by
  have e99 : (99 : Int64).toInt = 99 := rfl
  have e2m : (2000000 : Int64).toInt = 2000000 := rfl
  have a1 := c_ladd s 99
  have r1 := rng64 (s + 99)
  have a2 : (s + 99).toInt = s.toInt + 99 := by omega
  have a3 : ((s + 99) / 100).toInt = (s + 99).toInt / 100 := (c_ldiv (s + 99) 100 100 rfl (by decide)).1 (by omega)
  have b1 := c_lsub s ((s + 99) / 100)
  have b2 := rng64 (s - (s + 99) / 100)
  have b3 := c_lsub (s - (s + 99) / 100) 2000000
  have b4 := rng64 (s - (s + 99) / 100 - 2000000)
  have g : own_val s = s - (s + 99) / 100 - 2000000 := rfl
  rw [g]
  rw [a3, a2] at b1
  have b5 : (s - (s + 99) / 100).toInt = s.toInt - (s.toInt + 99) / 100 := by omega
  rw [b5, e2m] at b3
  omega
theorem own_r (s q : Int64) (k : Int) (hq : q.toInt = k) (h0 : 0 ≤ k) (hk : k < 50000000000000000) (h1 : 0 ≤ s.toInt) (h2 : s.toInt < 4611686018427387904) : (s - (q + (2000000 : Int64))).toInt = s.toInt - k - 2000000 := by
  have e2m : (2000000 : Int64).toInt = 2000000 := rfl
  have a := c_ladd q 2000000
  have b := rng64 (q + 2000000)
  rw [hq, e2m] at a
  have c : (q + 2000000).toInt = k + 2000000 := by omega
  have d := c_lsub s (q + 2000000)
  have f := rng64 (s - (q + 2000000))
  rw [c] at d
  omega
theorem own_main (s : Int64) (h1 : 0 ≤ s.toInt) (h2 : s.toInt < 4611686018427387904) : own_val s = s - (own_ceil (s - (s / (100 : Int64)) * (100 : Int64)) (s / (100 : Int64)) + (2000000 : Int64)) ∧ own_val s < s := by
  have e1 : (1 : Int64).toInt = 1 := rfl
  have e0 : (0 : Int64).toInt = 0 := rfl
  have a4 : (s / 100).toInt = s.toInt / 100 := (c_ldiv s 100 100 rfl (by decide)).1 h1
  have a5 : (s - (s / 100) * 100).toInt = s.toInt % 100 := (c_lrem s 100 100 rfl).1 h1
  have v := own_v s h1 h2
  refine ⟨?_, ?_⟩
  · rw [← Int64.toInt_inj, v]
    by_cases hr : s - (s / 100) * 100 = 0
    · have z : own_ceil (s - (s / 100) * 100) (s / 100) = s / 100 := if_pos hr
      rw [z, own_r s (s / 100) (s.toInt / 100) a4 (by omega) (by omega) h1 h2]
      rw [hr, e0] at a5
      omega
    · have z : own_ceil (s - (s / 100) * 100) (s / 100) = s / 100 + 1 := if_neg hr
      rw [← Int64.toInt_inj, a5, e0] at hr
      have c0 := c_ladd (s / 100) 1
      have c1 := rng64 (s / 100 + 1)
      rw [a4, e1] at c0
      rw [z, own_r s (s / 100 + 1) (s.toInt / 100 + 1) (by omega) (by omega) (by omega) h1 h2]
      omega
  · rw [Int64.lt_iff_toInt_lt, v]
    omega
theorem ef_rm1 (m : MethodId) (x0 : Int64) : entryFrame m #[(.long x0)] 2 = mkF m 0 #[.val (.long x0), .second] [] := by first | (simp [entryFrame, mkF, argsToLocals, Value.category]; done) | rfl
theorem pn_com_example_lease_lock_leaselock_LeaseTerm : plainName "com/example/lease_lock/leaselock/LeaseTerm" = true := by first | (simp [plainName, overriddenIn]; done) | decide +kernel
theorem d1_0 : decode prog_9_method_3_code 0 = .ok (.lload_n 0, 1) := by decide +kernel
theorem d1_1 : decode prog_9_method_3_code 1 = .ok (.lload_n 0, 1) := by decide +kernel
theorem d1_2 : decode prog_9_method_3_code 2 = .ok (.ldc2_w 62, 3) := by decide +kernel
theorem d1_5 : decode prog_9_method_3_code 5 = .ok (.ladd, 1) := by decide +kernel
theorem d1_6 : decode prog_9_method_3_code 6 = .ok (.ldc2_w 64, 3) := by decide +kernel
theorem d1_9 : decode prog_9_method_3_code 9 = .ok (.ldiv, 1) := by decide +kernel
theorem d1_10 : decode prog_9_method_3_code 10 = .ok (.lsub, 1) := by decide +kernel
theorem d1_11 : decode prog_9_method_3_code 11 = .ok (.ldc2_w 66, 3) := by decide +kernel
theorem d1_14 : decode prog_9_method_3_code 14 = .ok (.lsub, 1) := by decide +kernel
theorem d1_15 : decode prog_9_method_3_code 15 = .ok (.lreturn, 1) := by decide +kernel
def Q_rm1 (Z : State) (p1 : Int64) (h0 : Heap) (n0 : Nat) (v : Option Value) (h : Heap) (L : List Loc) : Prop := v = some (.long (own_val p1)) ∧ Fr n0 L ∧ h = h0
set_option maxRecDepth 65536 in
set_option maxHeartbeats 40000000 in
theorem rm1 (l : Launch) (Z : State) (a0 : Array Value) (hw : ∀ d ∈ tables_1, d.before a0 Z = true) (ws : List Jvm.Cond) (p1 : Int64) (h0 : Heap) (n0 : Nat) (Z0 : n0 ≤ h0.size) :
    MetFree l (⟨"com/example/lease_lock/leaselock/LeaseTerm", "validityOf", "(J)J"⟩ : MethodName) (head1 (Jvm.Cond.code (⟨"com/example/lease_lock/leaselock/LeaseTerm", "validityOf", "(J)J"⟩ : MethodName) prog_9_method_3_code 2 (some .long) :: ws) ({ frames := 0, cells := 0, slots := 0, locals := 0 } : Room)) (fun a U => a = #[(.long p1)] ∧ Z.Warmed39 U.vm ∧ U.heap = h0) (fun _ _ _ _ _ => True) (fun _ U o U' => ∃ v L, o = .returned v ∧ Q_rm1 Z p1 h0 n0 v U'.heap L ∧ FrameEnd U o U' L ({ frames := 0, cells := 0, slots := 0, locals := 0 } : Room).cells ({ frames := 0, cells := 0, slots := 0, locals := 0 } : Room).slots) := by
  refine MetFree.of_bodySF (plainFor_of_name pn_com_example_lease_lock_leaselock_LeaseTerm) hisR ?_
  intro p e s m args below meth c s₁ Bd hml0 hP hK
  obtain ⟨rfl, hZ, hh⟩ := hP
  have hx := Bd.exec
  have hby := Bd.bytes
  have hml : c.maxLocals = 2 := hml0
  have hown : s.vm.findClass "com/example/lease_lock/leaselock/LeaseTerm" = some m.cls := findClass_of_methodNamed Bd.named
  have hnm := (name_of_methodNamed Bd.named Bd.method).1
  have X0 : Stand p l e ({ frames := 0, cells := 0, slots := 0, locals := 0 } : Room) s m #[(.long p1)] below meth c s₁ [] 0 0 := Stand.of_body Bd
  have e0 : s₁.heap = h0 := by rw [← hh, Bd.state]; rfl
  have N0 := Fr.nil n0
  have pre0 : ∀ t, Steps p.tables e below (s₁.setTop (mkF m 0 #[.val (.long p1), .second] [])) t → Steps p.tables e below (s₁.setTop (entryFrame m #[(.long p1)] 2)) t := fun t k => castTop (ef_rm1 m p1) k
  obtain ⟨fs, hr, hrun, hended, hW, hsame⟩ := X0.leave (v := some (.long (own_val p1))) (fun h => by rw [Bd.returns] at h; cases h)
  refine ⟨_, _, pre0 _ ?_, hrun, hended, _, _, rfl, ?_, ⟨_, rfl⟩, hW, hsame.mono (by decide) (by decide)⟩
  rotate_left
  · exact ⟨rfl, N0, e0⟩
  show Steps p.tables e below (s₁.setTop (mkF m 0 #[.val (.long p1), .second] [])) _
  refine XS.lloadN X0.here hx rfl (hb hby d1_0) rfl ?_
  show Steps p.tables e below (s₁.setTop (mkF m 1 #[.val (.long p1), .second] [(.long p1)])) _
  refine XS.lloadN X0.here hx rfl (hb hby d1_1) rfl ?_
  show Steps p.tables e below (s₁.setTop (mkF m 2 #[.val (.long p1), .second] [(.long p1), (.long p1)])) _
  refine X0.ldc2J hx hown (mvT hZ (hw _ (List.mem_of_getElem? (i := 5) rfl))) rfl (hb hby d1_2) ?_
  show Steps p.tables e below (s₁.setTop (mkF m 5 #[.val (.long p1), .second] [(.long (99 : Int64)), (.long p1), (.long p1)])) _
  refine XS.ladd X0.here hx rfl (hb hby d1_5) rfl ?_
  show Steps p.tables e below (s₁.setTop (mkF m 6 #[.val (.long p1), .second] [(.long (p1 + (99 : Int64))), (.long p1)])) _
  refine X0.ldc2J hx hown (mvT hZ (hw _ (List.mem_of_getElem? (i := 6) rfl))) rfl (hb hby d1_6) ?_
  show Steps p.tables e below (s₁.setTop (mkF m 9 #[.val (.long p1), .second] [(.long (100 : Int64)), (.long (p1 + (99 : Int64))), (.long p1)])) _
  refine XS.ldiv X0.here hx rfl (hb hby d1_9) rfl (by decide) ?_
  show Steps p.tables e below (s₁.setTop (mkF m 10 #[.val (.long p1), .second] [(.long ((p1 + (99 : Int64)) / (100 : Int64))), (.long p1)])) _
  refine XS.lsub X0.here hx rfl (hb hby d1_10) rfl ?_
  show Steps p.tables e below (s₁.setTop (mkF m 11 #[.val (.long p1), .second] [(.long (p1 - ((p1 + (99 : Int64)) / (100 : Int64))))])) _
  refine X0.ldc2J hx hown (mvT hZ (hw _ (List.mem_of_getElem? (i := 7) rfl))) rfl (hb hby d1_11) ?_
  show Steps p.tables e below (s₁.setTop (mkF m 14 #[.val (.long p1), .second] [(.long (2000000 : Int64)), (.long (p1 - ((p1 + (99 : Int64)) / (100 : Int64))))])) _
  refine XS.lsub X0.here hx rfl (hb hby d1_14) rfl ?_
  show Steps p.tables e below (s₁.setTop (mkF m 15 #[.val (.long p1), .second] [(.long ((p1 - ((p1 + (99 : Int64)) / (100 : Int64))) - (2000000 : Int64)))])) _
  have q : (own_val p1) = ((p1 - ((p1 + (99 : Int64)) / (100 : Int64))) - (2000000 : Int64)) := by rfl
  rw [q] at hr
  exact X0.lreturnOut hx Bd.returns (hb hby d1_15) hr
theorem ef_rm0 (m : MethodId) (x0 : Int64) (x1 : Int32) : entryFrame m #[(.long x0), (.int x1)] maxLocals = mkF m 0 #[.val (.long x0), .second, .val (.int x1), .unset, .unset, .unset, .unset, .unset, .unset, .unset, .unset, .unset, .unset, .unset, .unset] [] := by first | (simp [entryFrame, mkF, argsToLocals, Value.category, maxLocals]; done) | rfl
theorem pn_com_example_lease_lock_leaselock_LeaseTermValidityOfPinLaw : plainName "com/example/lease_lock/leaselock/LeaseTermValidityOfPinLaw" = true := by first | (simp [plainName, overriddenIn]; done) | decide +kernel
theorem pd__J_J : parseMethodDescriptor "(J)J" = some ⟨[.long], some .long⟩ := by decide +kernel
def Q_rm0 (Z : State) (p1 : Int64) (p2 : Int32) (h0 : Heap) (n0 : Nat) (v : Option Value) (h : Heap) (L : List Loc) : Prop := v = some (.int (1 : Int32)) ∧ Fr n0 L
set_option maxRecDepth 65536 in
set_option maxHeartbeats 40000000 in
theorem rm0 (l : Launch) (Z : State) (a0 : Array Value) (hw : ∀ d ∈ tables_1, d.before a0 Z = true) (ws : List Jvm.Cond) (p1 : Int64) (p2 : Int32) (h0 : Heap) (n0 : Nat) (Z0 : n0 ≤ h0.size) :
    MetFree l x (head1 (Jvm.Cond.code x code maxLocals ret :: ws) room_1) (fun a U => a = #[(.long p1), (.int p2)] ∧ Z.Warmed39 U.vm ∧ U.heap = h0) (fun _ _ _ _ _ => True) (fun _ U o U' => ∃ v L, o = .returned v ∧ Q_rm0 Z p1 p2 h0 n0 v U'.heap L ∧ FrameEnd U o U' L 0 0) := by
  refine MetFree.of_bodySF (plainFor_of_name pn_com_example_lease_lock_leaselock_LeaseTermValidityOfPinLaw) hisR ?_
  intro p e s m args below meth c s₁ Bd hml0 hP hK
  obtain ⟨rfl, hZ, hh⟩ := hP
  have hx := Bd.exec
  have hby := Bd.bytes
  have hml : c.maxLocals = 15 := hml0
  have hown : s.vm.findClass "com/example/lease_lock/leaselock/LeaseTermValidityOfPinLaw" = some m.cls := findClass_of_methodNamed Bd.named
  have hnm := (name_of_methodNamed Bd.named Bd.method).1
  have X0 : Stand p l e room_1 s m #[(.long p1), (.int p2)] below meth c s₁ [] 0 0 := Stand.of_body Bd
  have e0 : s₁.heap = h0 := by rw [← hh, Bd.state]; rfl
  have N0 := Fr.nil n0
  have pre0 : ∀ t, Steps p.tables e below (s₁.setTop (mkF m 0 #[.val (.long p1), .second, .val (.int p2), .unset, .unset, .unset, .unset, .unset, .unset, .unset, .unset, .unset, .unset, .unset, .unset] [])) t → Steps p.tables e below (s₁.setTop (entryFrame m #[(.long p1), (.int p2)] maxLocals)) t := fun t k => castTop (ef_rm0 m p1 p2) k
  have pre1 : ∀ t, Steps p.tables e below (s₁.setTop (mkF m 21 #[.val (.long p1), .second, .val (.int p2), .val (.long (own_span p1 p2)), .second, .unset, .unset, .unset, .unset, .unset, .unset, .unset, .unset, .unset, .unset] [])) t → Steps p.tables e below (s₁.setTop (entryFrame m #[(.long p1), (.int p2)] maxLocals)) t := fun t k => pre0 t (by
    show Steps p.tables e below (s₁.setTop (mkF m 0 #[.val (.long p1), .second, .val (.int p2), .unset, .unset, .unset, .unset, .unset, .unset, .unset, .unset, .unset, .unset, .unset, .unset] [])) _
    refine XS.iloadN X0.here hx rfl (hb hby at_0) rfl ?_
    show Steps p.tables e below (s₁.setTop (mkF m 1 #[.val (.long p1), .second, .val (.int p2), .unset, .unset, .unset, .unset, .unset, .unset, .unset, .unset, .unset, .unset, .unset, .unset] [(.int p2)])) _
    refine XS.iconst X0.here hx rfl (hb hby at_1) ?_
    show Steps p.tables e below (s₁.setTop (mkF m 2 #[.val (.long p1), .second, .val (.int p2), .unset, .unset, .unset, .unset, .unset, .unset, .unset, .unset, .unset, .unset, .unset, .unset] [(.int (1 : Int32)), (.int p2)])) _
    refine XS.iand X0.here hx rfl (hb hby at_2) rfl ?_
    by_cases hc3 : (p2 &&& (1 : Int32)) = (0 : Int32)
    · show Steps p.tables e below (s₁.setTop (mkF m 3 #[.val (.long p1), .second, .val (.int p2), .unset, .unset, .unset, .unset, .unset, .unset, .unset, .unset, .unset, .unset, .unset, .unset] [(.int (p2 &&& (1 : Int32)))])) _
      refine XS.ifYes X0.here hx rfl (pc0 := 3) (pc' := 15) rfl (hb hby at_3) rfl ((if0 _ _).trans (teq hc3).1) (by decide) (by decide) ?_
      show Steps p.tables e below (s₁.setTop (mkF m 15 #[.val (.long p1), .second, .val (.int p2), .unset, .unset, .unset, .unset, .unset, .unset, .unset, .unset, .unset, .unset, .unset, .unset] [])) _
      refine XS.lloadN X0.here hx rfl (hb hby at_15) rfl ?_
      show Steps p.tables e below (s₁.setTop (mkF m 16 #[.val (.long p1), .second, .val (.int p2), .unset, .unset, .unset, .unset, .unset, .unset, .unset, .unset, .unset, .unset, .unset, .unset] [(.long p1)])) _
      refine X0.ldc2J hx hown (mvT hZ (hw _ (List.mem_of_getElem? (i := 0) rfl))) rfl (hb hby at_16) ?_
      show Steps p.tables e below (s₁.setTop (mkF m 19 #[.val (.long p1), .second, .val (.int p2), .unset, .unset, .unset, .unset, .unset, .unset, .unset, .unset, .unset, .unset, .unset, .unset] [(.long (4611686018427387903 : Int64)), (.long p1)])) _
      refine XS.land X0.here hx rfl (hb hby at_19) rfl ?_
      show Steps p.tables e below (s₁.setTop (mkF m 20 #[.val (.long p1), .second, .val (.int p2), .unset, .unset, .unset, .unset, .unset, .unset, .unset, .unset, .unset, .unset, .unset, .unset] [(.long (p1 &&& (4611686018427387903 : Int64)))])) _
      refine XS.lstoreN X0.here hx rfl (hb hby at_20) rfl (l' := #[.val (.long p1), .second, .val (.int p2), .val (.long (p1 &&& (4611686018427387903 : Int64))), .second, .unset, .unset, .unset, .unset, .unset, .unset, .unset, .unset, .unset, .unset]) rfl ?_
      show Steps p.tables e below (s₁.setTop (mkF m 21 #[.val (.long p1), .second, .val (.int p2), .val (.long (p1 &&& (4611686018427387903 : Int64))), .second, .unset, .unset, .unset, .unset, .unset, .unset, .unset, .unset, .unset, .unset] [])) _
      exact castTop (by rw [show (own_span p1 p2) = (p1 &&& (4611686018427387903 : Int64)) from by exact (if_pos hc3).trans (rfl)]) k
    · show Steps p.tables e below (s₁.setTop (mkF m 3 #[.val (.long p1), .second, .val (.int p2), .unset, .unset, .unset, .unset, .unset, .unset, .unset, .unset, .unset, .unset, .unset, .unset] [(.int (p2 &&& (1 : Int32)))])) _
      refine XS.ifNo X0.here hx rfl (hb hby at_3) rfl ((if0 _ _).trans (feq hc3).1) ?_
      show Steps p.tables e below (s₁.setTop (mkF m 6 #[.val (.long p1), .second, .val (.int p2), .unset, .unset, .unset, .unset, .unset, .unset, .unset, .unset, .unset, .unset, .unset, .unset] [])) _
      refine XS.lloadN X0.here hx rfl (hb hby at_6) rfl ?_
      show Steps p.tables e below (s₁.setTop (mkF m 7 #[.val (.long p1), .second, .val (.int p2), .unset, .unset, .unset, .unset, .unset, .unset, .unset, .unset, .unset, .unset, .unset, .unset] [(.long p1)])) _
      refine X0.ldc2J hx hown (mvT hZ (hw _ (List.mem_of_getElem? (i := 10) rfl))) rfl (hb hby at_7) ?_
      show Steps p.tables e below (s₁.setTop (mkF m 10 #[.val (.long p1), .second, .val (.int p2), .unset, .unset, .unset, .unset, .unset, .unset, .unset, .unset, .unset, .unset, .unset, .unset] [(.long (65535 : Int64)), (.long p1)])) _
      refine XS.land X0.here hx rfl (hb hby at_10) rfl ?_
      show Steps p.tables e below (s₁.setTop (mkF m 11 #[.val (.long p1), .second, .val (.int p2), .unset, .unset, .unset, .unset, .unset, .unset, .unset, .unset, .unset, .unset, .unset, .unset] [(.long (p1 &&& (65535 : Int64)))])) _
      refine XS.lstoreN X0.here hx rfl (hb hby at_11) rfl (l' := #[.val (.long p1), .second, .val (.int p2), .val (.long (p1 &&& (65535 : Int64))), .second, .unset, .unset, .unset, .unset, .unset, .unset, .unset, .unset, .unset, .unset]) rfl ?_
      show Steps p.tables e below (s₁.setTop (mkF m 12 #[.val (.long p1), .second, .val (.int p2), .val (.long (p1 &&& (65535 : Int64))), .second, .unset, .unset, .unset, .unset, .unset, .unset, .unset, .unset, .unset, .unset] [])) _
      refine XS.goto X0.here hx rfl (pc0 := 12) (pc' := 21) rfl (hb hby at_12) (by decide) (by decide) ?_
      show Steps p.tables e below (s₁.setTop (mkF m 21 #[.val (.long p1), .second, .val (.int p2), .val (.long (p1 &&& (65535 : Int64))), .second, .unset, .unset, .unset, .unset, .unset, .unset, .unset, .unset, .unset, .unset] [])) _
      exact castTop (by rw [show (own_span p1 p2) = (p1 &&& (65535 : Int64)) from by exact (if_neg hc3).trans (rfl)]) k)
  have pre2 : ∀ t, Steps p.tables e below (s₁.setTop (mkF m 21 #[.val (.long p1), .second, .val (.int p2), .val (.long (own_span p1 p2)), .second, .unset, .unset, .unset, .unset, .unset, .unset, .unset, .unset, .unset, .unset] [])) t → Steps p.tables e below (s₁.setTop (entryFrame m #[(.long p1), (.int p2)] maxLocals)) t := fun t k => pre1 t (by
    exact k)
  obtain ⟨sp, hsp⟩ : ∃ z, z = (own_span p1 p2) := ⟨_, rfl⟩
  rw [← hsp] at pre2
  have rs := own_rng p1 p2
  rw [← hsp] at rs
  have hM := own_main sp rs.1 rs.2
  have pre3 : ∀ t, Steps p.tables e below (s₁.setTop (mkF m 22 #[.val (.long p1), .second, .val (.int p2), .val (.long sp), .second, .unset, .unset, .unset, .unset, .unset, .unset, .unset, .unset, .unset, .unset] [(.long sp)])) t → Steps p.tables e below (s₁.setTop (entryFrame m #[(.long p1), (.int p2)] maxLocals)) t := fun t k => pre2 t (by
    show Steps p.tables e below (s₁.setTop (mkF m 21 #[.val (.long p1), .second, .val (.int p2), .val (.long sp), .second, .unset, .unset, .unset, .unset, .unset, .unset, .unset, .unset, .unset, .unset] [])) _
    refine XS.lloadN X0.here hx rfl (hb hby at_21) rfl ?_
    exact k)
  obtain ⟨_, _, ⟨T4, L4, k4, n4⟩, -, X4, ⟨Lc4, hQ4, l4, y4, z4⟩, st4⟩ := Jvm.LawKit.callS X0 hx (y := (⟨"com/example/lease_lock/leaselock/LeaseTerm", "validityOf", "(J)J"⟩ : MethodName)) hown (mvT hZ (hw _ (List.mem_of_getElem? (i := 1) rfl))) (mvT hZ (hw _ (List.mem_of_getElem? (i := 2) rfl))) (mvT hZ (hw _ (List.mem_of_getElem? (i := 3) rfl))) (mvT hZ (hw _ (List.mem_of_getElem? (i := 4) rfl))) (by decide) (backOf (W := 0) (rm1 l Z a0 hw [] sp h0 n0 Z0) hZ (hw _ (List.mem_of_getElem? (i := 4) rfl)) (hw _ (List.mem_of_getElem? (i := 3) rfl)) (by decide) (by decide)) (g := (mkF m 22 #[.val (.long p1), .second, .val (.int p2), .val (.long sp), .second, .unset, .unset, .unset, .unset, .unset, .unset, .unset, .unset, .unset, .unset] [(.long sp)])) rfl (by rw [hml]; rfl) (argsL := [(.long sp)]) (rest := []) (lenOf pd__J_J rfl) rfl (by show 2 * 0 + _ ≤ _; exact Nat.le_of_eq rfl) (hb hby at_22) (fun _ _ => ⟨rfl, e0, (by decide : 0 + 0 ≤ _), (by decide : 0 + 0 ≤ _)⟩)
  dsimp only [Pt.U, Pt.locs, Pt.cells, Pt.slots] at X4 l4 y4 z4 st4 hQ4
  subst l4 y4 z4
  obtain ⟨rfl, N4q, eq1⟩ := hQ4
  have N4 := Fr.app N0 N4q
  have pre5 : ∀ t, Steps p.tables e below (T4.setTop (mkF m 25 #[.val (.long p1), .second, .val (.int p2), .val (.long sp), .second, .unset, .unset, .unset, .unset, .unset, .unset, .unset, .unset, .unset, .unset] [(.long (own_val sp))])) t → Steps p.tables e below (s₁.setTop (entryFrame m #[(.long p1), (.int p2)] maxLocals)) t := fun t k => pre3 t (st4 t k)
  have pre6 : ∀ t, Steps p.tables e below (T4.setTop (mkF m 57 #[.val (.long p1), .second, .val (.int p2), .val (.long sp), .second, .val (.long (own_val sp)), .second, .val (.long (sp / (100 : Int64))), .second, .val (.long (sp - (sp / (100 : Int64)) * (100 : Int64))), .second, .unset, .unset, .unset, .unset] [(.long (own_ceil (sp - (sp / (100 : Int64)) * (100 : Int64)) (sp / (100 : Int64))))])) t → Steps p.tables e below (s₁.setTop (entryFrame m #[(.long p1), (.int p2)] maxLocals)) t := fun t k => pre5 t (by
    show Steps p.tables e below (T4.setTop (mkF m 25 #[.val (.long p1), .second, .val (.int p2), .val (.long sp), .second, .unset, .unset, .unset, .unset, .unset, .unset, .unset, .unset, .unset, .unset] [(.long (own_val sp))])) _
    refine XS.lstore X4.here hx rfl (hb hby at_25) rfl (l' := #[.val (.long p1), .second, .val (.int p2), .val (.long sp), .second, .val (.long (own_val sp)), .second, .unset, .unset, .unset, .unset, .unset, .unset, .unset, .unset]) rfl ?_
    show Steps p.tables e below (T4.setTop (mkF m 27 #[.val (.long p1), .second, .val (.int p2), .val (.long sp), .second, .val (.long (own_val sp)), .second, .unset, .unset, .unset, .unset, .unset, .unset, .unset, .unset] [])) _
    refine XS.lloadN X4.here hx rfl (hb hby at_27) rfl ?_
    show Steps p.tables e below (T4.setTop (mkF m 28 #[.val (.long p1), .second, .val (.int p2), .val (.long sp), .second, .val (.long (own_val sp)), .second, .unset, .unset, .unset, .unset, .unset, .unset, .unset, .unset] [(.long sp)])) _
    refine X4.ldc2J hx hown (mvT hZ (hw _ (List.mem_of_getElem? (i := 8) rfl))) rfl (hb hby at_28) ?_
    show Steps p.tables e below (T4.setTop (mkF m 31 #[.val (.long p1), .second, .val (.int p2), .val (.long sp), .second, .val (.long (own_val sp)), .second, .unset, .unset, .unset, .unset, .unset, .unset, .unset, .unset] [(.long (100 : Int64)), (.long sp)])) _
    refine XS.ldiv X4.here hx rfl (hb hby at_31) rfl (by decide) ?_
    show Steps p.tables e below (T4.setTop (mkF m 32 #[.val (.long p1), .second, .val (.int p2), .val (.long sp), .second, .val (.long (own_val sp)), .second, .unset, .unset, .unset, .unset, .unset, .unset, .unset, .unset] [(.long (sp / (100 : Int64)))])) _
    refine XS.lstore X4.here hx rfl (hb hby at_32) rfl (l' := #[.val (.long p1), .second, .val (.int p2), .val (.long sp), .second, .val (.long (own_val sp)), .second, .val (.long (sp / (100 : Int64))), .second, .unset, .unset, .unset, .unset, .unset, .unset]) rfl ?_
    show Steps p.tables e below (T4.setTop (mkF m 34 #[.val (.long p1), .second, .val (.int p2), .val (.long sp), .second, .val (.long (own_val sp)), .second, .val (.long (sp / (100 : Int64))), .second, .unset, .unset, .unset, .unset, .unset, .unset] [])) _
    refine XS.lloadN X4.here hx rfl (hb hby at_34) rfl ?_
    show Steps p.tables e below (T4.setTop (mkF m 35 #[.val (.long p1), .second, .val (.int p2), .val (.long sp), .second, .val (.long (own_val sp)), .second, .val (.long (sp / (100 : Int64))), .second, .unset, .unset, .unset, .unset, .unset, .unset] [(.long sp)])) _
    refine X4.ldc2J hx hown (mvT hZ (hw _ (List.mem_of_getElem? (i := 8) rfl))) rfl (hb hby at_35) ?_
    show Steps p.tables e below (T4.setTop (mkF m 38 #[.val (.long p1), .second, .val (.int p2), .val (.long sp), .second, .val (.long (own_val sp)), .second, .val (.long (sp / (100 : Int64))), .second, .unset, .unset, .unset, .unset, .unset, .unset] [(.long (100 : Int64)), (.long sp)])) _
    refine XS.lrem X4.here hx rfl (hb hby at_38) rfl (by decide) ?_
    show Steps p.tables e below (T4.setTop (mkF m 39 #[.val (.long p1), .second, .val (.int p2), .val (.long sp), .second, .val (.long (own_val sp)), .second, .val (.long (sp / (100 : Int64))), .second, .unset, .unset, .unset, .unset, .unset, .unset] [(.long (sp - (sp / (100 : Int64)) * (100 : Int64)))])) _
    refine XS.lstore X4.here hx rfl (hb hby at_39) rfl (l' := #[.val (.long p1), .second, .val (.int p2), .val (.long sp), .second, .val (.long (own_val sp)), .second, .val (.long (sp / (100 : Int64))), .second, .val (.long (sp - (sp / (100 : Int64)) * (100 : Int64))), .second, .unset, .unset, .unset, .unset]) rfl ?_
    show Steps p.tables e below (T4.setTop (mkF m 41 #[.val (.long p1), .second, .val (.int p2), .val (.long sp), .second, .val (.long (own_val sp)), .second, .val (.long (sp / (100 : Int64))), .second, .val (.long (sp - (sp / (100 : Int64)) * (100 : Int64))), .second, .unset, .unset, .unset, .unset] [])) _
    refine XS.lload X4.here hx rfl (hb hby at_41) rfl ?_
    show Steps p.tables e below (T4.setTop (mkF m 43 #[.val (.long p1), .second, .val (.int p2), .val (.long sp), .second, .val (.long (own_val sp)), .second, .val (.long (sp / (100 : Int64))), .second, .val (.long (sp - (sp / (100 : Int64)) * (100 : Int64))), .second, .unset, .unset, .unset, .unset] [(.long (sp - (sp / (100 : Int64)) * (100 : Int64)))])) _
    refine XS.lconst X4.here hx rfl (hb hby at_43) ?_
    show Steps p.tables e below (T4.setTop (mkF m 44 #[.val (.long p1), .second, .val (.int p2), .val (.long sp), .second, .val (.long (own_val sp)), .second, .val (.long (sp / (100 : Int64))), .second, .val (.long (sp - (sp / (100 : Int64)) * (100 : Int64))), .second, .unset, .unset, .unset, .unset] [(.long (0 : Int64)), (.long (sp - (sp / (100 : Int64)) * (100 : Int64)))])) _
    refine XS.lcmp X4.here hx rfl (hb hby at_44) rfl ?_
    by_cases hc45 : (lcmpW (sp - (sp / (100 : Int64)) * (100 : Int64)) (0 : Int64)) = (0 : Int32)
    · show Steps p.tables e below (T4.setTop (mkF m 45 #[.val (.long p1), .second, .val (.int p2), .val (.long sp), .second, .val (.long (own_val sp)), .second, .val (.long (sp / (100 : Int64))), .second, .val (.long (sp - (sp / (100 : Int64)) * (100 : Int64))), .second, .unset, .unset, .unset, .unset] [(.int (lcmpW (sp - (sp / (100 : Int64)) * (100 : Int64)) (0 : Int64)))])) _
      refine XS.ifNo X4.here hx rfl (hb hby at_45) rfl ((if0 _ _).trans (teq hc45).2) ?_
      show Steps p.tables e below (T4.setTop (mkF m 48 #[.val (.long p1), .second, .val (.int p2), .val (.long sp), .second, .val (.long (own_val sp)), .second, .val (.long (sp / (100 : Int64))), .second, .val (.long (sp - (sp / (100 : Int64)) * (100 : Int64))), .second, .unset, .unset, .unset, .unset] [])) _
      refine XS.lload X4.here hx rfl (hb hby at_48) rfl ?_
      show Steps p.tables e below (T4.setTop (mkF m 50 #[.val (.long p1), .second, .val (.int p2), .val (.long sp), .second, .val (.long (own_val sp)), .second, .val (.long (sp / (100 : Int64))), .second, .val (.long (sp - (sp / (100 : Int64)) * (100 : Int64))), .second, .unset, .unset, .unset, .unset] [(.long (sp / (100 : Int64)))])) _
      refine XS.goto X4.here hx rfl (pc0 := 50) (pc' := 57) rfl (hb hby at_50) (by decide) (by decide) ?_
      show Steps p.tables e below (T4.setTop (mkF m 57 #[.val (.long p1), .second, .val (.int p2), .val (.long sp), .second, .val (.long (own_val sp)), .second, .val (.long (sp / (100 : Int64))), .second, .val (.long (sp - (sp / (100 : Int64)) * (100 : Int64))), .second, .unset, .unset, .unset, .unset] [(.long (sp / (100 : Int64)))])) _
      exact castTop (by rw [show (own_ceil (sp - (sp / (100 : Int64)) * (100 : Int64)) (sp / (100 : Int64))) = (sp / (100 : Int64)) from by exact (if_pos ((lw_eq _ _).mp hc45)).trans (rfl)]) k
    · show Steps p.tables e below (T4.setTop (mkF m 45 #[.val (.long p1), .second, .val (.int p2), .val (.long sp), .second, .val (.long (own_val sp)), .second, .val (.long (sp / (100 : Int64))), .second, .val (.long (sp - (sp / (100 : Int64)) * (100 : Int64))), .second, .unset, .unset, .unset, .unset] [(.int (lcmpW (sp - (sp / (100 : Int64)) * (100 : Int64)) (0 : Int64)))])) _
      refine XS.ifYes X4.here hx rfl (pc0 := 45) (pc' := 53) rfl (hb hby at_45) rfl ((if0 _ _).trans (feq hc45).2) (by decide) (by decide) ?_
      show Steps p.tables e below (T4.setTop (mkF m 53 #[.val (.long p1), .second, .val (.int p2), .val (.long sp), .second, .val (.long (own_val sp)), .second, .val (.long (sp / (100 : Int64))), .second, .val (.long (sp - (sp / (100 : Int64)) * (100 : Int64))), .second, .unset, .unset, .unset, .unset] [])) _
      refine XS.lload X4.here hx rfl (hb hby at_53) rfl ?_
      show Steps p.tables e below (T4.setTop (mkF m 55 #[.val (.long p1), .second, .val (.int p2), .val (.long sp), .second, .val (.long (own_val sp)), .second, .val (.long (sp / (100 : Int64))), .second, .val (.long (sp - (sp / (100 : Int64)) * (100 : Int64))), .second, .unset, .unset, .unset, .unset] [(.long (sp / (100 : Int64)))])) _
      refine XS.lconst X4.here hx rfl (hb hby at_55) ?_
      show Steps p.tables e below (T4.setTop (mkF m 56 #[.val (.long p1), .second, .val (.int p2), .val (.long sp), .second, .val (.long (own_val sp)), .second, .val (.long (sp / (100 : Int64))), .second, .val (.long (sp - (sp / (100 : Int64)) * (100 : Int64))), .second, .unset, .unset, .unset, .unset] [(.long (1 : Int64)), (.long (sp / (100 : Int64)))])) _
      refine XS.ladd X4.here hx rfl (hb hby at_56) rfl ?_
      show Steps p.tables e below (T4.setTop (mkF m 57 #[.val (.long p1), .second, .val (.int p2), .val (.long sp), .second, .val (.long (own_val sp)), .second, .val (.long (sp / (100 : Int64))), .second, .val (.long (sp - (sp / (100 : Int64)) * (100 : Int64))), .second, .unset, .unset, .unset, .unset] [(.long ((sp / (100 : Int64)) + (1 : Int64)))])) _
      exact castTop (by rw [show (own_ceil (sp - (sp / (100 : Int64)) * (100 : Int64)) (sp / (100 : Int64))) = ((sp / (100 : Int64)) + (1 : Int64)) from by exact (if_neg (mt (lw_eq _ _).mpr hc45)).trans (rfl)]) k)
  have pre7 : ∀ t, Steps p.tables e below (T4.setTop (mkF m 89 #[.val (.long p1), .second, .val (.int p2), .val (.long sp), .second, .val (.long (own_val sp)), .second, .val (.long (sp / (100 : Int64))), .second, .val (.long (sp - (sp / (100 : Int64)) * (100 : Int64))), .second, .val (.long (own_ceil (sp - (sp / (100 : Int64)) * (100 : Int64)) (sp / (100 : Int64)))), .second, .val (.long ((own_ceil (sp - (sp / (100 : Int64)) * (100 : Int64)) (sp / (100 : Int64))) + (2000000 : Int64))), .second] [(.int (1 : Int32))])) t → Steps p.tables e below (s₁.setTop (entryFrame m #[(.long p1), (.int p2)] maxLocals)) t := fun t k => pre6 t (by
    show Steps p.tables e below (T4.setTop (mkF m 57 #[.val (.long p1), .second, .val (.int p2), .val (.long sp), .second, .val (.long (own_val sp)), .second, .val (.long (sp / (100 : Int64))), .second, .val (.long (sp - (sp / (100 : Int64)) * (100 : Int64))), .second, .unset, .unset, .unset, .unset] [(.long (own_ceil (sp - (sp / (100 : Int64)) * (100 : Int64)) (sp / (100 : Int64))))])) _
    refine XS.lstore X4.here hx rfl (hb hby at_57) rfl (l' := #[.val (.long p1), .second, .val (.int p2), .val (.long sp), .second, .val (.long (own_val sp)), .second, .val (.long (sp / (100 : Int64))), .second, .val (.long (sp - (sp / (100 : Int64)) * (100 : Int64))), .second, .val (.long (own_ceil (sp - (sp / (100 : Int64)) * (100 : Int64)) (sp / (100 : Int64)))), .second, .unset, .unset]) rfl ?_
    show Steps p.tables e below (T4.setTop (mkF m 59 #[.val (.long p1), .second, .val (.int p2), .val (.long sp), .second, .val (.long (own_val sp)), .second, .val (.long (sp / (100 : Int64))), .second, .val (.long (sp - (sp / (100 : Int64)) * (100 : Int64))), .second, .val (.long (own_ceil (sp - (sp / (100 : Int64)) * (100 : Int64)) (sp / (100 : Int64)))), .second, .unset, .unset] [])) _
    refine XS.lload X4.here hx rfl (hb hby at_59) rfl ?_
    show Steps p.tables e below (T4.setTop (mkF m 61 #[.val (.long p1), .second, .val (.int p2), .val (.long sp), .second, .val (.long (own_val sp)), .second, .val (.long (sp / (100 : Int64))), .second, .val (.long (sp - (sp / (100 : Int64)) * (100 : Int64))), .second, .val (.long (own_ceil (sp - (sp / (100 : Int64)) * (100 : Int64)) (sp / (100 : Int64)))), .second, .unset, .unset] [(.long (own_ceil (sp - (sp / (100 : Int64)) * (100 : Int64)) (sp / (100 : Int64))))])) _
    refine X4.ldc2J hx hown (mvT hZ (hw _ (List.mem_of_getElem? (i := 9) rfl))) rfl (hb hby at_61) ?_
    show Steps p.tables e below (T4.setTop (mkF m 64 #[.val (.long p1), .second, .val (.int p2), .val (.long sp), .second, .val (.long (own_val sp)), .second, .val (.long (sp / (100 : Int64))), .second, .val (.long (sp - (sp / (100 : Int64)) * (100 : Int64))), .second, .val (.long (own_ceil (sp - (sp / (100 : Int64)) * (100 : Int64)) (sp / (100 : Int64)))), .second, .unset, .unset] [(.long (2000000 : Int64)), (.long (own_ceil (sp - (sp / (100 : Int64)) * (100 : Int64)) (sp / (100 : Int64))))])) _
    refine XS.ladd X4.here hx rfl (hb hby at_64) rfl ?_
    show Steps p.tables e below (T4.setTop (mkF m 65 #[.val (.long p1), .second, .val (.int p2), .val (.long sp), .second, .val (.long (own_val sp)), .second, .val (.long (sp / (100 : Int64))), .second, .val (.long (sp - (sp / (100 : Int64)) * (100 : Int64))), .second, .val (.long (own_ceil (sp - (sp / (100 : Int64)) * (100 : Int64)) (sp / (100 : Int64)))), .second, .unset, .unset] [(.long ((own_ceil (sp - (sp / (100 : Int64)) * (100 : Int64)) (sp / (100 : Int64))) + (2000000 : Int64)))])) _
    refine XS.lstore X4.here hx rfl (hb hby at_65) rfl (l' := #[.val (.long p1), .second, .val (.int p2), .val (.long sp), .second, .val (.long (own_val sp)), .second, .val (.long (sp / (100 : Int64))), .second, .val (.long (sp - (sp / (100 : Int64)) * (100 : Int64))), .second, .val (.long (own_ceil (sp - (sp / (100 : Int64)) * (100 : Int64)) (sp / (100 : Int64)))), .second, .val (.long ((own_ceil (sp - (sp / (100 : Int64)) * (100 : Int64)) (sp / (100 : Int64))) + (2000000 : Int64))), .second]) rfl ?_
    show Steps p.tables e below (T4.setTop (mkF m 67 #[.val (.long p1), .second, .val (.int p2), .val (.long sp), .second, .val (.long (own_val sp)), .second, .val (.long (sp / (100 : Int64))), .second, .val (.long (sp - (sp / (100 : Int64)) * (100 : Int64))), .second, .val (.long (own_ceil (sp - (sp / (100 : Int64)) * (100 : Int64)) (sp / (100 : Int64)))), .second, .val (.long ((own_ceil (sp - (sp / (100 : Int64)) * (100 : Int64)) (sp / (100 : Int64))) + (2000000 : Int64))), .second] [])) _
    refine XS.lload X4.here hx rfl (hb hby at_67) rfl ?_
    show Steps p.tables e below (T4.setTop (mkF m 69 #[.val (.long p1), .second, .val (.int p2), .val (.long sp), .second, .val (.long (own_val sp)), .second, .val (.long (sp / (100 : Int64))), .second, .val (.long (sp - (sp / (100 : Int64)) * (100 : Int64))), .second, .val (.long (own_ceil (sp - (sp / (100 : Int64)) * (100 : Int64)) (sp / (100 : Int64)))), .second, .val (.long ((own_ceil (sp - (sp / (100 : Int64)) * (100 : Int64)) (sp / (100 : Int64))) + (2000000 : Int64))), .second] [(.long (own_val sp))])) _
    refine XS.lloadN X4.here hx rfl (hb hby at_69) rfl ?_
    show Steps p.tables e below (T4.setTop (mkF m 70 #[.val (.long p1), .second, .val (.int p2), .val (.long sp), .second, .val (.long (own_val sp)), .second, .val (.long (sp / (100 : Int64))), .second, .val (.long (sp - (sp / (100 : Int64)) * (100 : Int64))), .second, .val (.long (own_ceil (sp - (sp / (100 : Int64)) * (100 : Int64)) (sp / (100 : Int64)))), .second, .val (.long ((own_ceil (sp - (sp / (100 : Int64)) * (100 : Int64)) (sp / (100 : Int64))) + (2000000 : Int64))), .second] [(.long sp), (.long (own_val sp))])) _
    refine XS.lload X4.here hx rfl (hb hby at_70) rfl ?_
    show Steps p.tables e below (T4.setTop (mkF m 72 #[.val (.long p1), .second, .val (.int p2), .val (.long sp), .second, .val (.long (own_val sp)), .second, .val (.long (sp / (100 : Int64))), .second, .val (.long (sp - (sp / (100 : Int64)) * (100 : Int64))), .second, .val (.long (own_ceil (sp - (sp / (100 : Int64)) * (100 : Int64)) (sp / (100 : Int64)))), .second, .val (.long ((own_ceil (sp - (sp / (100 : Int64)) * (100 : Int64)) (sp / (100 : Int64))) + (2000000 : Int64))), .second] [(.long ((own_ceil (sp - (sp / (100 : Int64)) * (100 : Int64)) (sp / (100 : Int64))) + (2000000 : Int64))), (.long sp), (.long (own_val sp))])) _
    refine XS.lsub X4.here hx rfl (hb hby at_72) rfl ?_
    show Steps p.tables e below (T4.setTop (mkF m 73 #[.val (.long p1), .second, .val (.int p2), .val (.long sp), .second, .val (.long (own_val sp)), .second, .val (.long (sp / (100 : Int64))), .second, .val (.long (sp - (sp / (100 : Int64)) * (100 : Int64))), .second, .val (.long (own_ceil (sp - (sp / (100 : Int64)) * (100 : Int64)) (sp / (100 : Int64)))), .second, .val (.long ((own_ceil (sp - (sp / (100 : Int64)) * (100 : Int64)) (sp / (100 : Int64))) + (2000000 : Int64))), .second] [(.long (sp - ((own_ceil (sp - (sp / (100 : Int64)) * (100 : Int64)) (sp / (100 : Int64))) + (2000000 : Int64)))), (.long (own_val sp))])) _
    refine XS.lcmp X4.here hx rfl (hb hby at_73) rfl ?_
    show Steps p.tables e below (T4.setTop (mkF m 74 #[.val (.long p1), .second, .val (.int p2), .val (.long sp), .second, .val (.long (own_val sp)), .second, .val (.long (sp / (100 : Int64))), .second, .val (.long (sp - (sp / (100 : Int64)) * (100 : Int64))), .second, .val (.long (own_ceil (sp - (sp / (100 : Int64)) * (100 : Int64)) (sp / (100 : Int64)))), .second, .val (.long ((own_ceil (sp - (sp / (100 : Int64)) * (100 : Int64)) (sp / (100 : Int64))) + (2000000 : Int64))), .second] [(.int (lcmpW (own_val sp) (sp - ((own_ceil (sp - (sp / (100 : Int64)) * (100 : Int64)) (sp / (100 : Int64))) + (2000000 : Int64)))))])) _
    refine XS.ifNo X4.here hx rfl (hb hby at_74) rfl ((if0 _ _).trans (teq ((lw_eq _ _).mpr hM.1)).2) ?_
    show Steps p.tables e below (T4.setTop (mkF m 77 #[.val (.long p1), .second, .val (.int p2), .val (.long sp), .second, .val (.long (own_val sp)), .second, .val (.long (sp / (100 : Int64))), .second, .val (.long (sp - (sp / (100 : Int64)) * (100 : Int64))), .second, .val (.long (own_ceil (sp - (sp / (100 : Int64)) * (100 : Int64)) (sp / (100 : Int64)))), .second, .val (.long ((own_ceil (sp - (sp / (100 : Int64)) * (100 : Int64)) (sp / (100 : Int64))) + (2000000 : Int64))), .second] [])) _
    refine XS.lload X4.here hx rfl (hb hby at_77) rfl ?_
    show Steps p.tables e below (T4.setTop (mkF m 79 #[.val (.long p1), .second, .val (.int p2), .val (.long sp), .second, .val (.long (own_val sp)), .second, .val (.long (sp / (100 : Int64))), .second, .val (.long (sp - (sp / (100 : Int64)) * (100 : Int64))), .second, .val (.long (own_ceil (sp - (sp / (100 : Int64)) * (100 : Int64)) (sp / (100 : Int64)))), .second, .val (.long ((own_ceil (sp - (sp / (100 : Int64)) * (100 : Int64)) (sp / (100 : Int64))) + (2000000 : Int64))), .second] [(.long (own_val sp))])) _
    refine XS.lloadN X4.here hx rfl (hb hby at_79) rfl ?_
    show Steps p.tables e below (T4.setTop (mkF m 80 #[.val (.long p1), .second, .val (.int p2), .val (.long sp), .second, .val (.long (own_val sp)), .second, .val (.long (sp / (100 : Int64))), .second, .val (.long (sp - (sp / (100 : Int64)) * (100 : Int64))), .second, .val (.long (own_ceil (sp - (sp / (100 : Int64)) * (100 : Int64)) (sp / (100 : Int64)))), .second, .val (.long ((own_ceil (sp - (sp / (100 : Int64)) * (100 : Int64)) (sp / (100 : Int64))) + (2000000 : Int64))), .second] [(.long sp), (.long (own_val sp))])) _
    refine XS.lcmp X4.here hx rfl (hb hby at_80) rfl ?_
    show Steps p.tables e below (T4.setTop (mkF m 81 #[.val (.long p1), .second, .val (.int p2), .val (.long sp), .second, .val (.long (own_val sp)), .second, .val (.long (sp / (100 : Int64))), .second, .val (.long (sp - (sp / (100 : Int64)) * (100 : Int64))), .second, .val (.long (own_ceil (sp - (sp / (100 : Int64)) * (100 : Int64)) (sp / (100 : Int64)))), .second, .val (.long ((own_ceil (sp - (sp / (100 : Int64)) * (100 : Int64)) (sp / (100 : Int64))) + (2000000 : Int64))), .second] [(.int (lcmpW (own_val sp) sp))])) _
    refine XS.ifNo X4.here hx rfl (hb hby at_81) rfl ((if0 _ _).trans (tlt ((lw_lt _ _).mpr hM.2)).2.1) ?_
    show Steps p.tables e below (T4.setTop (mkF m 84 #[.val (.long p1), .second, .val (.int p2), .val (.long sp), .second, .val (.long (own_val sp)), .second, .val (.long (sp / (100 : Int64))), .second, .val (.long (sp - (sp / (100 : Int64)) * (100 : Int64))), .second, .val (.long (own_ceil (sp - (sp / (100 : Int64)) * (100 : Int64)) (sp / (100 : Int64)))), .second, .val (.long ((own_ceil (sp - (sp / (100 : Int64)) * (100 : Int64)) (sp / (100 : Int64))) + (2000000 : Int64))), .second] [])) _
    refine XS.iconst X4.here hx rfl (hb hby at_84) ?_
    show Steps p.tables e below (T4.setTop (mkF m 85 #[.val (.long p1), .second, .val (.int p2), .val (.long sp), .second, .val (.long (own_val sp)), .second, .val (.long (sp / (100 : Int64))), .second, .val (.long (sp - (sp / (100 : Int64)) * (100 : Int64))), .second, .val (.long (own_ceil (sp - (sp / (100 : Int64)) * (100 : Int64)) (sp / (100 : Int64)))), .second, .val (.long ((own_ceil (sp - (sp / (100 : Int64)) * (100 : Int64)) (sp / (100 : Int64))) + (2000000 : Int64))), .second] [(.int (1 : Int32))])) _
    refine XS.goto X4.here hx rfl (pc0 := 85) (pc' := 89) rfl (hb hby at_85) (by decide) (by decide) ?_
    exact k)
  obtain ⟨fs, hr, hrun, hended, hW, hsame⟩ := X4.leave (v := some (.int (1 : Int32))) (fun h => by rw [Bd.returns] at h; cases h)
  refine ⟨_, _, pre7 _ ?_, hrun, hended, _, _, rfl, ?_, ⟨_, rfl⟩, hW, hsame.mono (by decide) (by decide)⟩
  · exact retN X4 hx (t := .boolean) Bd.returns (by simp) (hb hby at_89) hr
  · exact ⟨rfl, N4⟩
set_option maxRecDepth 65536 in
set_option maxHeartbeats 40000000 in
theorem comes_1 {Post : Tables → Env → Array Value → State → Outcome → State → Prop} (hpost : ∀ tb e args s v u, (limb_1_1.after args s (.returned v) u = true ∧ limb_1_2.after args s (.returned v) u = true ∧ True) → FrameEnd s (.returned v) u (Jvm.fieldLocs frame_1_writes args s ++ Jvm.arrayLocs frame_1_arrays args s ++ Jvm.staticLocs frame_1_statics s) 0 0 → Post tb e args s (.returned v) u) :
    ArmFor flags0 classFile x code maxLocals ret World_1 tables_1 room_1 Calls_1 rest_1 Pre_1 Post := by
  intro l hfl _ _ p e ha hc hk s m args below hf hA hF happ hP
  obtain ⟨hcalls, hrest, hpre⟩ := hP
  obtain ⟨-, -, -, hnamed, -, -, -, hat⟩ := (Spec.applies_iff hf).mp happ
  obtain ⟨hg, hn⟩ := and_e (Cond.before_iff.mp (show (Jvm.Cond.and given_1 narrow_1).before args s = true from hpre))
  obtain ⟨gc, gr0⟩ := and_e hg
  obtain ⟨ga0, gr1⟩ := and_e gr0
  obtain ⟨w0, w1, rfl⟩ : ∃ w0 w1 : Value, args = #[w0, w1] := by
    have hs : args.size = 2 := by simpa [Cond.value, given_1] using gc
    obtain ⟨L⟩ := args
    match L, hs with
    | [w0, w1], _ => exact ⟨w0, w1, rfl⟩
  have hw := fun d (hd : d ∈ tables_1) => atoms_spec (ws := Jvm.Cond.code x code maxLocals ret :: tables_1) hat d (List.mem_cons_of_mem _ hd)
  obtain ⟨i0, ei0⟩ := isL_v ga0
  obtain rfl : w0 = (.long i0) := Option.some.inj ei0
  obtain ⟨i1, ei1⟩ := is_v gr1
  obtain rfl : w1 = (.int i1) := Option.some.inj ei1
  obtain ⟨n, o, h1, h2, h3, _, L, rfl, ⟨rfl, N⟩, hq⟩ := rm0 l s _ hw tables_1 i0 i1 s.heap s.heap.size (Nat.le_refl _) p e ha hc hk s m _ below hf ((Spec.applies_iff_loose hf).mp happ).1 ⟨rfl, State.Warmed39.refl s, rfl⟩ trivial
  refine ⟨n, _, h1, h2, h3, hpost _ _ _ _ _ _ ⟨Cond.after_iff.mpr rfl, Cond.after_iff.mpr (eq_i res_at (Term.int_eval (1)) rfl), trivial⟩ ⟨hq.1, hq.2.1, (hq.2.2.sift fun y hy => Or.inr (N y hy)).mono (by decide) (by decide)⟩⟩
theorem main_1_1 : Claimed_1_1 := comes_1 fun _ _ _ _ _ _ h hF => ⟨h.1, hF⟩
theorem main_1_2 : Claimed_1_2 := comes_1 fun _ _ _ _ _ _ h hF => ⟨h.2.1, hF⟩
end Jvm.Pilot.@@N@@
namespace Jvm.Pilot.@@N@@
open Jvm Jvm.ClassFile Sem Op Lib Jvm.Free Jvm.Stand Jvm.Pilot.@@N@@.Jvm.D
/-! MADE BY PROGRAM (witnessworld.py) out of the Statement's table words and the real class files: 9 classes; the members and pool entries that the words name. The judged class is class 1, her method 1. -/
namespace start1
open Jvm.ClassFile
def u (s : String) : CpInfo := .utf8 (stringToUtf16 s)
/-- a pool by its gaps: so many unusable entries, then the entry; so many at the end -/
def gap : Nat → List CpInfo → List CpInfo
  | 0, r => r
  | n + 1, r => .unusable :: gap n r
def poolList (es : List (Nat × CpInfo)) (last : Nat) : List CpInfo := es.foldr (fun e r => gap e.1 (e.2 :: r)) (gap last [])
def pool (es : List (Nat × CpInfo)) (last : Nat) : Array CpInfo := ⟨poolList es last⟩
def fileOf (pool : Array CpInfo) (this : Nat) (attrs : Array Attribute := #[]) (ms : Array MethodInfo := #[]) (fl : Nat := 33) (sup : Nat := 0) (ifs : Array Nat := #[]) (fds : Array FieldInfo := #[]) : ClassFile where
  minorVersion := 0
  majorVersion := 65
  constantPool := pool
  accessFlags := fl
  thisClass := this
  superClass := sup
  interfaces := ifs
  fields := fds
  methods := ms
  attributes := attrs
def plain (name : String) (sup : Option ClassId) : Class where
  name := name
  kind := .ordinary
  loader := none
  accessFlags := 33
  super := sup
  interfaces := #[]
  cf := none
  fields := #[]
  methods := #[]
  instanceTypes := #[]
  staticTypes := #[]
  resolved := #[]
  callSites := []
  init := .initialized
  statics := none
  mirror := none

def pool0 : Array CpInfo := pool [(5, u "<init>"), (0, u "()V"), (1, .class_ 10), (1, u "java/lang/Object")] 113

def k0m0 : Method := { name := "<init>", desc := "()V", sig := { parameters := [], returnType := none }, accessFlags := 1, code := none }
/-- java/lang/Object -/
def k0 : Class := { plain "java/lang/Object" none with
  accessFlags := 33
  interfaces := #[]
  cf := some (fileOf pool0 8 #[] #[{ accessFlags := 1, nameIndex := 5, descriptorIndex := 6, attributes := #[] }] 33 0 #[] #[])
  fields := #[]
  methods := #[k0m0]
  instanceTypes := #[]
  staticTypes := #[]
  resolved := Array.replicate 124 none
  statics := none }

def pool1 : Array CpInfo := pool [(2, .class_ 4), (1, u "java/lang/Object"), (0, u "<init>"), (0, u "()V"), (0, .long 65535), (1, .long 4611686018427387903), (1, .methodref 12 13), (0, .class_ 14), (0, .nameAndType 15 16), (0, u "com/example/lease_lock/leaselock/LeaseTerm"), (0, u "validityOf"), (0, u "(J)J"), (0, .long 100), (1, .long 2000000), (1, .class_ 22), (0, u "com/example/lease_lock/leaselock/LeaseTermValidityOfPinLaw"), (2, u "law"), (0, u "(JI)Z")] 3

def k1m0 : Method := { name := "<init>", desc := "()V", sig := { parameters := [], returnType := none }, accessFlags := 1, code := none }
def k1c1 : Code := { maxStack := 6, maxLocals := 15, code := code, exceptionTable := #[], attributes := #[] }
def k1m1 : Method := { name := "law", desc := "(JI)Z", sig := { parameters := [.long, .int], returnType := some .boolean }, accessFlags := 9, code := some k1c1 }
/-- com/example/lease_lock/leaselock/LeaseTermValidityOfPinLaw -/
def k1 : Class := { plain "com/example/lease_lock/leaselock/LeaseTermValidityOfPinLaw" (some 0) with
  accessFlags := 49
  interfaces := #[]
  cf := some (fileOf pool1 21 #[] #[{ accessFlags := 1, nameIndex := 5, descriptorIndex := 6, attributes := #[] }, { accessFlags := 9, nameIndex := 25, descriptorIndex := 26, attributes := #[] }] 49 2 #[] #[])
  fields := #[]
  methods := #[k1m0, k1m1]
  instanceTypes := #[]
  staticTypes := #[]
  resolved := Array.replicate 30 none
  statics := none }

def pool2 : Array CpInfo := pool [(2, .class_ 4), (1, u "java/lang/Object"), (3, .class_ 10), (1, u "com/example/lease_lock/leaselock/LeaseTerm"), (0, u "length"), (0, u "Ljava/time/Duration;"), (8, u "validityOf"), (0, u "(J)J"), (2, u "validityNanos"), (0, u "J"), (9, u "MIN_LENGTH"), (6, u "MAX_LENGTH"), (18, .long 99), (1, .long 100), (1, .long 2000000), (17, u "DEFAULT"), (0, u "Lcom/example/lease_lock/leaselock/LeaseTerm;"), (0, u "FIXED_DRIFT_NANOS")] 27

def k2c0 : Code := { maxStack := 6, maxLocals := 2, code := prog_9_method_3_code, exceptionTable := #[], attributes := #[] }
def k2m0 : Method := { name := "validityOf", desc := "(J)J", sig := { parameters := [.long], returnType := some .long }, accessFlags := 9, code := some k2c0 }
/-- com/example/lease_lock/leaselock/LeaseTerm -/
def k2 : Class := { plain "com/example/lease_lock/leaselock/LeaseTerm" (some 0) with
  accessFlags := 49
  interfaces := #[]
  cf := some (fileOf pool2 8 #[] #[{ accessFlags := 9, nameIndex := 21, descriptorIndex := 22, attributes := #[] }] 49 2 #[] #[{ accessFlags := 25, nameIndex := 36, descriptorIndex := 12, attributes := #[] }, { accessFlags := 25, nameIndex := 43, descriptorIndex := 12, attributes := #[] }, { accessFlags := 26, nameIndex := 86, descriptorIndex := 26, attributes := #[] }, { accessFlags := 25, nameIndex := 84, descriptorIndex := 85, attributes := #[] }, { accessFlags := 18, nameIndex := 11, descriptorIndex := 12, attributes := #[] }, { accessFlags := 18, nameIndex := 25, descriptorIndex := 26, attributes := #[] }])
  fields := #[{ name := "MIN_LENGTH", type := (.object "java/time/Duration"), accessFlags := 25, slot := 0, constantValue := 0 }, { name := "MAX_LENGTH", type := (.object "java/time/Duration"), accessFlags := 25, slot := 1, constantValue := 0 }, { name := "FIXED_DRIFT_NANOS", type := .long, accessFlags := 26, slot := 2, constantValue := 0 }, { name := "DEFAULT", type := (.object "com/example/lease_lock/leaselock/LeaseTerm"), accessFlags := 25, slot := 3, constantValue := 0 }, { name := "length", type := (.object "java/time/Duration"), accessFlags := 18, slot := 0, constantValue := 0 }, { name := "validityNanos", type := .long, accessFlags := 18, slot := 1, constantValue := 0 }]
  methods := #[k2m0]
  instanceTypes := #[(.object "java/time/Duration"), .long]
  staticTypes := #[(.object "java/time/Duration"), (.object "java/time/Duration"), .long, (.object "com/example/lease_lock/leaselock/LeaseTerm")]
  resolved := Array.replicate 114 none
  statics := none }

def pool3 : Array CpInfo := pool [(1, u "java/lang/Cloneable"), (0, .class_ 1), (0, u "java/lang/Object"), (0, .class_ 3)] 3

/-- java/lang/Cloneable -/
def k3 : Class := { plain "java/lang/Cloneable" (some 0) with
  accessFlags := 1537
  interfaces := #[]
  cf := some (fileOf pool3 2 #[] #[] 1537 4 #[] #[])
  fields := #[]
  methods := #[]
  instanceTypes := #[]
  staticTypes := #[]
  resolved := Array.replicate 8 none
  statics := none }

def pool4 : Array CpInfo := pool [(1, u "java/io/Serializable"), (0, .class_ 1), (0, u "java/lang/Object"), (0, .class_ 3)] 3

/-- java/io/Serializable -/
def k4 : Class := { plain "java/io/Serializable" (some 0) with
  accessFlags := 1537
  interfaces := #[]
  cf := some (fileOf pool4 2 #[] #[] 1537 4 #[] #[])
  fields := #[]
  methods := #[]
  instanceTypes := #[]
  staticTypes := #[]
  resolved := Array.replicate 8 none
  statics := none }

/-- the primitive byte -/
def k5 : Class := { plain "byte" none with kind := .primitive 'B', accessFlags := 0x411 }
/-- [B -/
def k6 : Class := { plain "[B" (some 0) with kind := .array 5 .byte, interfaces := #[3, 4], accessFlags := 1041 }

/-- the primitive int -/
def k7 : Class := { plain "int" none with kind := .primitive 'I', accessFlags := 0x411 }
/-- [I -/
def k8 : Class := { plain "[I" (some 0) with kind := .array 7 .int, interfaces := #[3, 4], accessFlags := 1041 }

def heap : Heap := #[]
def classes : Array Class := #[k0, k1, k2, k3, k4, k5, k6, k7, k8]
def interned : List (Array UInt16 × Addr) := []
def slotsUsed : Nat := 0
def theMethod : MethodId := ⟨1, 1⟩
def args0 : Array Value := #[.long 1234567, .int 0]
def aboutOver (below : List Frame) : State where
  vm := { classes := classes, interned := interned.toArray }
  heap := heap
  slotsUsed := slotsUsed
  threads := #[{ frames := .invoking theMethod args0 :: below }]
def below0 : List Frame := [.native { method := ⟨0, 0⟩, args := #[] }]
def about1 : State := aboutOver below0
def p0 : Program := .bare "" "" ""
def e0 : Env := launch0.env 0 0 0
theorem w_frames : about1.frames = Frame.invoking theMethod args0 :: below0 := rfl
set_option maxRecDepth 65536 in
theorem w_args : argsFit about1.vm theMethod args0 = true := by decide +kernel
set_option maxRecDepth 65536 in
theorem w_heap : heapFits about1 = true := by decide +kernel
set_option maxRecDepth 65536 in
theorem w_runnable : about1.curStatus? = some .runnable := by decide +kernel
set_option maxRecDepth 65536 in
theorem w_alone : about1.alone = true := by decide +kernel
set_option maxRecDepth 65536 in
theorem w_named : about1.methodNamed? x = some theMethod := by decide +kernel
set_option maxRecDepth 65536 in
theorem w_hears : about1.hears theMethod below0 = true := by decide +kernel
set_option maxRecDepth 65536 in
theorem w_ripe : about1.ripe theMethod args0 below0 = true := by decide +kernel
theorem w_running : about1.status = .running := rfl
set_option maxRecDepth 65536 in
theorem w_room : about1.hasRoom e0.platform room_1 = true :=
  launch0.hasRoom_least _ room_1 (by decide +kernel) (by decide +kernel) (by decide +kernel) (by decide +kernel) (by decide +kernel) (by decide +kernel)
theorem allAtoms_all (ts : List Jvm.Cond) (a : Array Jvm.Value) (st : Jvm.State) : (allAtoms ts).before a st = ts.all (fun c => c.before a st) := by
  induction ts with
  | nil => rfl
  | cons c t ih =>
    show (Jvm.Cond.and c (allAtoms t)).before a st = _
    rw [Jvm.Cond.before_and, ih, List.all_cons]
def words1 : List Jvm.Cond := Jvm.Cond.code x code maxLocals ret :: tables_1
/-- a 'code' word, met by the world's own term for the bytes: nothing is compared byte by byte -/
theorem code_word {y : MethodName} {bytes : ByteArray} {mx : Nat} {rt : Option FieldType} {a : Array Value} {s : State} {m : MethodId} {meth : Method} {c : Code} (h1 : s.methodNamed? y = some m) (h2 : s.vm.method? m = some meth) (h3 : meth.code = some c) (h4 : c.code = bytes)
    (h5 : (c.maxLocals == mx && c.exceptionTable.isEmpty && decide (c.maxStack ≤ mostOperands) && decide (meth.sig.returnType = rt) && !meth.locks && decide (parseMethodDescriptor y.desc = some meth.sig)) = true) : (Jvm.Cond.code y bytes mx rt).before a s = true := by
  simp only [Bool.and_eq_true, beq_iff_eq, Bool.not_eq_true', decide_eq_true_eq] at h5
  obtain ⟨⟨⟨⟨⟨g1, g2⟩, g3⟩, g4⟩, g5⟩, g6⟩ := h5
  simp [Cond.before, Cond.holds, Cond.value, h1, h2, h3, h4, g1, g2, g3, g4, g5, g6]
def isCode : Jvm.Cond → Bool
  | .code _ _ _ _ => true
  | _ => false
theorem all_split {L : List Jvm.Cond} {P : Jvm.Cond → Bool} (h1 : L.all (fun c => isCode c || P c) = true) (h2 : ∀ c ∈ L.filter isCode, P c = true) : L.all P = true := by
  refine List.all_eq_true.mpr fun c hc => ?_
  have h := List.all_eq_true.mp h1 c hc
  rcases Bool.eq_false_or_eq_true (isCode c) with hi | hi
  · exact h2 c (List.mem_filter.mpr ⟨hc, hi⟩)
  · simpa [hi] using h
set_option maxRecDepth 65536 in
theorem w_c0 : (Jvm.Cond.code x code maxLocals ret).before args0 about1 = true := code_word (m := ⟨1, 1⟩) (meth := k1m1) (c := k1c1) (by decide +kernel) rfl rfl rfl (by decide +kernel)
set_option maxRecDepth 65536 in
theorem w_c1 : (Jvm.Cond.code ({ cls := "com/example/lease_lock/leaselock/LeaseTerm", name := "validityOf", desc := "(J)J" } : Jvm.MethodName) prog_9_method_3_code (2 : Nat) (Option.some Jvm.ClassFile.FieldType.long)).before args0 about1 = true := code_word (m := ⟨2, 0⟩) (meth := k2m0) (c := k2c0) (by decide +kernel) rfl rfl rfl (by decide +kernel)
def codes1 : List Jvm.Cond := [Jvm.Cond.code x code maxLocals ret, Jvm.Cond.code ({ cls := "com/example/lease_lock/leaselock/LeaseTerm", name := "validityOf", desc := "(J)J" } : Jvm.MethodName) prog_9_method_3_code (2 : Nat) (Option.some Jvm.ClassFile.FieldType.long)]
set_option maxRecDepth 65536 in
theorem codes_eq : words1.filter isCode = codes1 := rfl
theorem w_codes : ∀ c ∈ words1.filter isCode, c.before args0 about1 = true := by
  rw [codes_eq]
  intro c hc
  simp only [codes1, List.mem_cons, List.not_mem_nil, or_false] at hc
  rcases hc with rfl | rfl
  · exact w_c0
  · exact w_c1
set_option maxRecDepth 65536 in
theorem w_t1 : words1.all (fun c => isCode c || c.before args0 about1) = true := by decide +kernel
theorem w_tables : (allAtoms (Jvm.Cond.code x code maxLocals ret :: tables_1)).before args0 about1 = true := by
  rw [allAtoms_all]
  show words1.all (fun c => c.before args0 about1) = true
  refine all_split ?_ w_codes
  rw [w_t1]
set_option maxRecDepth 65536 in
theorem w_case : (Jvm.Cond.and given_1 narrow_1).before args0 about1 = true := by decide +kernel
theorem w_applies : (headSpec (Jvm.Cond.code x code maxLocals ret :: tables_1) room_1).applies x e0.platform about1 = true :=
  (Spec.applies_iff w_frames).mpr ⟨w_running, w_runnable, w_alone, w_named, w_hears, w_ripe, w_room, w_tables⟩
theorem atStart : AtStart classFile x code maxLocals ret World_1 tables_1 room_1 Calls_1 rest_1 Pre_1 launch0 p0 e0 about1 theMethod args0 below0 :=
  ⟨lists_1, trivial, launch0.admits_env _ _ _, launch0.least_env, fairChoices_fair.cas, fairChoices_fair.clock, w_frames, w_args, w_heap, w_applies, trivial, trivial, w_case⟩
end start1
theorem witness_1 : WitnessClaimed_1 := ⟨start1.p0, start1.e0, start1.about1, start1.theMethod, start1.args0, start1.below0, start1.atStart⟩
end Jvm.Pilot.@@N@@
