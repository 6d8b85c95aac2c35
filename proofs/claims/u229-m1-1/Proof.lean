import JvmDerived
import JvmDerived.Pilot.@@N@@Statement
import JvmDerived.Pilot.@@N@@Code
set_option linter.unusedVariables false
set_option linter.unusedSimpArgs false
namespace Jvm.RoadKit
open Sem ClassFile Op Lib Jvm.Stand Jvm.Free Jvm.LawKit
section New
variable {p : Program} {l : Launch} {e : Env} {R : Room} {s : State} {m : MethodId} {args : Array Value} {below : List Frame} {meth : Method} {c : Code} {T : State} {locs : List Loc} {cells slots : Nat}
theorem retI (X : Stand p l e R s m args below meth c T locs cells slots) (hx : p.tables.exec = Jvm.exec) {pc : Nat} {Ls : Array Slot} {z : Int32} {rest : List Value} (hret : meth.sig.returnType = some .int) (hd : decode c.code pc = .ok (.ireturn, 1)) {fs : List Frame}
    (hl : ∀ (f : JFrame) (acts : List Action), f.method = m → f.locked = none → f.entered = [] → (doReturn e (T.setTop f) acts (some (.int z))).1 = T.setFrames fs) : Steps p.tables e below (T.setTop (mkF m pc Ls (.int z :: rest))) (T.setFrames fs) := by
  have hm' : T.vm.method? m = some meth := X.method'
  have hn : narrow .int (.int z) = .int z := rfl
  show Steps p.tables e below (T.setTop { method := m, pc := pc, locals := Ls, stack := _ :: rest, locked := none }) _
  jvm_step X.here [X.here.top, hx, hd, hm', hret, hn]
  first | (intro acts; rw [hl _ acts rfl rfl rfl]) | rw [hl _ _ rfl rfl rfl]
  exact Steps.refl _
end New
end Jvm.RoadKit
namespace Jvm.Pilot.@@N@@
open Jvm Jvm.ClassFile Sem Op Lib Jvm.Free Jvm.Stand Jvm.LawKit Jvm.RoadKit Bundle Jvm.Pilot.@@N@@.Jvm.D
theorem own_st {p : Program} {l : Launch} {e : Env} {R : Room} {s : State} {m : MethodId} {args : Array Value} {below : List Frame} {meth : Method} {c : Code} {T : State} {L : List Loc} {k n k' n' : Nat} (X : Stand p l e R s m args below meth c T L k n) (hk : k = k') (hn : n = n') : Stand p l e R s m args below meth c T L k' n' := by subst hk; subst hn; exact X
theorem own_fr {n : Nat} {L L' L2 : List Loc} (h : L = L' ++ L2) (N : Fr n L') (N2 : Fr n L2) : Fr n L := by rw [h]; exact Fr.app N N2
def own_Ar (Z : State) (h : Heap) (a : Addr) (ty : FieldType) (n : Nat) (f : Nat → Value) : Prop := ∃ c : Cell, (Arr Z h a c ty ∧ Z.vm.findClass ("[" ++ ty.toString) = some c.cls) ∧ c.slots.size = n ∧ ∀ i, i < n → c.slots[i]? = some (f i)
def own_upd (f : Nat → Value) (k : Nat) (v : Value) : Nat → Value := fun i => if i = k then v else f i
section OwnArr
variable {Z : State} {h h' : Heap} {a b : Addr} {ty : FieldType} {n : Nat} {f g : Nat → Value} {v : Value} {sl : Nat} {ws : List Addr}
theorem own_slots (c : Cell) (i : Nat) (v : Value) : (c.setSlot i v).slots = c.slots.setIfInBounds i v := rfl
theorem own_Ar.lt (F : own_Ar Z h a ty n f) : a < h.size := by obtain ⟨c, A, -⟩ := F; exact A.1.lt
theorem own_Ar.ext (F : own_Ar Z h a ty n f) (E : Ext h h') : own_Ar Z h' a ty n f := by obtain ⟨c, A, r⟩ := F; exact ⟨c, ⟨A.1.ext E, A.2⟩, r⟩
theorem own_Ar.other (F : own_Ar Z h b ty n f) (W : Wr h h' a sl v) (q : b ≠ a) : own_Ar Z h' b ty n f := by obtain ⟨c, A, r⟩ := F; exact ⟨c, ⟨A.1.other W q, A.2⟩, r⟩
theorem own_Ar.keep (F : own_Ar Z h a ty n f) (K : Keep h h' ws) (q : a ∉ ws) : own_Ar Z h' a ty n f := by obtain ⟨c, A, r⟩ := F; exact ⟨c, ⟨⟨K.2.1 a c A.1.1 q, A.1.2⟩, A.2⟩, r⟩
theorem own_Ar.set (F : own_Ar Z h a ty n f) (W : Wr h h' a sl v) : own_Ar Z h' a ty n (own_upd f sl v) := by
  obtain ⟨c, A, S, H⟩ := F
  refine ⟨_, ⟨A.1.same W, A.2⟩, by rw [sz_set]; exact S, fun i hi => ?_⟩
  rw [own_slots]
  by_cases q : i = sl
  · subst q
    rw [Array.getElem?_setIfInBounds_self_of_lt (by rw [S]; exact hi)]
    exact congrArg some (if_pos rfl).symm
  · rw [Array.getElem?_setIfInBounds_ne (Ne.symm q), H i hi]
    exact congrArg some (if_neg q).symm
theorem own_Ar.congr (F : own_Ar Z h a ty n f) (q : ∀ i, i < n → f i = g i) : own_Ar Z h a ty n g := by
  obtain ⟨c, A, S, H⟩ := F; exact ⟨c, A, S, fun i hi => by rw [H i hi, q i hi]⟩
theorem own_ld {c : Cell} (S : c.slots.size = n) (H : ∀ i, i < n → c.slots[i]? = some (f i)) {j : Int32} {i : Nat} (hj : ¬ j < 0) (hji : j.toNatClampNeg = i) (hi : i < n) {v : Value} (hv : f i = v) : ¬ (j < 0 ∨ c.slots.size ≤ j.toNatClampNeg) ∧ c.slots[j.toNatClampNeg]? = some v :=
  ⟨by rw [S, hji]; intro q; rcases q with q | q
      · exact hj q
      · omega, by rw [hji, H i hi, hv]⟩
end OwnArr
section OwnLaws
variable {p : Program} {l : Launch} {e : Env} {R : Room} {s : State} {m : MethodId} {args : Array Value} {below : List Frame} {meth : Method} {c : Code} {T : State} {locs : List Loc} {cells slots : Nat} {Z : State} {a0 : Array Value} {h : Heap}
theorem own_newP (X : Stand p l e R s m args below meth c T locs cells slots) (hx : p.tables.exec = Jvm.exec) (hZ : Z.Warmed39 s.vm) {aty : ArrayType} (w : (Cond.arrayClass (newarray.typeOf aty)).before a0 Z = true) (eT : T.heap = h) {g : JFrame} (hg : g.method = m) (hd : decode c.code g.pc = .ok (.newarray aty, 2)) {n : Int32} {rest : List Value} (hs : g.stack = .int n :: rest)
    (hn : ¬ n < 0) {cap : Nat} (hcap : n.toNatClampNeg ≤ cap) (hb : cap * 8 ≤ 536870912) (hc : cells + 1 ≤ R.cells) (hl : slots + cap ≤ R.slots) :
    ∃ T' h', Stand p l e R s m args below meth c T' locs (cells + 1) (slots + cap) ∧ T'.heap = h' ∧ Ext h h' ∧ own_Ar Z h' h.size (newarray.typeOf aty) n.toNatClampNeg (fun _ => defaultValue (newarray.typeOf aty)) ∧
      ∀ target, Steps p.tables e below (T'.setTop { g with pc := g.pc + 2, stack := .ref h.size :: rest }) target → Steps p.tables e below (T.setTop g) target := by
  have hcb : componentBytes (newarray.typeOf aty) ≤ 8 := by cases aty <;> decide
  obtain ⟨cA, kA, comp, h1, h2, h3, X', st⟩ := X.newarrayPrim hx (mvA hZ w) hg hd hs hn (Nat.le_trans (Nat.mul_le_mul hcap hcb) hb) hc (Nat.le_trans (Nat.add_le_add_left hcap _) hl)
  subst eT
  have hat : (T.heap.push { cls := cA, slots := Array.replicate n.toNatClampNeg (defaultValue (newarray.typeOf aty)), vm := .none })[T.heap.size]? = some { cls := cA, slots := Array.replicate n.toNatClampNeg (defaultValue (newarray.typeOf aty)), vm := .none } := Array.getElem?_push_size
  refine ⟨_, _, X'.more (Nat.le_refl _) (Nat.add_le_add_left hcap _), rfl, ⟨?_, fun y cy hy => ?_⟩, ⟨_, ⟨⟨hat, State.isArrayOf_alike hZ.alike.symm ⟨fun k => (nomatch ·), kA, h2, comp, h3⟩, (nomatch ·)⟩, ?_⟩, ?_, fun i hi => ?_⟩, st⟩
  · show T.heap.size ≤ (T.heap.push _).size
    rw [Array.size_push]; exact Nat.le_succ _
  · show (T.heap.push _)[y]? = some cy
    rw [Array.getElem?_push_lt (Array.getElem?_eq_some_iff.mp hy).1]; exact (Array.getElem?_eq_getElem _).symm.trans hy
  · rw [hZ.alike.findClass] at h1; exact h1
  · exact Array.size_replicate
  · show (Array.replicate _ _)[i]? = _
    rw [Array.getElem?_replicate, if_pos hi]
theorem own_copy (X : Stand p l e R s m args below meth c T locs cells slots) (hx : p.tables.exec = Jvm.exec) (hZ : Z.Warmed39 s.vm) {own : String} {idx : Nat} (hown : s.vm.findClass own = some m.cls)
    (wl : (Cond.methodLink own idx Jvm.Free.JA.CopyOfI.yN).before a0 Z = true) (ws : (Cond.static Jvm.Free.JA.CopyOfI.yN).before a0 Z = true) (wt : ∀ (a' : Array Value), Jvm.Free.JA.CopyOfI.tab.before a' s = true) (wi : (Cond.initialized "java/util/Arrays").before a0 Z = true) (wc : (Cond.code Jvm.Free.JA.CopyOfI.yN Jvm.Free.JA.CopyOfI.yB 3 (some (.array .int))).before a0 Z = true)
    (eT : T.heap = h) {d : Addr} {N n : Nat} {v : Nat → Int32} (V : own_Ar Z h d .int N (fun i => .int (v i))) (hN : N < 2 ^ 31) (hn : n ≤ 134217728) {g : JFrame} (hg : g.method = m) (hsize : g.locals.size = c.maxLocals) {rest : List Value} (hs : g.stack = .int (Int32.ofNat n) :: .ref d :: rest) {W : Nat} (hW : 2 * g.monitorRoom + (rest.map fun v => v.category).sum ≤ W) (hd : decode c.code g.pc = .ok (.invokestatic idx, 3))
    (hfr : 2 ≤ R.frames) (hlo : W + 54 ≤ R.locals) (hc : cells + 1 ≤ R.cells) (hl : slots + n ≤ R.slots) :
    ∃ T' h', Stand p l e R s m args below meth c T' locs (cells + 1) (slots + n) ∧ T'.heap = h' ∧ Ext h h' ∧ own_Ar Z h' h.size .int n (fun i => .int (if i < N then v i else 0)) ∧
      ∀ target, Steps p.tables e below (T'.setTop { g with pc := g.pc + 3, stack := .ref h.size :: rest }) target → Steps p.tables e below (T.setTop g) target := by
  obtain ⟨A, ⟨A1, A2⟩, S, H⟩ := V
  subst eT
  have hty : Jvm.Free.XT.Typed .int A := fun i x hx => by
    have hi : i < N := by rw [← S]; exact (Array.getElem?_eq_some_iff.mp hx).1
    rw [H i hi] at hx
    cases hx; rfl
  obtain ⟨r, vm₁, ⟨T', L', k', j'⟩, hW1, X', ⟨hE, l1, l2, l3⟩, st⟩ := Jvm.LawKit.callS X hx (y := Jvm.Free.JA.CopyOfI.yN) hown (mvT hZ wl) (mvT hZ ws) (mvT hZ wi) (mvT hZ wc) (by decide) (Jvm.Free.JA.CopyOfI.pays (W := W) d A n (wt args) hfr hlo) (g := g) hg hsize (argsL := [.ref d, .int (Int32.ofNat n)]) (rest := rest) (lenOf (ps := [.array .int, .int]) (r := some (.array .int)) (by decide +kernel) rfl) hs hW hd
    (fun vm hvm => ⟨hc, hl, rfl, ⟨A1.1, State.isArrayOf_alike (hZ.alike.trans hvm.alike) A1.2.1, A1.2.2, by rw [S]; exact hN⟩, by show vm.findClass "[I" = _; rw [(hZ.alike.trans hvm.alike).findClass]; exact A2, hty, hn⟩)
  dsimp only [Pt.U, Pt.locs, Pt.cells, Pt.slots] at X' l1 l2 l3 st hE
  rw [List.append_nil] at l1
  subst l1 l2 l3
  obtain ⟨rfl, B, B1, B2, B3, B4, B5, B6⟩ := hE
  have hal : Z.vm.Alike T'.vm := hZ.alike.trans X'.warmed.alike
  refine ⟨T', _, X', rfl, ⟨Nat.le_of_lt (Array.getElem?_eq_some_iff.mp B1.1).1, fun y cy hy => B6 y cy hy⟩, ⟨B, ⟨⟨B1.1, State.isArrayOf_alike hal.symm B1.2.1, B1.2.2.1⟩, by rw [← hal.findClass]; exact B3⟩, B4, fun i hi => ?_⟩, st⟩
  rw [B5 i hi]
  show some (A.slots.getD i (defaultValue .int)) = some (Value.int (if i < N then v i else 0))
  by_cases q : i < N
  · rw [if_pos q, Array.getD_eq_getD_getElem?, H i q]; rfl
  · rw [if_neg q, Array.getD_eq_getD_getElem?, Array.getElem?_eq_none (by rw [S]; omega)]; rfl
end OwnLaws
theorem own_i32 {i : Nat} (h : i < 2 ^ 31) : (Int32.ofNat i).toInt = i := Int32.toInt_ofNat_small h
theorem own_lt {i n : Nat} (hi : i < 2 ^ 31) (hn : n < 2 ^ 31) : Int32.ofNat i < Int32.ofNat n ↔ i < n := by
  rw [Int32.lt_iff_toInt_lt, own_i32 hi, own_i32 hn]; omega
theorem own_n0 {n : Nat} (hn : n < 2 ^ 31) : ¬ Int32.ofNat n < 0 := by
  rw [Int32.lt_iff_toInt_lt, own_i32 hn, show (0 : Int32).toInt = 0 from rfl]; omega
theorem own_n32 {n : Nat} (hn : n < 2 ^ 31) : (Int32.ofNat n).toNatClampNeg = n := by
  rw [Int32.toNatClampNeg, own_i32 hn]; rfl
theorem own_one (i : Nat) : Int32.ofNat i + (1 : Int32) = Int32.ofNat (i + 1) := (Int32.ofNat_add i 1).symm
theorem own_two (i : Nat) : Int32.ofNat i * (2 : Int32) = Int32.ofNat (i * 2) := (Int32.ofNat_mul i 2).symm
theorem own_plus (i j : Nat) : Int32.ofNat i + Int32.ofNat j = Int32.ofNat (i + j) := (Int32.ofNat_add i j).symm
theorem own_ij {i j : Nat} (hi : i < 2 ^ 31) (hj : j < 2 ^ 31) : Int32.ofNat i = Int32.ofNat j ↔ i = j := by
  constructor
  · intro h
    have := congrArg Int32.toInt h
    rw [own_i32 hi, own_i32 hj] at this
    omega
  · intro h; rw [h]
theorem own_sub {i q : Nat} (h : q ≤ i) (hi : i < 2 ^ 31) : Int32.ofNat i - Int32.ofNat q = Int32.ofNat (i - q) := by
  apply Int32.toInt_inj.mp
  have a := c_isub (Int32.ofNat i) (Int32.ofNat q)
  have b := rng32 (Int32.ofNat i - Int32.ofNat q)
  rw [own_i32 hi, own_i32 (show q < 2 ^ 31 by omega)] at a
  rw [own_i32 (show i - q < 2 ^ 31 by omega)]
  omega
theorem own_sub1 {n : Nat} (h : 1 ≤ n) (hi : n < 2 ^ 31) : Int32.ofNat n - (1 : Int32) = Int32.ofNat (n - 1) := own_sub h hi
def own_updI (f : Nat → Int32) (k : Nat) (v : Int32) : Nat → Int32 := fun i => if i = k then v else f i
def own_Pf (Z : State) (h : Heap) (a : Addr) (n k : Nat) (f : Nat → Int32) : Prop := ∃ g : Nat → Int32, own_Ar Z h a .int n (fun i => .int (g i)) ∧ ∀ i, i < k → g i = f i
theorem own_Pf.of {Z : State} {h : Heap} {a : Addr} {n k : Nat} {f g : Nat → Int32} (V : own_Ar Z h a .int n (fun i => .int (g i))) (q : ∀ i, i < k → g i = f i) : own_Pf Z h a n k f := ⟨g, V, q⟩
theorem own_Pf.put {Z : State} {h : Heap} {a : Addr} {n k : Nat} {f g : Nat → Int32} {x : Int32} (V : own_Ar Z h a .int n (own_upd (fun i => .int (g i)) k (.int x))) (q : ∀ i, i < k → g i = f i) : own_Pf Z h a n (k + 1) (own_updI f k x) :=
  ⟨own_updI g k x, V.congr fun i _ => by unfold own_upd own_updI; split <;> rfl, fun i hi => by
    unfold own_updI
    by_cases z : i = k
    · rw [if_pos z, if_pos z]
    · rw [if_neg z, if_neg z]; exact q i (by omega)⟩
theorem own_Pf.le {Z : State} {h : Heap} {a : Addr} {n k k' : Nat} {f : Nat → Int32} (V : own_Pf Z h a n k f) (q : k' ≤ k) : own_Pf Z h a n k' f := by
  obtain ⟨g, V, hg⟩ := V; exact ⟨g, V, fun i hi => hg i (by omega)⟩
theorem own_Pf.grown {Z : State} {h : Heap} {a : Addr} {n N k : Nat} {f g : Nat → Int32} (V : own_Ar Z h a .int n (fun i => .int (if i < N then g i else 0))) (q : ∀ i, i < k → g i = f i) (hk : k ≤ N) : own_Pf Z h a n k f :=
  ⟨fun i => if i < N then g i else 0, V, fun i hi => by show (if i < N then g i else 0) = f i; rw [if_pos (show i < N by omega)]; exact q i hi⟩
def own_Bd (Z : State) (h : Heap) (n0 : Nat) (a dd ds dp : Addr) (dl sl pl dc ks pc : Nat) (df sf pf : Nat → Int32) : Prop :=
  (Fld Z h a "com/example/esteem/esteem/index/Postings$Builder" "docs" "[I" (.ref dd) ∧ Fld Z h a "com/example/esteem/esteem/index/Postings$Builder" "starts" "[I" (.ref ds) ∧ Fld Z h a "com/example/esteem/esteem/index/Postings$Builder" "positions" "[I" (.ref dp) ∧ Fld Z h a "com/example/esteem/esteem/index/Postings$Builder" "docCount" "I" (.int (Int32.ofNat dc)) ∧ Fld Z h a "com/example/esteem/esteem/index/Postings$Builder" "positionCount" "I" (.int (Int32.ofNat pc)) ∧ Exa Z h a "com/example/esteem/esteem/index/Postings$Builder") ∧ (own_Pf Z h dd dl dc df ∧ own_Pf Z h ds sl ks sf ∧ own_Pf Z h dp pl pc pf) ∧ (dd ≠ ds ∧ dd ≠ dp ∧ ds ≠ dp ∧ a ≠ dd ∧ a ≠ ds ∧ a ≠ dp) ∧ (n0 ≤ a ∧ n0 ≤ dd ∧ n0 ≤ ds ∧ n0 ≤ dp) ∧ (dc ≤ dl ∧ 1 ≤ dl ∧ dl ≤ 8 ∧ dl + 1 ≤ sl ∧ sl ≤ 16 ∧ pc ≤ pl ∧ 1 ≤ pl ∧ pl ≤ 8)
def own_Po (Z : State) (h : Heap) (n0 : Nat) (a dd ds dp : Addr) (dc pc : Nat) (df sf pf : Nat → Int32) : Prop :=
  (Fld Z h a "com/example/esteem/esteem/index/Postings" "docs" "[I" (.ref dd) ∧ Fld Z h a "com/example/esteem/esteem/index/Postings" "starts" "[I" (.ref ds) ∧ Fld Z h a "com/example/esteem/esteem/index/Postings" "positions" "[I" (.ref dp) ∧ Exa Z h a "com/example/esteem/esteem/index/Postings") ∧ (own_Pf Z h dd dc dc df ∧ own_Pf Z h ds (dc + 1) (dc + 1) sf ∧ own_Pf Z h dp pc pc pf)
theorem own_mvn {Z s : State} {a0 args : Array Value} {own host : String} {idx : Nat} {y : MethodName} (hZ : Z.Warmed39 s.vm) (w : (Cond.methodLinkNest own idx y host).before a0 Z = true) : (Cond.methodLinkNest own idx y host).before args s = true := (Cond.methodLinkNest_wide hZ w :)
theorem own_st2 {p : Program} {l : Launch} {e : Env} {R : Room} {s : State} {m : MethodId} {args : Array Value} {below : List Frame} {meth : Method} {c : Code} {T : State} {L : List Loc} {k n k' n' : Nat} (X : Stand p l e R s m args below meth c T L k n) (hk : k ≤ k') (hn : n ≤ n') : Stand p l e R s m args below meth c T L k' n' := X.more hk hn
theorem own_tab {Z s : State} {a0 : Array Value} (hZ : Z.Warmed39 s.vm) (hw : ∀ d ∈ tables_1, d.before a0 Z = true) (a' : Array Value) : Jvm.Free.JA.CopyOfI.tab.before a' s = true := by
  refine Jvm.Free.XT.unparts (mvT hZ (hw _ (List.mem_of_getElem? (i := 34) rfl))) ?_
  intro w hwm
  have hq : w ∈ ([.initialized "java/util/Arrays", .classLink "java/util/Arrays" 317 "[I", .castable "[I" "[I", .arrayClass .int, Jvm.Free.JP.Math_min_II.tab, .methodLink "java/util/Arrays" 316 (⟨"[I", "clone", "()Ljava/lang/Object;"⟩ : MethodName), .sameMethod "[I" "java/lang/Object" "clone" "()Ljava/lang/Object;", .native (⟨"java/lang/Object", "clone", "()Ljava/lang/Object;"⟩ : MethodName), .instanceMethod (⟨"java/lang/Object", "clone", "()Ljava/lang/Object;"⟩ : MethodName), .selects "[I" (⟨"[I", "clone", "()Ljava/lang/Object;"⟩ : MethodName) (⟨"java/lang/Object", "clone", "()Ljava/lang/Object;"⟩ : MethodName), .castable "[I" "java/lang/Cloneable", .methodLink "java/util/Arrays" 304 (⟨"java/lang/Math", "min", "(II)I"⟩ : MethodName), .static (⟨"java/lang/Math", "min", "(II)I"⟩ : MethodName), .methodLink "java/util/Arrays" 150 (⟨"java/lang/System", "arraycopy", "(Ljava/lang/Object;ILjava/lang/Object;II)V"⟩ : MethodName), .native (⟨"java/lang/System", "arraycopy", "(Ljava/lang/Object;ILjava/lang/Object;II)V"⟩ : MethodName), .static (⟨"java/lang/System", "arraycopy", "(Ljava/lang/Object;ILjava/lang/Object;II)V"⟩ : MethodName), .initialized "java/lang/System"] : List Jvm.Cond) := hwm
  simp only [List.mem_cons, List.not_mem_nil, or_false] at hq
  rcases hq with rfl | rfl | rfl | rfl | rfl | rfl | rfl | rfl | rfl | rfl | rfl | rfl | rfl | rfl | rfl | rfl | rfl
  · exact mvT hZ (hw _ (List.mem_of_getElem? (i := 33) rfl))
  · exact mvT hZ (hw _ (List.mem_of_getElem? (i := 58) rfl))
  · exact mvT hZ (hw _ (List.mem_of_getElem? (i := 59) rfl))
  · exact mvA hZ (hw _ (List.mem_of_getElem? (i := 11) rfl))
  · exact Jvm.Free.XT.unparts (mvT hZ (hw _ (List.mem_of_getElem? (i := 38) rfl))) (fun w hq => by cases List.mem_singleton.mp hq; exact mvT hZ (hw _ (List.mem_of_getElem? (i := 37) rfl)))
  · exact mvT hZ (hw _ (List.mem_of_getElem? (i := 51) rfl))
  · exact mvT hZ (hw _ (List.mem_of_getElem? (i := 52) rfl))
  · exact mvT hZ (hw _ (List.mem_of_getElem? (i := 56) rfl))
  · exact mvT hZ (hw _ (List.mem_of_getElem? (i := 54) rfl))
  · exact mvT hZ (hw _ (List.mem_of_getElem? (i := 55) rfl))
  · exact mvT hZ (hw _ (List.mem_of_getElem? (i := 57) rfl))
  · exact mvT hZ (hw _ (List.mem_of_getElem? (i := 35) rfl))
  · exact mvT hZ (hw _ (List.mem_of_getElem? (i := 36) rfl))
  · exact mvT hZ (hw _ (List.mem_of_getElem? (i := 39) rfl))
  · exact mvT hZ (hw _ (List.mem_of_getElem? (i := 42) rfl))
  · exact mvT hZ (hw _ (List.mem_of_getElem? (i := 40) rfl))
  · exact mvT hZ (hw _ (List.mem_of_getElem? (i := 41) rfl))
def own_last (dc : Nat) (df : Nat → Int32) : Int32 := if dc = 0 then (-1 : Int32) else df (dc - 1)
def own_same (x y : Int32) : Int32 := if x = y then 1 else 0
theorem d3_77 : decode prog_22_method_2_code 77 = .ok (.aload_n 0, 1) := by decide +kernel
theorem d3_78 : decode prog_22_method_2_code 78 = .ok (.getfield 19, 3) := by decide +kernel
theorem d3_81 : decode prog_22_method_2_code 81 = .ok (.aload_n 0, 1) := by decide +kernel
theorem d3_82 : decode prog_22_method_2_code 82 = .ok (.getfield 7, 3) := by decide +kernel
theorem d3_85 : decode prog_22_method_2_code 85 = .ok (.arraylength, 1) := by decide +kernel
theorem d3_86 : decode prog_22_method_2_code 86 = .ok (.if_icmp .ne 39, 3) := by decide +kernel
theorem d3_89 : decode prog_22_method_2_code 89 = .ok (.aload_n 0, 1) := by decide +kernel
theorem d3_90 : decode prog_22_method_2_code 90 = .ok (.aload_n 0, 1) := by decide +kernel
theorem d3_91 : decode prog_22_method_2_code 91 = .ok (.getfield 7, 3) := by decide +kernel
theorem d3_94 : decode prog_22_method_2_code 94 = .ok (.aload_n 0, 1) := by decide +kernel
theorem d3_95 : decode prog_22_method_2_code 95 = .ok (.getfield 19, 3) := by decide +kernel
theorem d3_98 : decode prog_22_method_2_code 98 = .ok (.iconst 2, 1) := by decide +kernel
theorem d3_99 : decode prog_22_method_2_code 99 = .ok (.imul, 1) := by decide +kernel
theorem d3_100 : decode prog_22_method_2_code 100 = .ok (.invokestatic 36, 3) := by decide +kernel
theorem d3_103 : decode prog_22_method_2_code 103 = .ok (.putfield 7, 3) := by decide +kernel
theorem d3_106 : decode prog_22_method_2_code 106 = .ok (.aload_n 0, 1) := by decide +kernel
theorem d3_107 : decode prog_22_method_2_code 107 = .ok (.aload_n 0, 1) := by decide +kernel
theorem d3_108 : decode prog_22_method_2_code 108 = .ok (.getfield 13, 3) := by decide +kernel
theorem d3_111 : decode prog_22_method_2_code 111 = .ok (.aload_n 0, 1) := by decide +kernel
theorem d3_112 : decode prog_22_method_2_code 112 = .ok (.getfield 19, 3) := by decide +kernel
theorem d3_115 : decode prog_22_method_2_code 115 = .ok (.iconst 2, 1) := by decide +kernel
theorem d3_116 : decode prog_22_method_2_code 116 = .ok (.imul, 1) := by decide +kernel
theorem d3_117 : decode prog_22_method_2_code 117 = .ok (.iconst 1, 1) := by decide +kernel
theorem d3_118 : decode prog_22_method_2_code 118 = .ok (.iadd, 1) := by decide +kernel
theorem d3_119 : decode prog_22_method_2_code 119 = .ok (.invokestatic 36, 3) := by decide +kernel
theorem d3_122 : decode prog_22_method_2_code 122 = .ok (.putfield 13, 3) := by decide +kernel
set_option maxRecDepth 65536 in
set_option maxHeartbeats 40000000 in
theorem tn_grow {p : Program} {l : Launch} {e : Env} {R : Room} {s : State} {m : MethodId} {args : Array Value} {below : List Frame} {meth : Method} {c : Code} {T0 : State} {locs : List Loc} {cells slots : Nat} {Z : State} {a0 : Array Value} {h0 : Heap} {n0 : Nat} (a1 : Addr) (p1 p2 p3 p4 : Int32) (dd ds dp : Addr) (dl sl pl dc ks pc : Nat) (df sf pf : Nat → Int32)
    (X0 : Stand p l e R s m args below meth c T0 locs cells slots) (hx : p.tables.exec = Jvm.exec) (hZ : Z.Warmed39 s.vm) (hw : ∀ d ∈ tables_1, d.before a0 Z = true) (hby : c.code = prog_22_method_2_code) (hml : c.maxLocals = 5) (hown : s.vm.findClass "com/example/esteem/esteem/index/Postings$Builder" = some m.cls) (e0 : T0.heap = h0) (B : own_Bd Z h0 n0 a1 dd ds dp dl sl pl dc ks pc df sf pf) (hRf : 2 ≤ R.frames) (hRl : 70 ≤ R.locals) (N0 : Fr n0 locs) (Z0 : n0 ≤ h0.size) (hdc : dc ≤ 2) (hks : ks ≤ dc + 1) (hRc : cells + 2 ≤ R.cells) (hRs : slots + 9 ≤ R.slots) :
    ∃ (T' : State) (locs' : List Loc) (dd' ds' : Addr) (dl' sl' : Nat), Stand p l e R s m args below meth c T' locs' (cells + 2) (slots + 9) ∧ Fr n0 locs' ∧ Keep h0 T'.heap [a1] ∧ own_Bd Z T'.heap n0 a1 dd' ds' dp dl' sl' pl dc ks pc df sf pf ∧ dc < dl' ∧ (dd' = dd ∨ h0.size ≤ dd') ∧ (ds' = ds ∨ h0.size ≤ ds') ∧
      ∀ t, Steps p.tables e below (T'.setTop (mkF m 125 #[.val (.ref a1), .val (.int p1), .val (.int p2), .val (.int p3), .val (.int p4)] [])) t → Steps p.tables e below (T0.setTop (mkF m 77 #[.val (.ref a1), .val (.int p1), .val (.int p2), .val (.int p3), .val (.int p4)] [])) t := by
  have pre0 : ∀ t, Steps p.tables e below (T0.setTop (mkF m 77 #[.val (.ref a1), .val (.int p1), .val (.int p2), .val (.int p3), .val (.int p4)] [])) t → Steps p.tables e below (T0.setTop (mkF m 77 #[.val (.ref a1), .val (.int p1), .val (.int p2), .val (.int p3), .val (.int p4)] [])) t := fun t kT => kT
  obtain ⟨⟨F0, F1, F2, F3, F4, E0⟩, ⟨⟨gd, VD, hgd⟩, ⟨gs, VS, hgs⟩, ⟨gp, VP, hgp⟩⟩, ⟨n1, n2, n3, n4, n5, n6⟩, ⟨q0, q1, q2, q3⟩, ⟨b0, b1, b2, b3, b4, b5, b6, b7⟩⟩ := id B
  have pre1 : ∀ t, Steps p.tables e below (T0.setTop (mkF m 78 #[.val (.ref a1), .val (.int p1), .val (.int p2), .val (.int p3), .val (.int p4)] [(.ref a1)])) t → Steps p.tables e below (T0.setTop (mkF m 77 #[.val (.ref a1), .val (.int p1), .val (.int p2), .val (.int p3), .val (.int p4)] [])) t := fun t kT => pre0 t (by
    show Steps p.tables e below (T0.setTop (mkF m 77 #[.val (.ref a1), .val (.int p1), .val (.int p2), .val (.int p3), .val (.int p4)] [])) _
    refine XS.aloadN X0.here hx rfl (hb hby d3_77) rfl rfl ?_
    exact kT)
  obtain ⟨T2, X2, e2, st2⟩ := getF X0 hx hZ hown (host := "") (Or.inl (hw _ (List.mem_of_getElem? (i := 23) rfl))) Via.refl e0 F3 (g := (mkF m 78 #[.val (.ref a1), .val (.int p1), .val (.int p2), .val (.int p3), .val (.int p4)] [(.ref a1)])) rfl rfl (hb hby d3_78)
  have pre3 : ∀ t, Steps p.tables e below (T2.setTop (mkF m 81 #[.val (.ref a1), .val (.int p1), .val (.int p2), .val (.int p3), .val (.int p4)] [(.int (Int32.ofNat dc))])) t → Steps p.tables e below (T0.setTop (mkF m 77 #[.val (.ref a1), .val (.int p1), .val (.int p2), .val (.int p3), .val (.int p4)] [])) t := fun t kT => pre1 t (st2 t kT)
  have pre4 : ∀ t, Steps p.tables e below (T2.setTop (mkF m 82 #[.val (.ref a1), .val (.int p1), .val (.int p2), .val (.int p3), .val (.int p4)] [(.ref a1), (.int (Int32.ofNat dc))])) t → Steps p.tables e below (T0.setTop (mkF m 77 #[.val (.ref a1), .val (.int p1), .val (.int p2), .val (.int p3), .val (.int p4)] [])) t := fun t kT => pre3 t (by
    show Steps p.tables e below (T2.setTop (mkF m 81 #[.val (.ref a1), .val (.int p1), .val (.int p2), .val (.int p3), .val (.int p4)] [(.int (Int32.ofNat dc))])) _
    refine XS.aloadN X2.here hx rfl (hb hby d3_81) rfl rfl ?_
    exact kT)
  obtain ⟨T5, X5, e5, st5⟩ := getF X2 hx hZ hown (host := "") (Or.inl (hw _ (List.mem_of_getElem? (i := 12) rfl))) Via.refl e2 F0 (g := (mkF m 82 #[.val (.ref a1), .val (.int p1), .val (.int p2), .val (.int p3), .val (.int p4)] [(.ref a1), (.int (Int32.ofNat dc))])) rfl rfl (hb hby d3_82)
  have pre6 : ∀ t, Steps p.tables e below (T5.setTop (mkF m 85 #[.val (.ref a1), .val (.int p1), .val (.int p2), .val (.int p3), .val (.int p4)] [(.ref dd), (.int (Int32.ofNat dc))])) t → Steps p.tables e below (T0.setTop (mkF m 77 #[.val (.ref a1), .val (.int p1), .val (.int p2), .val (.int p3), .val (.int p4)] [])) t := fun t kT => pre4 t (st5 t kT)
  obtain ⟨co7, ⟨Ao7, Ko7⟩, So7, Ho7⟩ := id VD
  have pre8 : ∀ t, Steps p.tables e below (T5.setTop (mkF m 86 #[.val (.ref a1), .val (.int p1), .val (.int p2), .val (.int p3), .val (.int p4)] [(.int (Int32.ofNat dl)), (.int (Int32.ofNat dc))])) t → Steps p.tables e below (T0.setTop (mkF m 77 #[.val (.ref a1), .val (.int p1), .val (.int p2), .val (.int p3), .val (.int p4)] [])) t := fun t kT => pre6 t (by
    show Steps p.tables e below (T5.setTop (mkF m 85 #[.val (.ref a1), .val (.int p1), .val (.int p2), .val (.int p3), .val (.int p4)] [(.ref dd), (.int (Int32.ofNat dc))])) _
    refine X5.arraylength hx (by rw [e5]; exact Ao7.1) (State.isArrayOf_alike hZ.alike Ao7.2.1) (g := (mkF m 85 #[.val (.ref a1), .val (.int p1), .val (.int p2), .val (.int p3), .val (.int p4)] [(.ref dd), (.int (Int32.ofNat dc))])) rfl rfl (hb hby d3_85) _ ?_
    rw [So7]
    exact kT)
  by_cases hgr : (Int32.ofNat dc) = (Int32.ofNat dl)
  · have hg := (own_ij (by omega) (by omega)).mp hgr
    have pre9 : ∀ t, Steps p.tables e below (T5.setTop (mkF m 91 #[.val (.ref a1), .val (.int p1), .val (.int p2), .val (.int p3), .val (.int p4)] [(.ref a1), (.ref a1)])) t → Steps p.tables e below (T0.setTop (mkF m 77 #[.val (.ref a1), .val (.int p1), .val (.int p2), .val (.int p3), .val (.int p4)] [])) t := fun t kT => pre8 t (by
      show Steps p.tables e below (T5.setTop (mkF m 86 #[.val (.ref a1), .val (.int p1), .val (.int p2), .val (.int p3), .val (.int p4)] [(.int (Int32.ofNat dl)), (.int (Int32.ofNat dc))])) _
      refine XS.icmpNo X5.here hx rfl (hb hby d3_86) rfl (teq hgr).2 ?_
      show Steps p.tables e below (T5.setTop (mkF m 89 #[.val (.ref a1), .val (.int p1), .val (.int p2), .val (.int p3), .val (.int p4)] [])) _
      refine XS.aloadN X5.here hx rfl (hb hby d3_89) rfl rfl ?_
      show Steps p.tables e below (T5.setTop (mkF m 90 #[.val (.ref a1), .val (.int p1), .val (.int p2), .val (.int p3), .val (.int p4)] [(.ref a1)])) _
      refine XS.aloadN X5.here hx rfl (hb hby d3_90) rfl rfl ?_
      exact kT)
    obtain ⟨T10, X10, e10, st10⟩ := getF X5 hx hZ hown (host := "") (Or.inl (hw _ (List.mem_of_getElem? (i := 12) rfl))) Via.refl e5 F0 (g := (mkF m 91 #[.val (.ref a1), .val (.int p1), .val (.int p2), .val (.int p3), .val (.int p4)] [(.ref a1), (.ref a1)])) rfl rfl (hb hby d3_91)
    have pre11 : ∀ t, Steps p.tables e below (T10.setTop (mkF m 94 #[.val (.ref a1), .val (.int p1), .val (.int p2), .val (.int p3), .val (.int p4)] [(.ref dd), (.ref a1)])) t → Steps p.tables e below (T0.setTop (mkF m 77 #[.val (.ref a1), .val (.int p1), .val (.int p2), .val (.int p3), .val (.int p4)] [])) t := fun t kT => pre9 t (st10 t kT)
    have pre12 : ∀ t, Steps p.tables e below (T10.setTop (mkF m 95 #[.val (.ref a1), .val (.int p1), .val (.int p2), .val (.int p3), .val (.int p4)] [(.ref a1), (.ref dd), (.ref a1)])) t → Steps p.tables e below (T0.setTop (mkF m 77 #[.val (.ref a1), .val (.int p1), .val (.int p2), .val (.int p3), .val (.int p4)] [])) t := fun t kT => pre11 t (by
      show Steps p.tables e below (T10.setTop (mkF m 94 #[.val (.ref a1), .val (.int p1), .val (.int p2), .val (.int p3), .val (.int p4)] [(.ref dd), (.ref a1)])) _
      refine XS.aloadN X10.here hx rfl (hb hby d3_94) rfl rfl ?_
      exact kT)
    obtain ⟨T13, X13, e13, st13⟩ := getF X10 hx hZ hown (host := "") (Or.inl (hw _ (List.mem_of_getElem? (i := 23) rfl))) Via.refl e10 F3 (g := (mkF m 95 #[.val (.ref a1), .val (.int p1), .val (.int p2), .val (.int p3), .val (.int p4)] [(.ref a1), (.ref dd), (.ref a1)])) rfl rfl (hb hby d3_95)
    have pre14 : ∀ t, Steps p.tables e below (T13.setTop (mkF m 98 #[.val (.ref a1), .val (.int p1), .val (.int p2), .val (.int p3), .val (.int p4)] [(.int (Int32.ofNat dc)), (.ref dd), (.ref a1)])) t → Steps p.tables e below (T0.setTop (mkF m 77 #[.val (.ref a1), .val (.int p1), .val (.int p2), .val (.int p3), .val (.int p4)] [])) t := fun t kT => pre12 t (st13 t kT)
    have pre15 : ∀ t, Steps p.tables e below (T13.setTop (mkF m 100 #[.val (.ref a1), .val (.int p1), .val (.int p2), .val (.int p3), .val (.int p4)] [(.int ((Int32.ofNat dc) * (2 : Int32))), (.ref dd), (.ref a1)])) t → Steps p.tables e below (T0.setTop (mkF m 77 #[.val (.ref a1), .val (.int p1), .val (.int p2), .val (.int p3), .val (.int p4)] [])) t := fun t kT => pre14 t (by
      show Steps p.tables e below (T13.setTop (mkF m 98 #[.val (.ref a1), .val (.int p1), .val (.int p2), .val (.int p3), .val (.int p4)] [(.int (Int32.ofNat dc)), (.ref dd), (.ref a1)])) _
      refine XS.iconst X13.here hx rfl (hb hby d3_98) ?_
      show Steps p.tables e below (T13.setTop (mkF m 99 #[.val (.ref a1), .val (.int p1), .val (.int p2), .val (.int p3), .val (.int p4)] [(.int (2 : Int32)), (.int (Int32.ofNat dc)), (.ref dd), (.ref a1)])) _
      refine XS.imul X13.here hx rfl (hb hby d3_99) rfl ?_
      exact kT)
    rw [own_two] at pre15
    have pre16 : ∀ t, Steps p.tables e below (T13.setTop (mkF m 100 #[.val (.ref a1), .val (.int p1), .val (.int p2), .val (.int p3), .val (.int p4)] [(.int (Int32.ofNat (dc * 2))), (.ref dd), (.ref a1)])) t → Steps p.tables e below (T0.setTop (mkF m 77 #[.val (.ref a1), .val (.int p1), .val (.int p2), .val (.int p3), .val (.int p4)] [])) t := fun t kT => pre15 t (by
      exact kT)
    obtain ⟨T17, h17, X17, e17, E17, A17, st17⟩ := own_copy X13 hx hZ hown (hw _ (List.mem_of_getElem? (i := 31) rfl)) (hw _ (List.mem_of_getElem? (i := 32) rfl)) (fun a' => own_tab hZ hw a') (hw _ (List.mem_of_getElem? (i := 33) rfl)) (hw _ (List.mem_of_getElem? (i := 34) rfl)) e13 VD (by omega) (by omega) (g := (mkF m 100 #[.val (.ref a1), .val (.int p1), .val (.int p2), .val (.int p3), .val (.int p4)] [(.int (Int32.ofNat (dc * 2))), (.ref dd), (.ref a1)])) rfl (by rw [hml]; rfl) rfl (W := 1) (by show 2 * 0 + _ ≤ _; exact Nat.le_of_eq rfl) (hb hby d3_100) hRf (by omega) (by omega) (by show slots + (dc * 2) ≤ _; omega)
    obtain ⟨xd, g17⟩ : ∃ z, z = h0.size := ⟨_, rfl⟩
    rw [← g17] at A17 st17
    have ne_a1_xd : a1 ≠ xd := Nat.ne_of_lt (Nat.lt_of_lt_of_le F0.lt (Nat.le_of_eq g17.symm))
    have ne_dd_xd : dd ≠ xd := Nat.ne_of_lt (Nat.lt_of_lt_of_le VD.lt (Nat.le_of_eq g17.symm))
    have ne_ds_xd : ds ≠ xd := Nat.ne_of_lt (Nat.lt_of_lt_of_le VS.lt (Nat.le_of_eq g17.symm))
    have ne_dp_xd : dp ≠ xd := Nat.ne_of_lt (Nat.lt_of_lt_of_le VP.lt (Nat.le_of_eq g17.symm))
    have g_xd : n0 ≤ xd := Nat.le_trans Z0 (Nat.le_of_eq g17.symm)
    have fr_xd : h0.size ≤ xd := Nat.le_trans (Keep.refl h0 [a1]).1 (Nat.le_of_eq g17.symm)
    have pre18 : ∀ t, Steps p.tables e below (T17.setTop (mkF m 103 #[.val (.ref a1), .val (.int p1), .val (.int p2), .val (.int p3), .val (.int p4)] [(.ref xd), (.ref a1)])) t → Steps p.tables e below (T0.setTop (mkF m 77 #[.val (.ref a1), .val (.int p1), .val (.int p2), .val (.int p3), .val (.int p4)] [])) t := fun t kT => pre16 t (st17 t kT)
    have F0_e17 : Fld Z h17 a1 "com/example/esteem/esteem/index/Postings$Builder" "docs" "[I" (.ref dd) := F0.ext E17
    have F1_e17 : Fld Z h17 a1 "com/example/esteem/esteem/index/Postings$Builder" "starts" "[I" (.ref ds) := F1.ext E17
    have F2_e17 : Fld Z h17 a1 "com/example/esteem/esteem/index/Postings$Builder" "positions" "[I" (.ref dp) := F2.ext E17
    have F3_e17 : Fld Z h17 a1 "com/example/esteem/esteem/index/Postings$Builder" "docCount" "I" (.int (Int32.ofNat dc)) := F3.ext E17
    have F4_e17 : Fld Z h17 a1 "com/example/esteem/esteem/index/Postings$Builder" "positionCount" "I" (.int (Int32.ofNat pc)) := F4.ext E17
    have E0_e17 : Exa Z h17 a1 "com/example/esteem/esteem/index/Postings$Builder" := E0.ext E17
    have VD_e17 : own_Ar Z h17 dd .int dl (fun i => .int (gd i)) := VD.ext E17
    have VS_e17 : own_Ar Z h17 ds .int sl (fun i => .int (gs i)) := VS.ext E17
    have VP_e17 : own_Ar Z h17 dp .int pl (fun i => .int (gp i)) := VP.ext E17
    have sz17 : n0 ≤ h17.size := Nat.le_trans Z0 E17.1
    have KK17 : Keep h0 h17 [a1] := (Keep.refl h0 [a1]).ext E17
    have V_xd : own_Ar Z h17 xd .int (dc * 2) (fun i => .int (if i < dl then gd i else 0)) := A17
    have pre19 : ∀ t, Steps p.tables e below (T17.setTop (mkF m 103 #[.val (.ref a1), .val (.int p1), .val (.int p2), .val (.int p3), .val (.int p4)] [(.ref xd), (.ref a1)])) t → Steps p.tables e below (T0.setTop (mkF m 77 #[.val (.ref a1), .val (.int p1), .val (.int p2), .val (.int p3), .val (.int p4)] [])) t := fun t kT => pre18 t (by
      exact kT)
    obtain ⟨T20, h20, X20, e20, W20, st20⟩ := putF X17 hx hZ hown (host := "") (Or.inl (hw _ (List.mem_of_getElem? (i := 12) rfl))) Via.refl e17 F0_e17 E0_e17 (Or.inl (hw _ (List.mem_of_getElem? (i := 13) rfl))) (hw _ (List.mem_of_getElem? (i := 3) rfl)) (ty := (.array .int)) (by decide) rfl rfl (g := (mkF m 103 #[.val (.ref a1), .val (.int p1), .val (.int p2), .val (.int p3), .val (.int p4)] [(.ref xd), (.ref a1)])) rfl rfl (hb hby d3_103)
    have pre21 : ∀ t, Steps p.tables e below (T20.setTop (mkF m 106 #[.val (.ref a1), .val (.int p1), .val (.int p2), .val (.int p3), .val (.int p4)] [])) t → Steps p.tables e below (T0.setTop (mkF m 77 #[.val (.ref a1), .val (.int p1), .val (.int p2), .val (.int p3), .val (.int p4)] [])) t := fun t kT => pre19 t (st20 t kT)
    have N20 := Fr.snoc X20 N0 q0
    have F1_e20 : Fld Z h20 a1 "com/example/esteem/esteem/index/Postings$Builder" "starts" "[I" (.ref ds) := F1_e17.other W20 (Or.inr (slot_ne (Or.inl (hw _ (List.mem_of_getElem? (i := 15) rfl))) (Or.inl (hw _ (List.mem_of_getElem? (i := 13) rfl))) (by decide) (t := (.array .int)) (t' := (.array .int)) (by decide) (by decide)))
    have F2_e20 : Fld Z h20 a1 "com/example/esteem/esteem/index/Postings$Builder" "positions" "[I" (.ref dp) := F2_e17.other W20 (Or.inr (slot_ne (Or.inl (hw _ (List.mem_of_getElem? (i := 17) rfl))) (Or.inl (hw _ (List.mem_of_getElem? (i := 13) rfl))) (by decide) (t := (.array .int)) (t' := (.array .int)) (by decide) (by decide)))
    have F3_e20 : Fld Z h20 a1 "com/example/esteem/esteem/index/Postings$Builder" "docCount" "I" (.int (Int32.ofNat dc)) := F3_e17.other W20 (Or.inr (slot_ne (Or.inl (hw _ (List.mem_of_getElem? (i := 24) rfl))) (Or.inl (hw _ (List.mem_of_getElem? (i := 13) rfl))) (by decide) (t := .int) (t' := (.array .int)) (by decide) (by decide)))
    have F4_e20 : Fld Z h20 a1 "com/example/esteem/esteem/index/Postings$Builder" "positionCount" "I" (.int (Int32.ofNat pc)) := F4_e17.other W20 (Or.inr (slot_ne (Or.inl (hw _ (List.mem_of_getElem? (i := 26) rfl))) (Or.inl (hw _ (List.mem_of_getElem? (i := 13) rfl))) (by decide) (t := .int) (t' := (.array .int)) (by decide) (by decide)))
    have E0_e20 : Exa Z h20 a1 "com/example/esteem/esteem/index/Postings$Builder" := E0_e17.wr W20
    have VD_e20 : own_Ar Z h20 dd .int dl (fun i => .int (gd i)) := VD_e17.other W20 (Ne.symm n4)
    have VS_e20 : own_Ar Z h20 ds .int sl (fun i => .int (gs i)) := VS_e17.other W20 (Ne.symm n5)
    have VP_e20 : own_Ar Z h20 dp .int pl (fun i => .int (gp i)) := VP_e17.other W20 (Ne.symm n6)
    have V_xd_e20 : own_Ar Z h20 xd .int (dc * 2) (fun i => .int (if i < dl then gd i else 0)) := V_xd.other W20 (Ne.symm ne_a1_xd)
    have sz20 : n0 ≤ h20.size := Nat.le_trans sz17 (Keep.of_wr W20).1
    have KK20 : Keep h0 h20 [a1] := KK17.wr W20 (Or.inl (List.mem_of_getElem? (i := 0) rfl))
    have F_a1_docs_e20 : Fld Z h20 a1 "com/example/esteem/esteem/index/Postings$Builder" "docs" "[I" (.ref xd) := F0_e17.same W20
    have pre22 : ∀ t, Steps p.tables e below (T20.setTop (mkF m 108 #[.val (.ref a1), .val (.int p1), .val (.int p2), .val (.int p3), .val (.int p4)] [(.ref a1), (.ref a1)])) t → Steps p.tables e below (T0.setTop (mkF m 77 #[.val (.ref a1), .val (.int p1), .val (.int p2), .val (.int p3), .val (.int p4)] [])) t := fun t kT => pre21 t (by
      show Steps p.tables e below (T20.setTop (mkF m 106 #[.val (.ref a1), .val (.int p1), .val (.int p2), .val (.int p3), .val (.int p4)] [])) _
      refine XS.aloadN X20.here hx rfl (hb hby d3_106) rfl rfl ?_
      show Steps p.tables e below (T20.setTop (mkF m 107 #[.val (.ref a1), .val (.int p1), .val (.int p2), .val (.int p3), .val (.int p4)] [(.ref a1)])) _
      refine XS.aloadN X20.here hx rfl (hb hby d3_107) rfl rfl ?_
      exact kT)
    obtain ⟨T23, X23, e23, st23⟩ := getF X20 hx hZ hown (host := "") (Or.inl (hw _ (List.mem_of_getElem? (i := 14) rfl))) Via.refl e20 F1_e20 (g := (mkF m 108 #[.val (.ref a1), .val (.int p1), .val (.int p2), .val (.int p3), .val (.int p4)] [(.ref a1), (.ref a1)])) rfl rfl (hb hby d3_108)
    have pre24 : ∀ t, Steps p.tables e below (T23.setTop (mkF m 111 #[.val (.ref a1), .val (.int p1), .val (.int p2), .val (.int p3), .val (.int p4)] [(.ref ds), (.ref a1)])) t → Steps p.tables e below (T0.setTop (mkF m 77 #[.val (.ref a1), .val (.int p1), .val (.int p2), .val (.int p3), .val (.int p4)] [])) t := fun t kT => pre22 t (st23 t kT)
    have pre25 : ∀ t, Steps p.tables e below (T23.setTop (mkF m 112 #[.val (.ref a1), .val (.int p1), .val (.int p2), .val (.int p3), .val (.int p4)] [(.ref a1), (.ref ds), (.ref a1)])) t → Steps p.tables e below (T0.setTop (mkF m 77 #[.val (.ref a1), .val (.int p1), .val (.int p2), .val (.int p3), .val (.int p4)] [])) t := fun t kT => pre24 t (by
      show Steps p.tables e below (T23.setTop (mkF m 111 #[.val (.ref a1), .val (.int p1), .val (.int p2), .val (.int p3), .val (.int p4)] [(.ref ds), (.ref a1)])) _
      refine XS.aloadN X23.here hx rfl (hb hby d3_111) rfl rfl ?_
      exact kT)
    obtain ⟨T26, X26, e26, st26⟩ := getF X23 hx hZ hown (host := "") (Or.inl (hw _ (List.mem_of_getElem? (i := 23) rfl))) Via.refl e23 F3_e20 (g := (mkF m 112 #[.val (.ref a1), .val (.int p1), .val (.int p2), .val (.int p3), .val (.int p4)] [(.ref a1), (.ref ds), (.ref a1)])) rfl rfl (hb hby d3_112)
    have pre27 : ∀ t, Steps p.tables e below (T26.setTop (mkF m 115 #[.val (.ref a1), .val (.int p1), .val (.int p2), .val (.int p3), .val (.int p4)] [(.int (Int32.ofNat dc)), (.ref ds), (.ref a1)])) t → Steps p.tables e below (T0.setTop (mkF m 77 #[.val (.ref a1), .val (.int p1), .val (.int p2), .val (.int p3), .val (.int p4)] [])) t := fun t kT => pre25 t (st26 t kT)
    have pre28 : ∀ t, Steps p.tables e below (T26.setTop (mkF m 119 #[.val (.ref a1), .val (.int p1), .val (.int p2), .val (.int p3), .val (.int p4)] [(.int (((Int32.ofNat dc) * (2 : Int32)) + (1 : Int32))), (.ref ds), (.ref a1)])) t → Steps p.tables e below (T0.setTop (mkF m 77 #[.val (.ref a1), .val (.int p1), .val (.int p2), .val (.int p3), .val (.int p4)] [])) t := fun t kT => pre27 t (by
      show Steps p.tables e below (T26.setTop (mkF m 115 #[.val (.ref a1), .val (.int p1), .val (.int p2), .val (.int p3), .val (.int p4)] [(.int (Int32.ofNat dc)), (.ref ds), (.ref a1)])) _
      refine XS.iconst X26.here hx rfl (hb hby d3_115) ?_
      show Steps p.tables e below (T26.setTop (mkF m 116 #[.val (.ref a1), .val (.int p1), .val (.int p2), .val (.int p3), .val (.int p4)] [(.int (2 : Int32)), (.int (Int32.ofNat dc)), (.ref ds), (.ref a1)])) _
      refine XS.imul X26.here hx rfl (hb hby d3_116) rfl ?_
      show Steps p.tables e below (T26.setTop (mkF m 117 #[.val (.ref a1), .val (.int p1), .val (.int p2), .val (.int p3), .val (.int p4)] [(.int ((Int32.ofNat dc) * (2 : Int32))), (.ref ds), (.ref a1)])) _
      refine XS.iconst X26.here hx rfl (hb hby d3_117) ?_
      show Steps p.tables e below (T26.setTop (mkF m 118 #[.val (.ref a1), .val (.int p1), .val (.int p2), .val (.int p3), .val (.int p4)] [(.int (1 : Int32)), (.int ((Int32.ofNat dc) * (2 : Int32))), (.ref ds), (.ref a1)])) _
      refine XS.iadd X26.here hx rfl (hb hby d3_118) rfl ?_
      exact kT)
    rw [own_two, own_one] at pre28
    have pre29 : ∀ t, Steps p.tables e below (T26.setTop (mkF m 119 #[.val (.ref a1), .val (.int p1), .val (.int p2), .val (.int p3), .val (.int p4)] [(.int (Int32.ofNat (dc * 2 + 1))), (.ref ds), (.ref a1)])) t → Steps p.tables e below (T0.setTop (mkF m 77 #[.val (.ref a1), .val (.int p1), .val (.int p2), .val (.int p3), .val (.int p4)] [])) t := fun t kT => pre28 t (by
      exact kT)
    obtain ⟨T30, h30, X30, e30, E30, A30, st30⟩ := own_copy X26 hx hZ hown (hw _ (List.mem_of_getElem? (i := 31) rfl)) (hw _ (List.mem_of_getElem? (i := 32) rfl)) (fun a' => own_tab hZ hw a') (hw _ (List.mem_of_getElem? (i := 33) rfl)) (hw _ (List.mem_of_getElem? (i := 34) rfl)) e26 VS_e20 (by omega) (by omega) (g := (mkF m 119 #[.val (.ref a1), .val (.int p1), .val (.int p2), .val (.int p3), .val (.int p4)] [(.int (Int32.ofNat (dc * 2 + 1))), (.ref ds), (.ref a1)])) rfl (by rw [hml]; rfl) rfl (W := 1) (by show 2 * 0 + _ ≤ _; exact Nat.le_of_eq rfl) (hb hby d3_119) hRf (by omega) (by omega) (by show slots + (dc * 2) + (dc * 2 + 1) ≤ _; omega)
    obtain ⟨xs, g30⟩ : ∃ z, z = h20.size := ⟨_, rfl⟩
    rw [← g30] at A30 st30
    have ne_a1_xs : a1 ≠ xs := Nat.ne_of_lt (Nat.lt_of_lt_of_le F_a1_docs_e20.lt (Nat.le_of_eq g30.symm))
    have ne_dd_xs : dd ≠ xs := Nat.ne_of_lt (Nat.lt_of_lt_of_le VD_e20.lt (Nat.le_of_eq g30.symm))
    have ne_ds_xs : ds ≠ xs := Nat.ne_of_lt (Nat.lt_of_lt_of_le VS_e20.lt (Nat.le_of_eq g30.symm))
    have ne_dp_xs : dp ≠ xs := Nat.ne_of_lt (Nat.lt_of_lt_of_le VP_e20.lt (Nat.le_of_eq g30.symm))
    have ne_xd_xs : xd ≠ xs := Nat.ne_of_lt (Nat.lt_of_lt_of_le V_xd_e20.lt (Nat.le_of_eq g30.symm))
    have g_xs : n0 ≤ xs := Nat.le_trans sz20 (Nat.le_of_eq g30.symm)
    have fr_xs : h0.size ≤ xs := Nat.le_trans KK20.1 (Nat.le_of_eq g30.symm)
    have pre31 : ∀ t, Steps p.tables e below (T30.setTop (mkF m 122 #[.val (.ref a1), .val (.int p1), .val (.int p2), .val (.int p3), .val (.int p4)] [(.ref xs), (.ref a1)])) t → Steps p.tables e below (T0.setTop (mkF m 77 #[.val (.ref a1), .val (.int p1), .val (.int p2), .val (.int p3), .val (.int p4)] [])) t := fun t kT => pre29 t (st30 t kT)
    have F_a1_docs_e30 : Fld Z h30 a1 "com/example/esteem/esteem/index/Postings$Builder" "docs" "[I" (.ref xd) := F_a1_docs_e20.ext E30
    have F1_e30 : Fld Z h30 a1 "com/example/esteem/esteem/index/Postings$Builder" "starts" "[I" (.ref ds) := F1_e20.ext E30
    have F2_e30 : Fld Z h30 a1 "com/example/esteem/esteem/index/Postings$Builder" "positions" "[I" (.ref dp) := F2_e20.ext E30
    have F3_e30 : Fld Z h30 a1 "com/example/esteem/esteem/index/Postings$Builder" "docCount" "I" (.int (Int32.ofNat dc)) := F3_e20.ext E30
    have F4_e30 : Fld Z h30 a1 "com/example/esteem/esteem/index/Postings$Builder" "positionCount" "I" (.int (Int32.ofNat pc)) := F4_e20.ext E30
    have E0_e30 : Exa Z h30 a1 "com/example/esteem/esteem/index/Postings$Builder" := E0_e20.ext E30
    have VD_e30 : own_Ar Z h30 dd .int dl (fun i => .int (gd i)) := VD_e20.ext E30
    have VS_e30 : own_Ar Z h30 ds .int sl (fun i => .int (gs i)) := VS_e20.ext E30
    have VP_e30 : own_Ar Z h30 dp .int pl (fun i => .int (gp i)) := VP_e20.ext E30
    have V_xd_e30 : own_Ar Z h30 xd .int (dc * 2) (fun i => .int (if i < dl then gd i else 0)) := V_xd_e20.ext E30
    have sz30 : n0 ≤ h30.size := Nat.le_trans sz20 E30.1
    have KK30 : Keep h0 h30 [a1] := KK20.ext E30
    have V_xs : own_Ar Z h30 xs .int (dc * 2 + 1) (fun i => .int (if i < sl then gs i else 0)) := A30
    have pre32 : ∀ t, Steps p.tables e below (T30.setTop (mkF m 122 #[.val (.ref a1), .val (.int p1), .val (.int p2), .val (.int p3), .val (.int p4)] [(.ref xs), (.ref a1)])) t → Steps p.tables e below (T0.setTop (mkF m 77 #[.val (.ref a1), .val (.int p1), .val (.int p2), .val (.int p3), .val (.int p4)] [])) t := fun t kT => pre31 t (by
      exact kT)
    obtain ⟨T33, h33, X33, e33, W33, st33⟩ := putF X30 hx hZ hown (host := "") (Or.inl (hw _ (List.mem_of_getElem? (i := 14) rfl))) Via.refl e30 F1_e30 E0_e30 (Or.inl (hw _ (List.mem_of_getElem? (i := 15) rfl))) (hw _ (List.mem_of_getElem? (i := 3) rfl)) (ty := (.array .int)) (by decide) rfl rfl (g := (mkF m 122 #[.val (.ref a1), .val (.int p1), .val (.int p2), .val (.int p3), .val (.int p4)] [(.ref xs), (.ref a1)])) rfl rfl (hb hby d3_122)
    have pre34 : ∀ t, Steps p.tables e below (T33.setTop (mkF m 125 #[.val (.ref a1), .val (.int p1), .val (.int p2), .val (.int p3), .val (.int p4)] [])) t → Steps p.tables e below (T0.setTop (mkF m 77 #[.val (.ref a1), .val (.int p1), .val (.int p2), .val (.int p3), .val (.int p4)] [])) t := fun t kT => pre32 t (st33 t kT)
    have N33 := Fr.snoc X33 N20 q0
    have F_a1_docs_e33 : Fld Z h33 a1 "com/example/esteem/esteem/index/Postings$Builder" "docs" "[I" (.ref xd) := F_a1_docs_e30.other W33 (Or.inr (slot_ne (Or.inl (hw _ (List.mem_of_getElem? (i := 13) rfl))) (Or.inl (hw _ (List.mem_of_getElem? (i := 15) rfl))) (by decide) (t := (.array .int)) (t' := (.array .int)) (by decide) (by decide)))
    have F2_e33 : Fld Z h33 a1 "com/example/esteem/esteem/index/Postings$Builder" "positions" "[I" (.ref dp) := F2_e30.other W33 (Or.inr (slot_ne (Or.inl (hw _ (List.mem_of_getElem? (i := 17) rfl))) (Or.inl (hw _ (List.mem_of_getElem? (i := 15) rfl))) (by decide) (t := (.array .int)) (t' := (.array .int)) (by decide) (by decide)))
    have F3_e33 : Fld Z h33 a1 "com/example/esteem/esteem/index/Postings$Builder" "docCount" "I" (.int (Int32.ofNat dc)) := F3_e30.other W33 (Or.inr (slot_ne (Or.inl (hw _ (List.mem_of_getElem? (i := 24) rfl))) (Or.inl (hw _ (List.mem_of_getElem? (i := 15) rfl))) (by decide) (t := .int) (t' := (.array .int)) (by decide) (by decide)))
    have F4_e33 : Fld Z h33 a1 "com/example/esteem/esteem/index/Postings$Builder" "positionCount" "I" (.int (Int32.ofNat pc)) := F4_e30.other W33 (Or.inr (slot_ne (Or.inl (hw _ (List.mem_of_getElem? (i := 26) rfl))) (Or.inl (hw _ (List.mem_of_getElem? (i := 15) rfl))) (by decide) (t := .int) (t' := (.array .int)) (by decide) (by decide)))
    have E0_e33 : Exa Z h33 a1 "com/example/esteem/esteem/index/Postings$Builder" := E0_e30.wr W33
    have VD_e33 : own_Ar Z h33 dd .int dl (fun i => .int (gd i)) := VD_e30.other W33 (Ne.symm n4)
    have VS_e33 : own_Ar Z h33 ds .int sl (fun i => .int (gs i)) := VS_e30.other W33 (Ne.symm n5)
    have VP_e33 : own_Ar Z h33 dp .int pl (fun i => .int (gp i)) := VP_e30.other W33 (Ne.symm n6)
    have V_xd_e33 : own_Ar Z h33 xd .int (dc * 2) (fun i => .int (if i < dl then gd i else 0)) := V_xd_e30.other W33 (Ne.symm ne_a1_xd)
    have V_xs_e33 : own_Ar Z h33 xs .int (dc * 2 + 1) (fun i => .int (if i < sl then gs i else 0)) := V_xs.other W33 (Ne.symm ne_a1_xs)
    have sz33 : n0 ≤ h33.size := Nat.le_trans sz30 (Keep.of_wr W33).1
    have KK33 : Keep h0 h33 [a1] := KK30.wr W33 (Or.inl (List.mem_of_getElem? (i := 0) rfl))
    have F_a1_starts_e33 : Fld Z h33 a1 "com/example/esteem/esteem/index/Postings$Builder" "starts" "[I" (.ref xs) := F1_e30.same W33
    have pre35 : ∀ t, Steps p.tables e below (T33.setTop (mkF m 125 #[.val (.ref a1), .val (.int p1), .val (.int p2), .val (.int p3), .val (.int p4)] [])) t → Steps p.tables e below (T0.setTop (mkF m 77 #[.val (.ref a1), .val (.int p1), .val (.int p2), .val (.int p3), .val (.int p4)] [])) t := fun t kT => pre34 t (by
      exact kT)
    exact ⟨T33, _, xd, xs, (dc * 2), (dc * 2 + 1), X33.more (by omega) (by omega), N33, by rw [e33]; exact KK33, by rw [e33]; exact ⟨⟨F_a1_docs_e33, F_a1_starts_e33, F2_e33, F3_e33, F4_e33, E0_e33⟩, ⟨own_Pf.grown V_xd_e33 hgd (by omega), own_Pf.grown V_xs_e33 hgs (by omega), own_Pf.of VP_e33 hgp⟩, ⟨ne_xd_xs, (Ne.symm ne_dp_xd), (Ne.symm ne_dp_xs), ne_a1_xd, ne_a1_xs, n6⟩, ⟨q0, g_xd, g_xs, q3⟩, ⟨by omega, by omega, by omega, by omega, by omega, by omega, by omega, by omega⟩⟩, by omega, Or.inr fr_xd, Or.inr fr_xs, pre35⟩
  · have pre36 : ∀ t, Steps p.tables e below (T5.setTop (mkF m 125 #[.val (.ref a1), .val (.int p1), .val (.int p2), .val (.int p3), .val (.int p4)] [])) t → Steps p.tables e below (T0.setTop (mkF m 77 #[.val (.ref a1), .val (.int p1), .val (.int p2), .val (.int p3), .val (.int p4)] [])) t := fun t kT => pre8 t (by
      show Steps p.tables e below (T5.setTop (mkF m 86 #[.val (.ref a1), .val (.int p1), .val (.int p2), .val (.int p3), .val (.int p4)] [(.int (Int32.ofNat dl)), (.int (Int32.ofNat dc))])) _
      refine XS.icmpYes X5.here hx rfl (pc0 := 86) (pc' := 125) rfl (hb hby d3_86) rfl (feq hgr).2 (by decide) (by decide) ?_
      exact kT)
    have hg := mt (own_ij (i := dc) (j := dl) (by omega) (by omega)).mpr hgr
    exact ⟨T5, _, dd, ds, dl, sl, X5.more (by omega) (by omega), N0, by rw [e5]; exact (Keep.refl h0 [a1]), by rw [e5]; exact B, by omega, Or.inl rfl, Or.inl rfl, pre36⟩
theorem d3_125 : decode prog_22_method_2_code 125 = .ok (.aload_n 0, 1) := by decide +kernel
theorem d3_126 : decode prog_22_method_2_code 126 = .ok (.getfield 7, 3) := by decide +kernel
theorem d3_129 : decode prog_22_method_2_code 129 = .ok (.aload_n 0, 1) := by decide +kernel
theorem d3_130 : decode prog_22_method_2_code 130 = .ok (.getfield 19, 3) := by decide +kernel
theorem d3_133 : decode prog_22_method_2_code 133 = .ok (.iload_n 1, 1) := by decide +kernel
theorem d3_134 : decode prog_22_method_2_code 134 = .ok (.iastore, 1) := by decide +kernel
theorem d3_135 : decode prog_22_method_2_code 135 = .ok (.aload_n 0, 1) := by decide +kernel
theorem d3_136 : decode prog_22_method_2_code 136 = .ok (.getfield 13, 3) := by decide +kernel
theorem d3_139 : decode prog_22_method_2_code 139 = .ok (.aload_n 0, 1) := by decide +kernel
theorem d3_140 : decode prog_22_method_2_code 140 = .ok (.getfield 19, 3) := by decide +kernel
theorem d3_143 : decode prog_22_method_2_code 143 = .ok (.aload_n 0, 1) := by decide +kernel
theorem d3_144 : decode prog_22_method_2_code 144 = .ok (.getfield 42, 3) := by decide +kernel
theorem d3_147 : decode prog_22_method_2_code 147 = .ok (.iastore, 1) := by decide +kernel
theorem d3_148 : decode prog_22_method_2_code 148 = .ok (.aload_n 0, 1) := by decide +kernel
theorem d3_149 : decode prog_22_method_2_code 149 = .ok (.dup, 1) := by decide +kernel
theorem d3_150 : decode prog_22_method_2_code 150 = .ok (.getfield 19, 3) := by decide +kernel
theorem d3_153 : decode prog_22_method_2_code 153 = .ok (.iconst 1, 1) := by decide +kernel
theorem d3_154 : decode prog_22_method_2_code 154 = .ok (.iadd, 1) := by decide +kernel
theorem d3_155 : decode prog_22_method_2_code 155 = .ok (.putfield 19, 3) := by decide +kernel
set_option maxRecDepth 65536 in
set_option maxHeartbeats 40000000 in
theorem tn_doc {p : Program} {l : Launch} {e : Env} {R : Room} {s : State} {m : MethodId} {args : Array Value} {below : List Frame} {meth : Method} {c : Code} {T0 : State} {locs : List Loc} {cells slots : Nat} {Z : State} {a0 : Array Value} {h0 : Heap} {n0 : Nat} (a1 : Addr) (p1 p2 p3 p4 : Int32) (dd ds dp : Addr) (dl sl pl dc ks pc : Nat) (df sf pf : Nat → Int32)
    (X0 : Stand p l e R s m args below meth c T0 locs cells slots) (hx : p.tables.exec = Jvm.exec) (hZ : Z.Warmed39 s.vm) (hw : ∀ d ∈ tables_1, d.before a0 Z = true) (hby : c.code = prog_22_method_2_code) (hml : c.maxLocals = 5) (hown : s.vm.findClass "com/example/esteem/esteem/index/Postings$Builder" = some m.cls) (e0 : T0.heap = h0) (B : own_Bd Z h0 n0 a1 dd ds dp dl sl pl dc ks pc df sf pf) (hRf : 2 ≤ R.frames) (hRl : 70 ≤ R.locals) (N0 : Fr n0 locs) (Z0 : n0 ≤ h0.size) (hdl : dc < dl) (hks : dc ≤ ks) :
    ∃ (T' : State) (locs' : List Loc), Stand p l e R s m args below meth c T' locs' cells slots ∧ Fr n0 locs' ∧ Keep h0 T'.heap [a1, dd, ds] ∧ own_Bd Z T'.heap n0 a1 dd ds dp dl sl pl (dc + 1) (dc + 1) pc (own_updI df dc p1) (own_updI sf dc (Int32.ofNat pc)) pf ∧
      ∀ t, Steps p.tables e below (T'.setTop (mkF m 158 #[.val (.ref a1), .val (.int p1), .val (.int p2), .val (.int p3), .val (.int p4)] [])) t → Steps p.tables e below (T0.setTop (mkF m 125 #[.val (.ref a1), .val (.int p1), .val (.int p2), .val (.int p3), .val (.int p4)] [])) t := by
  have pre0 : ∀ t, Steps p.tables e below (T0.setTop (mkF m 125 #[.val (.ref a1), .val (.int p1), .val (.int p2), .val (.int p3), .val (.int p4)] [])) t → Steps p.tables e below (T0.setTop (mkF m 125 #[.val (.ref a1), .val (.int p1), .val (.int p2), .val (.int p3), .val (.int p4)] [])) t := fun t kT => kT
  obtain ⟨⟨F0, F1, F2, F3, F4, E0⟩, ⟨⟨gd, VD, hgd⟩, ⟨gs, VS, hgs⟩, ⟨gp, VP, hgp⟩⟩, ⟨n1, n2, n3, n4, n5, n6⟩, ⟨q0, q1, q2, q3⟩, ⟨b0, b1, b2, b3, b4, b5, b6, b7⟩⟩ := id B
  have pre1 : ∀ t, Steps p.tables e below (T0.setTop (mkF m 126 #[.val (.ref a1), .val (.int p1), .val (.int p2), .val (.int p3), .val (.int p4)] [(.ref a1)])) t → Steps p.tables e below (T0.setTop (mkF m 125 #[.val (.ref a1), .val (.int p1), .val (.int p2), .val (.int p3), .val (.int p4)] [])) t := fun t kT => pre0 t (by
    show Steps p.tables e below (T0.setTop (mkF m 125 #[.val (.ref a1), .val (.int p1), .val (.int p2), .val (.int p3), .val (.int p4)] [])) _
    refine XS.aloadN X0.here hx rfl (hb hby d3_125) rfl rfl ?_
    exact kT)
  obtain ⟨T2, X2, e2, st2⟩ := getF X0 hx hZ hown (host := "") (Or.inl (hw _ (List.mem_of_getElem? (i := 12) rfl))) Via.refl e0 F0 (g := (mkF m 126 #[.val (.ref a1), .val (.int p1), .val (.int p2), .val (.int p3), .val (.int p4)] [(.ref a1)])) rfl rfl (hb hby d3_126)
  have pre3 : ∀ t, Steps p.tables e below (T2.setTop (mkF m 129 #[.val (.ref a1), .val (.int p1), .val (.int p2), .val (.int p3), .val (.int p4)] [(.ref dd)])) t → Steps p.tables e below (T0.setTop (mkF m 125 #[.val (.ref a1), .val (.int p1), .val (.int p2), .val (.int p3), .val (.int p4)] [])) t := fun t kT => pre1 t (st2 t kT)
  have pre4 : ∀ t, Steps p.tables e below (T2.setTop (mkF m 130 #[.val (.ref a1), .val (.int p1), .val (.int p2), .val (.int p3), .val (.int p4)] [(.ref a1), (.ref dd)])) t → Steps p.tables e below (T0.setTop (mkF m 125 #[.val (.ref a1), .val (.int p1), .val (.int p2), .val (.int p3), .val (.int p4)] [])) t := fun t kT => pre3 t (by
    show Steps p.tables e below (T2.setTop (mkF m 129 #[.val (.ref a1), .val (.int p1), .val (.int p2), .val (.int p3), .val (.int p4)] [(.ref dd)])) _
    refine XS.aloadN X2.here hx rfl (hb hby d3_129) rfl rfl ?_
    exact kT)
  obtain ⟨T5, X5, e5, st5⟩ := getF X2 hx hZ hown (host := "") (Or.inl (hw _ (List.mem_of_getElem? (i := 23) rfl))) Via.refl e2 F3 (g := (mkF m 130 #[.val (.ref a1), .val (.int p1), .val (.int p2), .val (.int p3), .val (.int p4)] [(.ref a1), (.ref dd)])) rfl rfl (hb hby d3_130)
  have pre6 : ∀ t, Steps p.tables e below (T5.setTop (mkF m 133 #[.val (.ref a1), .val (.int p1), .val (.int p2), .val (.int p3), .val (.int p4)] [(.int (Int32.ofNat dc)), (.ref dd)])) t → Steps p.tables e below (T0.setTop (mkF m 125 #[.val (.ref a1), .val (.int p1), .val (.int p2), .val (.int p3), .val (.int p4)] [])) t := fun t kT => pre4 t (st5 t kT)
  obtain ⟨co7, ⟨Ao7, Ko7⟩, So7, Ho7⟩ := id VD
  have io7 := (own_ld So7 Ho7 (j := (Int32.ofNat dc)) (i := dc) (own_n0 (show dc < 2 ^ 31 by omega)) (own_n32 (show dc < 2 ^ 31 by omega)) hdl rfl).1
  have pre8 : ∀ t, Steps p.tables e below (T5.setTop (mkF m 134 #[.val (.ref a1), .val (.int p1), .val (.int p2), .val (.int p3), .val (.int p4)] [(.int p1), (.int (Int32.ofNat dc)), (.ref dd)])) t → Steps p.tables e below (T0.setTop (mkF m 125 #[.val (.ref a1), .val (.int p1), .val (.int p2), .val (.int p3), .val (.int p4)] [])) t := fun t kT => pre6 t (by
    show Steps p.tables e below (T5.setTop (mkF m 133 #[.val (.ref a1), .val (.int p1), .val (.int p2), .val (.int p3), .val (.int p4)] [(.int (Int32.ofNat dc)), (.ref dd)])) _
    refine XS.iloadN X5.here hx rfl (hb hby d3_133) rfl ?_
    exact kT)
  obtain ⟨T9, h9, X9, e9, W9, st9⟩ := stI X5 hx hZ e5 Ao7 (j := (Int32.ofNat dc)) io7 (g := (mkF m 134 #[.val (.ref a1), .val (.int p1), .val (.int p2), .val (.int p3), .val (.int p4)] [(.int p1), (.int (Int32.ofNat dc)), (.ref dd)])) rfl rfl (hb hby d3_134)
  rw [(own_n32 (show dc < 2 ^ 31 by omega))] at W9
  have pre10 : ∀ t, Steps p.tables e below (T9.setTop (mkF m 135 #[.val (.ref a1), .val (.int p1), .val (.int p2), .val (.int p3), .val (.int p4)] [])) t → Steps p.tables e below (T0.setTop (mkF m 125 #[.val (.ref a1), .val (.int p1), .val (.int p2), .val (.int p3), .val (.int p4)] [])) t := fun t kT => pre8 t (st9 t kT)
  have F0_e9 : Fld Z h9 a1 "com/example/esteem/esteem/index/Postings$Builder" "docs" "[I" (.ref dd) := F0.other W9 (Or.inl n4)
  have F1_e9 : Fld Z h9 a1 "com/example/esteem/esteem/index/Postings$Builder" "starts" "[I" (.ref ds) := F1.other W9 (Or.inl n4)
  have F2_e9 : Fld Z h9 a1 "com/example/esteem/esteem/index/Postings$Builder" "positions" "[I" (.ref dp) := F2.other W9 (Or.inl n4)
  have F3_e9 : Fld Z h9 a1 "com/example/esteem/esteem/index/Postings$Builder" "docCount" "I" (.int (Int32.ofNat dc)) := F3.other W9 (Or.inl n4)
  have F4_e9 : Fld Z h9 a1 "com/example/esteem/esteem/index/Postings$Builder" "positionCount" "I" (.int (Int32.ofNat pc)) := F4.other W9 (Or.inl n4)
  have E0_e9 : Exa Z h9 a1 "com/example/esteem/esteem/index/Postings$Builder" := E0.wr W9
  have VS_e9 : own_Ar Z h9 ds .int sl (fun i => .int (gs i)) := VS.other W9 (Ne.symm n1)
  have VP_e9 : own_Ar Z h9 dp .int pl (fun i => .int (gp i)) := VP.other W9 (Ne.symm n2)
  have sz9 : n0 ≤ h9.size := Nat.le_trans Z0 (Keep.of_wr W9).1
  have KK9 : Keep h0 h9 [a1, dd, ds] := (Keep.refl h0 [a1, dd, ds]).wr W9 (Or.inl (List.mem_of_getElem? (i := 1) rfl))
  have V_dd_e9 : own_Ar Z h9 dd .int dl (own_upd (fun i => .int (gd i)) dc (.int p1)) := VD.set W9
  have N9 := Fr.snoc X9 N0 q1
  have pre11 : ∀ t, Steps p.tables e below (T9.setTop (mkF m 136 #[.val (.ref a1), .val (.int p1), .val (.int p2), .val (.int p3), .val (.int p4)] [(.ref a1)])) t → Steps p.tables e below (T0.setTop (mkF m 125 #[.val (.ref a1), .val (.int p1), .val (.int p2), .val (.int p3), .val (.int p4)] [])) t := fun t kT => pre10 t (by
    show Steps p.tables e below (T9.setTop (mkF m 135 #[.val (.ref a1), .val (.int p1), .val (.int p2), .val (.int p3), .val (.int p4)] [])) _
    refine XS.aloadN X9.here hx rfl (hb hby d3_135) rfl rfl ?_
    exact kT)
  obtain ⟨T12, X12, e12, st12⟩ := getF X9 hx hZ hown (host := "") (Or.inl (hw _ (List.mem_of_getElem? (i := 14) rfl))) Via.refl e9 F1_e9 (g := (mkF m 136 #[.val (.ref a1), .val (.int p1), .val (.int p2), .val (.int p3), .val (.int p4)] [(.ref a1)])) rfl rfl (hb hby d3_136)
  have pre13 : ∀ t, Steps p.tables e below (T12.setTop (mkF m 139 #[.val (.ref a1), .val (.int p1), .val (.int p2), .val (.int p3), .val (.int p4)] [(.ref ds)])) t → Steps p.tables e below (T0.setTop (mkF m 125 #[.val (.ref a1), .val (.int p1), .val (.int p2), .val (.int p3), .val (.int p4)] [])) t := fun t kT => pre11 t (st12 t kT)
  have pre14 : ∀ t, Steps p.tables e below (T12.setTop (mkF m 140 #[.val (.ref a1), .val (.int p1), .val (.int p2), .val (.int p3), .val (.int p4)] [(.ref a1), (.ref ds)])) t → Steps p.tables e below (T0.setTop (mkF m 125 #[.val (.ref a1), .val (.int p1), .val (.int p2), .val (.int p3), .val (.int p4)] [])) t := fun t kT => pre13 t (by
    show Steps p.tables e below (T12.setTop (mkF m 139 #[.val (.ref a1), .val (.int p1), .val (.int p2), .val (.int p3), .val (.int p4)] [(.ref ds)])) _
    refine XS.aloadN X12.here hx rfl (hb hby d3_139) rfl rfl ?_
    exact kT)
  obtain ⟨T15, X15, e15, st15⟩ := getF X12 hx hZ hown (host := "") (Or.inl (hw _ (List.mem_of_getElem? (i := 23) rfl))) Via.refl e12 F3_e9 (g := (mkF m 140 #[.val (.ref a1), .val (.int p1), .val (.int p2), .val (.int p3), .val (.int p4)] [(.ref a1), (.ref ds)])) rfl rfl (hb hby d3_140)
  have pre16 : ∀ t, Steps p.tables e below (T15.setTop (mkF m 143 #[.val (.ref a1), .val (.int p1), .val (.int p2), .val (.int p3), .val (.int p4)] [(.int (Int32.ofNat dc)), (.ref ds)])) t → Steps p.tables e below (T0.setTop (mkF m 125 #[.val (.ref a1), .val (.int p1), .val (.int p2), .val (.int p3), .val (.int p4)] [])) t := fun t kT => pre14 t (st15 t kT)
  have pre17 : ∀ t, Steps p.tables e below (T15.setTop (mkF m 144 #[.val (.ref a1), .val (.int p1), .val (.int p2), .val (.int p3), .val (.int p4)] [(.ref a1), (.int (Int32.ofNat dc)), (.ref ds)])) t → Steps p.tables e below (T0.setTop (mkF m 125 #[.val (.ref a1), .val (.int p1), .val (.int p2), .val (.int p3), .val (.int p4)] [])) t := fun t kT => pre16 t (by
    show Steps p.tables e below (T15.setTop (mkF m 143 #[.val (.ref a1), .val (.int p1), .val (.int p2), .val (.int p3), .val (.int p4)] [(.int (Int32.ofNat dc)), (.ref ds)])) _
    refine XS.aloadN X15.here hx rfl (hb hby d3_143) rfl rfl ?_
    exact kT)
  obtain ⟨T18, X18, e18, st18⟩ := getF X15 hx hZ hown (host := "") (Or.inl (hw _ (List.mem_of_getElem? (i := 25) rfl))) Via.refl e15 F4_e9 (g := (mkF m 144 #[.val (.ref a1), .val (.int p1), .val (.int p2), .val (.int p3), .val (.int p4)] [(.ref a1), (.int (Int32.ofNat dc)), (.ref ds)])) rfl rfl (hb hby d3_144)
  have pre19 : ∀ t, Steps p.tables e below (T18.setTop (mkF m 147 #[.val (.ref a1), .val (.int p1), .val (.int p2), .val (.int p3), .val (.int p4)] [(.int (Int32.ofNat pc)), (.int (Int32.ofNat dc)), (.ref ds)])) t → Steps p.tables e below (T0.setTop (mkF m 125 #[.val (.ref a1), .val (.int p1), .val (.int p2), .val (.int p3), .val (.int p4)] [])) t := fun t kT => pre17 t (st18 t kT)
  obtain ⟨co20, ⟨Ao20, Ko20⟩, So20, Ho20⟩ := id VS_e9
  have io20 := (own_ld So20 Ho20 (j := (Int32.ofNat dc)) (i := dc) (own_n0 (show dc < 2 ^ 31 by omega)) (own_n32 (show dc < 2 ^ 31 by omega)) (by omega) rfl).1
  have pre21 : ∀ t, Steps p.tables e below (T18.setTop (mkF m 147 #[.val (.ref a1), .val (.int p1), .val (.int p2), .val (.int p3), .val (.int p4)] [(.int (Int32.ofNat pc)), (.int (Int32.ofNat dc)), (.ref ds)])) t → Steps p.tables e below (T0.setTop (mkF m 125 #[.val (.ref a1), .val (.int p1), .val (.int p2), .val (.int p3), .val (.int p4)] [])) t := fun t kT => pre19 t (by
    exact kT)
  obtain ⟨T22, h22, X22, e22, W22, st22⟩ := stI X18 hx hZ e18 Ao20 (j := (Int32.ofNat dc)) io20 (g := (mkF m 147 #[.val (.ref a1), .val (.int p1), .val (.int p2), .val (.int p3), .val (.int p4)] [(.int (Int32.ofNat pc)), (.int (Int32.ofNat dc)), (.ref ds)])) rfl rfl (hb hby d3_147)
  rw [(own_n32 (show dc < 2 ^ 31 by omega))] at W22
  have pre23 : ∀ t, Steps p.tables e below (T22.setTop (mkF m 148 #[.val (.ref a1), .val (.int p1), .val (.int p2), .val (.int p3), .val (.int p4)] [])) t → Steps p.tables e below (T0.setTop (mkF m 125 #[.val (.ref a1), .val (.int p1), .val (.int p2), .val (.int p3), .val (.int p4)] [])) t := fun t kT => pre21 t (st22 t kT)
  have F0_e22 : Fld Z h22 a1 "com/example/esteem/esteem/index/Postings$Builder" "docs" "[I" (.ref dd) := F0_e9.other W22 (Or.inl n5)
  have F1_e22 : Fld Z h22 a1 "com/example/esteem/esteem/index/Postings$Builder" "starts" "[I" (.ref ds) := F1_e9.other W22 (Or.inl n5)
  have F2_e22 : Fld Z h22 a1 "com/example/esteem/esteem/index/Postings$Builder" "positions" "[I" (.ref dp) := F2_e9.other W22 (Or.inl n5)
  have F3_e22 : Fld Z h22 a1 "com/example/esteem/esteem/index/Postings$Builder" "docCount" "I" (.int (Int32.ofNat dc)) := F3_e9.other W22 (Or.inl n5)
  have F4_e22 : Fld Z h22 a1 "com/example/esteem/esteem/index/Postings$Builder" "positionCount" "I" (.int (Int32.ofNat pc)) := F4_e9.other W22 (Or.inl n5)
  have E0_e22 : Exa Z h22 a1 "com/example/esteem/esteem/index/Postings$Builder" := E0_e9.wr W22
  have V_dd_e22 : own_Ar Z h22 dd .int dl (own_upd (fun i => .int (gd i)) dc (.int p1)) := V_dd_e9.other W22 n1
  have VP_e22 : own_Ar Z h22 dp .int pl (fun i => .int (gp i)) := VP_e9.other W22 (Ne.symm n3)
  have sz22 : n0 ≤ h22.size := Nat.le_trans sz9 (Keep.of_wr W22).1
  have KK22 : Keep h0 h22 [a1, dd, ds] := KK9.wr W22 (Or.inl (List.mem_of_getElem? (i := 2) rfl))
  have V_ds_e22 : own_Ar Z h22 ds .int sl (own_upd (fun i => .int (gs i)) dc (.int (Int32.ofNat pc))) := VS_e9.set W22
  have N22 := Fr.snoc X22 N9 q2
  have pre24 : ∀ t, Steps p.tables e below (T22.setTop (mkF m 150 #[.val (.ref a1), .val (.int p1), .val (.int p2), .val (.int p3), .val (.int p4)] [(.ref a1), (.ref a1)])) t → Steps p.tables e below (T0.setTop (mkF m 125 #[.val (.ref a1), .val (.int p1), .val (.int p2), .val (.int p3), .val (.int p4)] [])) t := fun t kT => pre23 t (by
    show Steps p.tables e below (T22.setTop (mkF m 148 #[.val (.ref a1), .val (.int p1), .val (.int p2), .val (.int p3), .val (.int p4)] [])) _
    refine XS.aloadN X22.here hx rfl (hb hby d3_148) rfl rfl ?_
    show Steps p.tables e below (T22.setTop (mkF m 149 #[.val (.ref a1), .val (.int p1), .val (.int p2), .val (.int p3), .val (.int p4)] [(.ref a1)])) _
    refine XS.dup X22.here hx rfl (hb hby d3_149) rfl rfl ?_
    exact kT)
  obtain ⟨T25, X25, e25, st25⟩ := getF X22 hx hZ hown (host := "") (Or.inl (hw _ (List.mem_of_getElem? (i := 23) rfl))) Via.refl e22 F3_e22 (g := (mkF m 150 #[.val (.ref a1), .val (.int p1), .val (.int p2), .val (.int p3), .val (.int p4)] [(.ref a1), (.ref a1)])) rfl rfl (hb hby d3_150)
  have pre26 : ∀ t, Steps p.tables e below (T25.setTop (mkF m 153 #[.val (.ref a1), .val (.int p1), .val (.int p2), .val (.int p3), .val (.int p4)] [(.int (Int32.ofNat dc)), (.ref a1)])) t → Steps p.tables e below (T0.setTop (mkF m 125 #[.val (.ref a1), .val (.int p1), .val (.int p2), .val (.int p3), .val (.int p4)] [])) t := fun t kT => pre24 t (st25 t kT)
  have pre27 : ∀ t, Steps p.tables e below (T25.setTop (mkF m 155 #[.val (.ref a1), .val (.int p1), .val (.int p2), .val (.int p3), .val (.int p4)] [(.int ((Int32.ofNat dc) + (1 : Int32))), (.ref a1)])) t → Steps p.tables e below (T0.setTop (mkF m 125 #[.val (.ref a1), .val (.int p1), .val (.int p2), .val (.int p3), .val (.int p4)] [])) t := fun t kT => pre26 t (by
    show Steps p.tables e below (T25.setTop (mkF m 153 #[.val (.ref a1), .val (.int p1), .val (.int p2), .val (.int p3), .val (.int p4)] [(.int (Int32.ofNat dc)), (.ref a1)])) _
    refine XS.iconst X25.here hx rfl (hb hby d3_153) ?_
    show Steps p.tables e below (T25.setTop (mkF m 154 #[.val (.ref a1), .val (.int p1), .val (.int p2), .val (.int p3), .val (.int p4)] [(.int (1 : Int32)), (.int (Int32.ofNat dc)), (.ref a1)])) _
    refine XS.iadd X25.here hx rfl (hb hby d3_154) rfl ?_
    exact kT)
  rw [own_one] at pre27
  have pre28 : ∀ t, Steps p.tables e below (T25.setTop (mkF m 155 #[.val (.ref a1), .val (.int p1), .val (.int p2), .val (.int p3), .val (.int p4)] [(.int (Int32.ofNat (dc + 1))), (.ref a1)])) t → Steps p.tables e below (T0.setTop (mkF m 125 #[.val (.ref a1), .val (.int p1), .val (.int p2), .val (.int p3), .val (.int p4)] [])) t := fun t kT => pre27 t (by
    exact kT)
  obtain ⟨T29, h29, X29, e29, W29, st29⟩ := putF X25 hx hZ hown (host := "") (Or.inl (hw _ (List.mem_of_getElem? (i := 23) rfl))) Via.refl e25 F3_e22 E0_e22 (Or.inl (hw _ (List.mem_of_getElem? (i := 24) rfl))) (hw _ (List.mem_of_getElem? (i := 3) rfl)) (ty := .int) (by decide) rfl rfl (g := (mkF m 155 #[.val (.ref a1), .val (.int p1), .val (.int p2), .val (.int p3), .val (.int p4)] [(.int (Int32.ofNat (dc + 1))), (.ref a1)])) rfl rfl (hb hby d3_155)
  have pre30 : ∀ t, Steps p.tables e below (T29.setTop (mkF m 158 #[.val (.ref a1), .val (.int p1), .val (.int p2), .val (.int p3), .val (.int p4)] [])) t → Steps p.tables e below (T0.setTop (mkF m 125 #[.val (.ref a1), .val (.int p1), .val (.int p2), .val (.int p3), .val (.int p4)] [])) t := fun t kT => pre28 t (st29 t kT)
  have N29 := Fr.snoc X29 N22 q0
  have F0_e29 : Fld Z h29 a1 "com/example/esteem/esteem/index/Postings$Builder" "docs" "[I" (.ref dd) := F0_e22.other W29 (Or.inr (slot_ne (Or.inl (hw _ (List.mem_of_getElem? (i := 13) rfl))) (Or.inl (hw _ (List.mem_of_getElem? (i := 24) rfl))) (by decide) (t := (.array .int)) (t' := .int) (by decide) (by decide)))
  have F1_e29 : Fld Z h29 a1 "com/example/esteem/esteem/index/Postings$Builder" "starts" "[I" (.ref ds) := F1_e22.other W29 (Or.inr (slot_ne (Or.inl (hw _ (List.mem_of_getElem? (i := 15) rfl))) (Or.inl (hw _ (List.mem_of_getElem? (i := 24) rfl))) (by decide) (t := (.array .int)) (t' := .int) (by decide) (by decide)))
  have F2_e29 : Fld Z h29 a1 "com/example/esteem/esteem/index/Postings$Builder" "positions" "[I" (.ref dp) := F2_e22.other W29 (Or.inr (slot_ne (Or.inl (hw _ (List.mem_of_getElem? (i := 17) rfl))) (Or.inl (hw _ (List.mem_of_getElem? (i := 24) rfl))) (by decide) (t := (.array .int)) (t' := .int) (by decide) (by decide)))
  have F4_e29 : Fld Z h29 a1 "com/example/esteem/esteem/index/Postings$Builder" "positionCount" "I" (.int (Int32.ofNat pc)) := F4_e22.other W29 (Or.inr (slot_ne (Or.inl (hw _ (List.mem_of_getElem? (i := 26) rfl))) (Or.inl (hw _ (List.mem_of_getElem? (i := 24) rfl))) (by decide) (t := .int) (t' := .int) (by decide) (by decide)))
  have E0_e29 : Exa Z h29 a1 "com/example/esteem/esteem/index/Postings$Builder" := E0_e22.wr W29
  have V_dd_e29 : own_Ar Z h29 dd .int dl (own_upd (fun i => .int (gd i)) dc (.int p1)) := V_dd_e22.other W29 (Ne.symm n4)
  have V_ds_e29 : own_Ar Z h29 ds .int sl (own_upd (fun i => .int (gs i)) dc (.int (Int32.ofNat pc))) := V_ds_e22.other W29 (Ne.symm n5)
  have VP_e29 : own_Ar Z h29 dp .int pl (fun i => .int (gp i)) := VP_e22.other W29 (Ne.symm n6)
  have sz29 : n0 ≤ h29.size := Nat.le_trans sz22 (Keep.of_wr W29).1
  have KK29 : Keep h0 h29 [a1, dd, ds] := KK22.wr W29 (Or.inl (List.mem_of_getElem? (i := 0) rfl))
  have F_a1_docCount_e29 : Fld Z h29 a1 "com/example/esteem/esteem/index/Postings$Builder" "docCount" "I" (.int (Int32.ofNat (dc + 1))) := F3_e22.same W29
  have pre31 : ∀ t, Steps p.tables e below (T29.setTop (mkF m 158 #[.val (.ref a1), .val (.int p1), .val (.int p2), .val (.int p3), .val (.int p4)] [])) t → Steps p.tables e below (T0.setTop (mkF m 125 #[.val (.ref a1), .val (.int p1), .val (.int p2), .val (.int p3), .val (.int p4)] [])) t := fun t kT => pre30 t (by
    exact kT)
  exact ⟨T29, _, X29, N29, by rw [e29]; exact KK29, by rw [e29]; exact ⟨⟨F0_e29, F1_e29, F2_e29, F_a1_docCount_e29, F4_e29, E0_e29⟩, ⟨own_Pf.put V_dd_e29 hgd, own_Pf.put V_ds_e29 (fun i hi => hgs i (by omega)), own_Pf.of VP_e29 hgp⟩, ⟨n1, n2, n3, n4, n5, n6⟩, ⟨q0, q1, q2, q3⟩, ⟨by omega, by omega, by omega, by omega, by omega, by omega, by omega, by omega⟩⟩, pre31⟩
theorem d3_158 : decode prog_22_method_2_code 158 = .ok (.aload_n 0, 1) := by decide +kernel
theorem d3_159 : decode prog_22_method_2_code 159 = .ok (.getfield 42, 3) := by decide +kernel
theorem d3_162 : decode prog_22_method_2_code 162 = .ok (.aload_n 0, 1) := by decide +kernel
theorem d3_163 : decode prog_22_method_2_code 163 = .ok (.getfield 16, 3) := by decide +kernel
theorem d3_166 : decode prog_22_method_2_code 166 = .ok (.arraylength, 1) := by decide +kernel
theorem d3_167 : decode prog_22_method_2_code 167 = .ok (.if_icmp .ne 20, 3) := by decide +kernel
theorem d3_170 : decode prog_22_method_2_code 170 = .ok (.aload_n 0, 1) := by decide +kernel
theorem d3_171 : decode prog_22_method_2_code 171 = .ok (.aload_n 0, 1) := by decide +kernel
theorem d3_172 : decode prog_22_method_2_code 172 = .ok (.getfield 16, 3) := by decide +kernel
theorem d3_175 : decode prog_22_method_2_code 175 = .ok (.aload_n 0, 1) := by decide +kernel
theorem d3_176 : decode prog_22_method_2_code 176 = .ok (.getfield 42, 3) := by decide +kernel
theorem d3_179 : decode prog_22_method_2_code 179 = .ok (.iconst 2, 1) := by decide +kernel
theorem d3_180 : decode prog_22_method_2_code 180 = .ok (.imul, 1) := by decide +kernel
theorem d3_181 : decode prog_22_method_2_code 181 = .ok (.invokestatic 36, 3) := by decide +kernel
theorem d3_184 : decode prog_22_method_2_code 184 = .ok (.putfield 16, 3) := by decide +kernel
set_option maxRecDepth 65536 in
set_option maxHeartbeats 40000000 in
theorem tn_room {p : Program} {l : Launch} {e : Env} {R : Room} {s : State} {m : MethodId} {args : Array Value} {below : List Frame} {meth : Method} {c : Code} {T0 : State} {locs : List Loc} {cells slots : Nat} {Z : State} {a0 : Array Value} {h0 : Heap} {n0 : Nat} (a1 : Addr) (p1 p2 p3 p4 : Int32) (dd ds dp : Addr) (dl sl pl dc ks pc : Nat) (df sf pf : Nat → Int32)
    (X0 : Stand p l e R s m args below meth c T0 locs cells slots) (hx : p.tables.exec = Jvm.exec) (hZ : Z.Warmed39 s.vm) (hw : ∀ d ∈ tables_1, d.before a0 Z = true) (hby : c.code = prog_22_method_2_code) (hml : c.maxLocals = 5) (hown : s.vm.findClass "com/example/esteem/esteem/index/Postings$Builder" = some m.cls) (e0 : T0.heap = h0) (B : own_Bd Z h0 n0 a1 dd ds dp dl sl pl dc ks pc df sf pf) (hRf : 2 ≤ R.frames) (hRl : 70 ≤ R.locals) (N0 : Fr n0 locs) (Z0 : n0 ≤ h0.size) (hpc : pc ≤ 2) (hRc : cells + 1 ≤ R.cells) (hRs : slots + 4 ≤ R.slots) :
    ∃ (T' : State) (locs' : List Loc) (dp' : Addr) (pl' : Nat), Stand p l e R s m args below meth c T' locs' (cells + 1) (slots + 4) ∧ Fr n0 locs' ∧ Keep h0 T'.heap [a1] ∧ own_Bd Z T'.heap n0 a1 dd ds dp' dl sl pl' dc ks pc df sf pf ∧ pc < pl' ∧ (dp' = dp ∨ h0.size ≤ dp') ∧
      ∀ t, Steps p.tables e below (T'.setTop (mkF m 187 #[.val (.ref a1), .val (.int p1), .val (.int p2), .val (.int p3), .val (.int p4)] [])) t → Steps p.tables e below (T0.setTop (mkF m 158 #[.val (.ref a1), .val (.int p1), .val (.int p2), .val (.int p3), .val (.int p4)] [])) t := by
  have pre0 : ∀ t, Steps p.tables e below (T0.setTop (mkF m 158 #[.val (.ref a1), .val (.int p1), .val (.int p2), .val (.int p3), .val (.int p4)] [])) t → Steps p.tables e below (T0.setTop (mkF m 158 #[.val (.ref a1), .val (.int p1), .val (.int p2), .val (.int p3), .val (.int p4)] [])) t := fun t kT => kT
  obtain ⟨⟨F0, F1, F2, F3, F4, E0⟩, ⟨⟨gd, VD, hgd⟩, ⟨gs, VS, hgs⟩, ⟨gp, VP, hgp⟩⟩, ⟨n1, n2, n3, n4, n5, n6⟩, ⟨q0, q1, q2, q3⟩, ⟨b0, b1, b2, b3, b4, b5, b6, b7⟩⟩ := id B
  have pre1 : ∀ t, Steps p.tables e below (T0.setTop (mkF m 159 #[.val (.ref a1), .val (.int p1), .val (.int p2), .val (.int p3), .val (.int p4)] [(.ref a1)])) t → Steps p.tables e below (T0.setTop (mkF m 158 #[.val (.ref a1), .val (.int p1), .val (.int p2), .val (.int p3), .val (.int p4)] [])) t := fun t kT => pre0 t (by
    show Steps p.tables e below (T0.setTop (mkF m 158 #[.val (.ref a1), .val (.int p1), .val (.int p2), .val (.int p3), .val (.int p4)] [])) _
    refine XS.aloadN X0.here hx rfl (hb hby d3_158) rfl rfl ?_
    exact kT)
  obtain ⟨T2, X2, e2, st2⟩ := getF X0 hx hZ hown (host := "") (Or.inl (hw _ (List.mem_of_getElem? (i := 25) rfl))) Via.refl e0 F4 (g := (mkF m 159 #[.val (.ref a1), .val (.int p1), .val (.int p2), .val (.int p3), .val (.int p4)] [(.ref a1)])) rfl rfl (hb hby d3_159)
  have pre3 : ∀ t, Steps p.tables e below (T2.setTop (mkF m 162 #[.val (.ref a1), .val (.int p1), .val (.int p2), .val (.int p3), .val (.int p4)] [(.int (Int32.ofNat pc))])) t → Steps p.tables e below (T0.setTop (mkF m 158 #[.val (.ref a1), .val (.int p1), .val (.int p2), .val (.int p3), .val (.int p4)] [])) t := fun t kT => pre1 t (st2 t kT)
  have pre4 : ∀ t, Steps p.tables e below (T2.setTop (mkF m 163 #[.val (.ref a1), .val (.int p1), .val (.int p2), .val (.int p3), .val (.int p4)] [(.ref a1), (.int (Int32.ofNat pc))])) t → Steps p.tables e below (T0.setTop (mkF m 158 #[.val (.ref a1), .val (.int p1), .val (.int p2), .val (.int p3), .val (.int p4)] [])) t := fun t kT => pre3 t (by
    show Steps p.tables e below (T2.setTop (mkF m 162 #[.val (.ref a1), .val (.int p1), .val (.int p2), .val (.int p3), .val (.int p4)] [(.int (Int32.ofNat pc))])) _
    refine XS.aloadN X2.here hx rfl (hb hby d3_162) rfl rfl ?_
    exact kT)
  obtain ⟨T5, X5, e5, st5⟩ := getF X2 hx hZ hown (host := "") (Or.inl (hw _ (List.mem_of_getElem? (i := 16) rfl))) Via.refl e2 F2 (g := (mkF m 163 #[.val (.ref a1), .val (.int p1), .val (.int p2), .val (.int p3), .val (.int p4)] [(.ref a1), (.int (Int32.ofNat pc))])) rfl rfl (hb hby d3_163)
  have pre6 : ∀ t, Steps p.tables e below (T5.setTop (mkF m 166 #[.val (.ref a1), .val (.int p1), .val (.int p2), .val (.int p3), .val (.int p4)] [(.ref dp), (.int (Int32.ofNat pc))])) t → Steps p.tables e below (T0.setTop (mkF m 158 #[.val (.ref a1), .val (.int p1), .val (.int p2), .val (.int p3), .val (.int p4)] [])) t := fun t kT => pre4 t (st5 t kT)
  obtain ⟨co7, ⟨Ao7, Ko7⟩, So7, Ho7⟩ := id VP
  have pre8 : ∀ t, Steps p.tables e below (T5.setTop (mkF m 167 #[.val (.ref a1), .val (.int p1), .val (.int p2), .val (.int p3), .val (.int p4)] [(.int (Int32.ofNat pl)), (.int (Int32.ofNat pc))])) t → Steps p.tables e below (T0.setTop (mkF m 158 #[.val (.ref a1), .val (.int p1), .val (.int p2), .val (.int p3), .val (.int p4)] [])) t := fun t kT => pre6 t (by
    show Steps p.tables e below (T5.setTop (mkF m 166 #[.val (.ref a1), .val (.int p1), .val (.int p2), .val (.int p3), .val (.int p4)] [(.ref dp), (.int (Int32.ofNat pc))])) _
    refine X5.arraylength hx (by rw [e5]; exact Ao7.1) (State.isArrayOf_alike hZ.alike Ao7.2.1) (g := (mkF m 166 #[.val (.ref a1), .val (.int p1), .val (.int p2), .val (.int p3), .val (.int p4)] [(.ref dp), (.int (Int32.ofNat pc))])) rfl rfl (hb hby d3_166) _ ?_
    rw [So7]
    exact kT)
  by_cases hgr : (Int32.ofNat pc) = (Int32.ofNat pl)
  · have hg := (own_ij (by omega) (by omega)).mp hgr
    have pre9 : ∀ t, Steps p.tables e below (T5.setTop (mkF m 172 #[.val (.ref a1), .val (.int p1), .val (.int p2), .val (.int p3), .val (.int p4)] [(.ref a1), (.ref a1)])) t → Steps p.tables e below (T0.setTop (mkF m 158 #[.val (.ref a1), .val (.int p1), .val (.int p2), .val (.int p3), .val (.int p4)] [])) t := fun t kT => pre8 t (by
      show Steps p.tables e below (T5.setTop (mkF m 167 #[.val (.ref a1), .val (.int p1), .val (.int p2), .val (.int p3), .val (.int p4)] [(.int (Int32.ofNat pl)), (.int (Int32.ofNat pc))])) _
      refine XS.icmpNo X5.here hx rfl (hb hby d3_167) rfl (teq hgr).2 ?_
      show Steps p.tables e below (T5.setTop (mkF m 170 #[.val (.ref a1), .val (.int p1), .val (.int p2), .val (.int p3), .val (.int p4)] [])) _
      refine XS.aloadN X5.here hx rfl (hb hby d3_170) rfl rfl ?_
      show Steps p.tables e below (T5.setTop (mkF m 171 #[.val (.ref a1), .val (.int p1), .val (.int p2), .val (.int p3), .val (.int p4)] [(.ref a1)])) _
      refine XS.aloadN X5.here hx rfl (hb hby d3_171) rfl rfl ?_
      exact kT)
    obtain ⟨T10, X10, e10, st10⟩ := getF X5 hx hZ hown (host := "") (Or.inl (hw _ (List.mem_of_getElem? (i := 16) rfl))) Via.refl e5 F2 (g := (mkF m 172 #[.val (.ref a1), .val (.int p1), .val (.int p2), .val (.int p3), .val (.int p4)] [(.ref a1), (.ref a1)])) rfl rfl (hb hby d3_172)
    have pre11 : ∀ t, Steps p.tables e below (T10.setTop (mkF m 175 #[.val (.ref a1), .val (.int p1), .val (.int p2), .val (.int p3), .val (.int p4)] [(.ref dp), (.ref a1)])) t → Steps p.tables e below (T0.setTop (mkF m 158 #[.val (.ref a1), .val (.int p1), .val (.int p2), .val (.int p3), .val (.int p4)] [])) t := fun t kT => pre9 t (st10 t kT)
    have pre12 : ∀ t, Steps p.tables e below (T10.setTop (mkF m 176 #[.val (.ref a1), .val (.int p1), .val (.int p2), .val (.int p3), .val (.int p4)] [(.ref a1), (.ref dp), (.ref a1)])) t → Steps p.tables e below (T0.setTop (mkF m 158 #[.val (.ref a1), .val (.int p1), .val (.int p2), .val (.int p3), .val (.int p4)] [])) t := fun t kT => pre11 t (by
      show Steps p.tables e below (T10.setTop (mkF m 175 #[.val (.ref a1), .val (.int p1), .val (.int p2), .val (.int p3), .val (.int p4)] [(.ref dp), (.ref a1)])) _
      refine XS.aloadN X10.here hx rfl (hb hby d3_175) rfl rfl ?_
      exact kT)
    obtain ⟨T13, X13, e13, st13⟩ := getF X10 hx hZ hown (host := "") (Or.inl (hw _ (List.mem_of_getElem? (i := 25) rfl))) Via.refl e10 F4 (g := (mkF m 176 #[.val (.ref a1), .val (.int p1), .val (.int p2), .val (.int p3), .val (.int p4)] [(.ref a1), (.ref dp), (.ref a1)])) rfl rfl (hb hby d3_176)
    have pre14 : ∀ t, Steps p.tables e below (T13.setTop (mkF m 179 #[.val (.ref a1), .val (.int p1), .val (.int p2), .val (.int p3), .val (.int p4)] [(.int (Int32.ofNat pc)), (.ref dp), (.ref a1)])) t → Steps p.tables e below (T0.setTop (mkF m 158 #[.val (.ref a1), .val (.int p1), .val (.int p2), .val (.int p3), .val (.int p4)] [])) t := fun t kT => pre12 t (st13 t kT)
    have pre15 : ∀ t, Steps p.tables e below (T13.setTop (mkF m 181 #[.val (.ref a1), .val (.int p1), .val (.int p2), .val (.int p3), .val (.int p4)] [(.int ((Int32.ofNat pc) * (2 : Int32))), (.ref dp), (.ref a1)])) t → Steps p.tables e below (T0.setTop (mkF m 158 #[.val (.ref a1), .val (.int p1), .val (.int p2), .val (.int p3), .val (.int p4)] [])) t := fun t kT => pre14 t (by
      show Steps p.tables e below (T13.setTop (mkF m 179 #[.val (.ref a1), .val (.int p1), .val (.int p2), .val (.int p3), .val (.int p4)] [(.int (Int32.ofNat pc)), (.ref dp), (.ref a1)])) _
      refine XS.iconst X13.here hx rfl (hb hby d3_179) ?_
      show Steps p.tables e below (T13.setTop (mkF m 180 #[.val (.ref a1), .val (.int p1), .val (.int p2), .val (.int p3), .val (.int p4)] [(.int (2 : Int32)), (.int (Int32.ofNat pc)), (.ref dp), (.ref a1)])) _
      refine XS.imul X13.here hx rfl (hb hby d3_180) rfl ?_
      exact kT)
    rw [own_two] at pre15
    have pre16 : ∀ t, Steps p.tables e below (T13.setTop (mkF m 181 #[.val (.ref a1), .val (.int p1), .val (.int p2), .val (.int p3), .val (.int p4)] [(.int (Int32.ofNat (pc * 2))), (.ref dp), (.ref a1)])) t → Steps p.tables e below (T0.setTop (mkF m 158 #[.val (.ref a1), .val (.int p1), .val (.int p2), .val (.int p3), .val (.int p4)] [])) t := fun t kT => pre15 t (by
      exact kT)
    obtain ⟨T17, h17, X17, e17, E17, A17, st17⟩ := own_copy X13 hx hZ hown (hw _ (List.mem_of_getElem? (i := 31) rfl)) (hw _ (List.mem_of_getElem? (i := 32) rfl)) (fun a' => own_tab hZ hw a') (hw _ (List.mem_of_getElem? (i := 33) rfl)) (hw _ (List.mem_of_getElem? (i := 34) rfl)) e13 VP (by omega) (by omega) (g := (mkF m 181 #[.val (.ref a1), .val (.int p1), .val (.int p2), .val (.int p3), .val (.int p4)] [(.int (Int32.ofNat (pc * 2))), (.ref dp), (.ref a1)])) rfl (by rw [hml]; rfl) rfl (W := 1) (by show 2 * 0 + _ ≤ _; exact Nat.le_of_eq rfl) (hb hby d3_181) hRf (by omega) (by omega) (by show slots + (pc * 2) ≤ _; omega)
    obtain ⟨xp, g17⟩ : ∃ z, z = h0.size := ⟨_, rfl⟩
    rw [← g17] at A17 st17
    have ne_a1_xp : a1 ≠ xp := Nat.ne_of_lt (Nat.lt_of_lt_of_le F0.lt (Nat.le_of_eq g17.symm))
    have ne_dd_xp : dd ≠ xp := Nat.ne_of_lt (Nat.lt_of_lt_of_le VD.lt (Nat.le_of_eq g17.symm))
    have ne_ds_xp : ds ≠ xp := Nat.ne_of_lt (Nat.lt_of_lt_of_le VS.lt (Nat.le_of_eq g17.symm))
    have ne_dp_xp : dp ≠ xp := Nat.ne_of_lt (Nat.lt_of_lt_of_le VP.lt (Nat.le_of_eq g17.symm))
    have g_xp : n0 ≤ xp := Nat.le_trans Z0 (Nat.le_of_eq g17.symm)
    have fr_xp : h0.size ≤ xp := Nat.le_trans (Keep.refl h0 [a1]).1 (Nat.le_of_eq g17.symm)
    have pre18 : ∀ t, Steps p.tables e below (T17.setTop (mkF m 184 #[.val (.ref a1), .val (.int p1), .val (.int p2), .val (.int p3), .val (.int p4)] [(.ref xp), (.ref a1)])) t → Steps p.tables e below (T0.setTop (mkF m 158 #[.val (.ref a1), .val (.int p1), .val (.int p2), .val (.int p3), .val (.int p4)] [])) t := fun t kT => pre16 t (st17 t kT)
    have F0_e17 : Fld Z h17 a1 "com/example/esteem/esteem/index/Postings$Builder" "docs" "[I" (.ref dd) := F0.ext E17
    have F1_e17 : Fld Z h17 a1 "com/example/esteem/esteem/index/Postings$Builder" "starts" "[I" (.ref ds) := F1.ext E17
    have F2_e17 : Fld Z h17 a1 "com/example/esteem/esteem/index/Postings$Builder" "positions" "[I" (.ref dp) := F2.ext E17
    have F3_e17 : Fld Z h17 a1 "com/example/esteem/esteem/index/Postings$Builder" "docCount" "I" (.int (Int32.ofNat dc)) := F3.ext E17
    have F4_e17 : Fld Z h17 a1 "com/example/esteem/esteem/index/Postings$Builder" "positionCount" "I" (.int (Int32.ofNat pc)) := F4.ext E17
    have E0_e17 : Exa Z h17 a1 "com/example/esteem/esteem/index/Postings$Builder" := E0.ext E17
    have VD_e17 : own_Ar Z h17 dd .int dl (fun i => .int (gd i)) := VD.ext E17
    have VS_e17 : own_Ar Z h17 ds .int sl (fun i => .int (gs i)) := VS.ext E17
    have VP_e17 : own_Ar Z h17 dp .int pl (fun i => .int (gp i)) := VP.ext E17
    have sz17 : n0 ≤ h17.size := Nat.le_trans Z0 E17.1
    have KK17 : Keep h0 h17 [a1] := (Keep.refl h0 [a1]).ext E17
    have V_xp : own_Ar Z h17 xp .int (pc * 2) (fun i => .int (if i < pl then gp i else 0)) := A17
    have pre19 : ∀ t, Steps p.tables e below (T17.setTop (mkF m 184 #[.val (.ref a1), .val (.int p1), .val (.int p2), .val (.int p3), .val (.int p4)] [(.ref xp), (.ref a1)])) t → Steps p.tables e below (T0.setTop (mkF m 158 #[.val (.ref a1), .val (.int p1), .val (.int p2), .val (.int p3), .val (.int p4)] [])) t := fun t kT => pre18 t (by
      exact kT)
    obtain ⟨T20, h20, X20, e20, W20, st20⟩ := putF X17 hx hZ hown (host := "") (Or.inl (hw _ (List.mem_of_getElem? (i := 16) rfl))) Via.refl e17 F2_e17 E0_e17 (Or.inl (hw _ (List.mem_of_getElem? (i := 17) rfl))) (hw _ (List.mem_of_getElem? (i := 3) rfl)) (ty := (.array .int)) (by decide) rfl rfl (g := (mkF m 184 #[.val (.ref a1), .val (.int p1), .val (.int p2), .val (.int p3), .val (.int p4)] [(.ref xp), (.ref a1)])) rfl rfl (hb hby d3_184)
    have pre21 : ∀ t, Steps p.tables e below (T20.setTop (mkF m 187 #[.val (.ref a1), .val (.int p1), .val (.int p2), .val (.int p3), .val (.int p4)] [])) t → Steps p.tables e below (T0.setTop (mkF m 158 #[.val (.ref a1), .val (.int p1), .val (.int p2), .val (.int p3), .val (.int p4)] [])) t := fun t kT => pre19 t (st20 t kT)
    have N20 := Fr.snoc X20 N0 q0
    have F0_e20 : Fld Z h20 a1 "com/example/esteem/esteem/index/Postings$Builder" "docs" "[I" (.ref dd) := F0_e17.other W20 (Or.inr (slot_ne (Or.inl (hw _ (List.mem_of_getElem? (i := 13) rfl))) (Or.inl (hw _ (List.mem_of_getElem? (i := 17) rfl))) (by decide) (t := (.array .int)) (t' := (.array .int)) (by decide) (by decide)))
    have F1_e20 : Fld Z h20 a1 "com/example/esteem/esteem/index/Postings$Builder" "starts" "[I" (.ref ds) := F1_e17.other W20 (Or.inr (slot_ne (Or.inl (hw _ (List.mem_of_getElem? (i := 15) rfl))) (Or.inl (hw _ (List.mem_of_getElem? (i := 17) rfl))) (by decide) (t := (.array .int)) (t' := (.array .int)) (by decide) (by decide)))
    have F3_e20 : Fld Z h20 a1 "com/example/esteem/esteem/index/Postings$Builder" "docCount" "I" (.int (Int32.ofNat dc)) := F3_e17.other W20 (Or.inr (slot_ne (Or.inl (hw _ (List.mem_of_getElem? (i := 24) rfl))) (Or.inl (hw _ (List.mem_of_getElem? (i := 17) rfl))) (by decide) (t := .int) (t' := (.array .int)) (by decide) (by decide)))
    have F4_e20 : Fld Z h20 a1 "com/example/esteem/esteem/index/Postings$Builder" "positionCount" "I" (.int (Int32.ofNat pc)) := F4_e17.other W20 (Or.inr (slot_ne (Or.inl (hw _ (List.mem_of_getElem? (i := 26) rfl))) (Or.inl (hw _ (List.mem_of_getElem? (i := 17) rfl))) (by decide) (t := .int) (t' := (.array .int)) (by decide) (by decide)))
    have E0_e20 : Exa Z h20 a1 "com/example/esteem/esteem/index/Postings$Builder" := E0_e17.wr W20
    have VD_e20 : own_Ar Z h20 dd .int dl (fun i => .int (gd i)) := VD_e17.other W20 (Ne.symm n4)
    have VS_e20 : own_Ar Z h20 ds .int sl (fun i => .int (gs i)) := VS_e17.other W20 (Ne.symm n5)
    have VP_e20 : own_Ar Z h20 dp .int pl (fun i => .int (gp i)) := VP_e17.other W20 (Ne.symm n6)
    have V_xp_e20 : own_Ar Z h20 xp .int (pc * 2) (fun i => .int (if i < pl then gp i else 0)) := V_xp.other W20 (Ne.symm ne_a1_xp)
    have sz20 : n0 ≤ h20.size := Nat.le_trans sz17 (Keep.of_wr W20).1
    have KK20 : Keep h0 h20 [a1] := KK17.wr W20 (Or.inl (List.mem_of_getElem? (i := 0) rfl))
    have F_a1_positions_e20 : Fld Z h20 a1 "com/example/esteem/esteem/index/Postings$Builder" "positions" "[I" (.ref xp) := F2_e17.same W20
    have pre22 : ∀ t, Steps p.tables e below (T20.setTop (mkF m 187 #[.val (.ref a1), .val (.int p1), .val (.int p2), .val (.int p3), .val (.int p4)] [])) t → Steps p.tables e below (T0.setTop (mkF m 158 #[.val (.ref a1), .val (.int p1), .val (.int p2), .val (.int p3), .val (.int p4)] [])) t := fun t kT => pre21 t (by
      exact kT)
    exact ⟨T20, _, xp, (pc * 2), X20.more (by omega) (by omega), N20, by rw [e20]; exact KK20, by rw [e20]; exact ⟨⟨F0_e20, F1_e20, F_a1_positions_e20, F3_e20, F4_e20, E0_e20⟩, ⟨own_Pf.of VD_e20 hgd, own_Pf.of VS_e20 hgs, own_Pf.grown V_xp_e20 hgp (by omega)⟩, ⟨n1, ne_dd_xp, ne_ds_xp, n4, n5, ne_a1_xp⟩, ⟨q0, q1, q2, g_xp⟩, ⟨by omega, by omega, by omega, by omega, by omega, by omega, by omega, by omega⟩⟩, by omega, Or.inr fr_xp, pre22⟩
  · have pre23 : ∀ t, Steps p.tables e below (T5.setTop (mkF m 187 #[.val (.ref a1), .val (.int p1), .val (.int p2), .val (.int p3), .val (.int p4)] [])) t → Steps p.tables e below (T0.setTop (mkF m 158 #[.val (.ref a1), .val (.int p1), .val (.int p2), .val (.int p3), .val (.int p4)] [])) t := fun t kT => pre8 t (by
      show Steps p.tables e below (T5.setTop (mkF m 167 #[.val (.ref a1), .val (.int p1), .val (.int p2), .val (.int p3), .val (.int p4)] [(.int (Int32.ofNat pl)), (.int (Int32.ofNat pc))])) _
      refine XS.icmpYes X5.here hx rfl (pc0 := 167) (pc' := 187) rfl (hb hby d3_167) rfl (feq hgr).2 (by decide) (by decide) ?_
      exact kT)
    have hg := mt (own_ij (i := pc) (j := pl) (by omega) (by omega)).mpr hgr
    exact ⟨T5, _, dp, pl, X5.more (by omega) (by omega), N0, by rw [e5]; exact (Keep.refl h0 [a1]), by rw [e5]; exact B, by omega, Or.inl rfl, pre23⟩
theorem d3_187 : decode prog_22_method_2_code 187 = .ok (.aload_n 0, 1) := by decide +kernel
theorem d3_188 : decode prog_22_method_2_code 188 = .ok (.getfield 16, 3) := by decide +kernel
theorem d3_191 : decode prog_22_method_2_code 191 = .ok (.aload_n 0, 1) := by decide +kernel
theorem d3_192 : decode prog_22_method_2_code 192 = .ok (.getfield 42, 3) := by decide +kernel
theorem d3_195 : decode prog_22_method_2_code 195 = .ok (.iload_n 2, 1) := by decide +kernel
theorem d3_196 : decode prog_22_method_2_code 196 = .ok (.iastore, 1) := by decide +kernel
theorem d3_197 : decode prog_22_method_2_code 197 = .ok (.aload_n 0, 1) := by decide +kernel
theorem d3_198 : decode prog_22_method_2_code 198 = .ok (.dup, 1) := by decide +kernel
theorem d3_199 : decode prog_22_method_2_code 199 = .ok (.getfield 42, 3) := by decide +kernel
theorem d3_202 : decode prog_22_method_2_code 202 = .ok (.iconst 1, 1) := by decide +kernel
theorem d3_203 : decode prog_22_method_2_code 203 = .ok (.iadd, 1) := by decide +kernel
theorem d3_204 : decode prog_22_method_2_code 204 = .ok (.putfield 42, 3) := by decide +kernel
theorem d3_207 : decode prog_22_method_2_code 207 = .ok (.aload_n 0, 1) := by decide +kernel
theorem d3_208 : decode prog_22_method_2_code 208 = .ok (.getfield 13, 3) := by decide +kernel
theorem d3_211 : decode prog_22_method_2_code 211 = .ok (.aload_n 0, 1) := by decide +kernel
theorem d3_212 : decode prog_22_method_2_code 212 = .ok (.getfield 19, 3) := by decide +kernel
theorem d3_215 : decode prog_22_method_2_code 215 = .ok (.aload_n 0, 1) := by decide +kernel
theorem d3_216 : decode prog_22_method_2_code 216 = .ok (.getfield 42, 3) := by decide +kernel
theorem d3_219 : decode prog_22_method_2_code 219 = .ok (.iastore, 1) := by decide +kernel
set_option maxRecDepth 65536 in
set_option maxHeartbeats 40000000 in
theorem tn_pos {p : Program} {l : Launch} {e : Env} {R : Room} {s : State} {m : MethodId} {args : Array Value} {below : List Frame} {meth : Method} {c : Code} {T0 : State} {locs : List Loc} {cells slots : Nat} {Z : State} {a0 : Array Value} {h0 : Heap} {n0 : Nat} (a1 : Addr) (p1 p2 p3 p4 : Int32) (dd ds dp : Addr) (dl sl pl dc ks pc : Nat) (df sf pf : Nat → Int32)
    (X0 : Stand p l e R s m args below meth c T0 locs cells slots) (hx : p.tables.exec = Jvm.exec) (hZ : Z.Warmed39 s.vm) (hw : ∀ d ∈ tables_1, d.before a0 Z = true) (hby : c.code = prog_22_method_2_code) (hml : c.maxLocals = 5) (hown : s.vm.findClass "com/example/esteem/esteem/index/Postings$Builder" = some m.cls) (e0 : T0.heap = h0) (B : own_Bd Z h0 n0 a1 dd ds dp dl sl pl dc ks pc df sf pf) (hRf : 2 ≤ R.frames) (hRl : 70 ≤ R.locals) (N0 : Fr n0 locs) (Z0 : n0 ≤ h0.size) (hpl : pc < pl) (hks : dc ≤ ks) :
    ∃ (T' : State) (locs' : List Loc), Stand p l e R s m args below meth c T' locs' cells slots ∧ Fr n0 locs' ∧ Keep h0 T'.heap [a1, dp, ds] ∧ own_Bd Z T'.heap n0 a1 dd ds dp dl sl pl dc (dc + 1) (pc + 1) df (own_updI sf dc (Int32.ofNat (pc + 1))) (own_updI pf pc p2) ∧
      ∀ t, Steps p.tables e below (T'.setTop (mkF m 220 #[.val (.ref a1), .val (.int p1), .val (.int p2), .val (.int p3), .val (.int p4)] [])) t → Steps p.tables e below (T0.setTop (mkF m 187 #[.val (.ref a1), .val (.int p1), .val (.int p2), .val (.int p3), .val (.int p4)] [])) t := by
  have pre0 : ∀ t, Steps p.tables e below (T0.setTop (mkF m 187 #[.val (.ref a1), .val (.int p1), .val (.int p2), .val (.int p3), .val (.int p4)] [])) t → Steps p.tables e below (T0.setTop (mkF m 187 #[.val (.ref a1), .val (.int p1), .val (.int p2), .val (.int p3), .val (.int p4)] [])) t := fun t kT => kT
  obtain ⟨⟨F0, F1, F2, F3, F4, E0⟩, ⟨⟨gd, VD, hgd⟩, ⟨gs, VS, hgs⟩, ⟨gp, VP, hgp⟩⟩, ⟨n1, n2, n3, n4, n5, n6⟩, ⟨q0, q1, q2, q3⟩, ⟨b0, b1, b2, b3, b4, b5, b6, b7⟩⟩ := id B
  have pre1 : ∀ t, Steps p.tables e below (T0.setTop (mkF m 188 #[.val (.ref a1), .val (.int p1), .val (.int p2), .val (.int p3), .val (.int p4)] [(.ref a1)])) t → Steps p.tables e below (T0.setTop (mkF m 187 #[.val (.ref a1), .val (.int p1), .val (.int p2), .val (.int p3), .val (.int p4)] [])) t := fun t kT => pre0 t (by
    show Steps p.tables e below (T0.setTop (mkF m 187 #[.val (.ref a1), .val (.int p1), .val (.int p2), .val (.int p3), .val (.int p4)] [])) _
    refine XS.aloadN X0.here hx rfl (hb hby d3_187) rfl rfl ?_
    exact kT)
  obtain ⟨T2, X2, e2, st2⟩ := getF X0 hx hZ hown (host := "") (Or.inl (hw _ (List.mem_of_getElem? (i := 16) rfl))) Via.refl e0 F2 (g := (mkF m 188 #[.val (.ref a1), .val (.int p1), .val (.int p2), .val (.int p3), .val (.int p4)] [(.ref a1)])) rfl rfl (hb hby d3_188)
  have pre3 : ∀ t, Steps p.tables e below (T2.setTop (mkF m 191 #[.val (.ref a1), .val (.int p1), .val (.int p2), .val (.int p3), .val (.int p4)] [(.ref dp)])) t → Steps p.tables e below (T0.setTop (mkF m 187 #[.val (.ref a1), .val (.int p1), .val (.int p2), .val (.int p3), .val (.int p4)] [])) t := fun t kT => pre1 t (st2 t kT)
  have pre4 : ∀ t, Steps p.tables e below (T2.setTop (mkF m 192 #[.val (.ref a1), .val (.int p1), .val (.int p2), .val (.int p3), .val (.int p4)] [(.ref a1), (.ref dp)])) t → Steps p.tables e below (T0.setTop (mkF m 187 #[.val (.ref a1), .val (.int p1), .val (.int p2), .val (.int p3), .val (.int p4)] [])) t := fun t kT => pre3 t (by
    show Steps p.tables e below (T2.setTop (mkF m 191 #[.val (.ref a1), .val (.int p1), .val (.int p2), .val (.int p3), .val (.int p4)] [(.ref dp)])) _
    refine XS.aloadN X2.here hx rfl (hb hby d3_191) rfl rfl ?_
    exact kT)
  obtain ⟨T5, X5, e5, st5⟩ := getF X2 hx hZ hown (host := "") (Or.inl (hw _ (List.mem_of_getElem? (i := 25) rfl))) Via.refl e2 F4 (g := (mkF m 192 #[.val (.ref a1), .val (.int p1), .val (.int p2), .val (.int p3), .val (.int p4)] [(.ref a1), (.ref dp)])) rfl rfl (hb hby d3_192)
  have pre6 : ∀ t, Steps p.tables e below (T5.setTop (mkF m 195 #[.val (.ref a1), .val (.int p1), .val (.int p2), .val (.int p3), .val (.int p4)] [(.int (Int32.ofNat pc)), (.ref dp)])) t → Steps p.tables e below (T0.setTop (mkF m 187 #[.val (.ref a1), .val (.int p1), .val (.int p2), .val (.int p3), .val (.int p4)] [])) t := fun t kT => pre4 t (st5 t kT)
  obtain ⟨co7, ⟨Ao7, Ko7⟩, So7, Ho7⟩ := id VP
  have io7 := (own_ld So7 Ho7 (j := (Int32.ofNat pc)) (i := pc) (own_n0 (show pc < 2 ^ 31 by omega)) (own_n32 (show pc < 2 ^ 31 by omega)) hpl rfl).1
  have pre8 : ∀ t, Steps p.tables e below (T5.setTop (mkF m 196 #[.val (.ref a1), .val (.int p1), .val (.int p2), .val (.int p3), .val (.int p4)] [(.int p2), (.int (Int32.ofNat pc)), (.ref dp)])) t → Steps p.tables e below (T0.setTop (mkF m 187 #[.val (.ref a1), .val (.int p1), .val (.int p2), .val (.int p3), .val (.int p4)] [])) t := fun t kT => pre6 t (by
    show Steps p.tables e below (T5.setTop (mkF m 195 #[.val (.ref a1), .val (.int p1), .val (.int p2), .val (.int p3), .val (.int p4)] [(.int (Int32.ofNat pc)), (.ref dp)])) _
    refine XS.iloadN X5.here hx rfl (hb hby d3_195) rfl ?_
    exact kT)
  obtain ⟨T9, h9, X9, e9, W9, st9⟩ := stI X5 hx hZ e5 Ao7 (j := (Int32.ofNat pc)) io7 (g := (mkF m 196 #[.val (.ref a1), .val (.int p1), .val (.int p2), .val (.int p3), .val (.int p4)] [(.int p2), (.int (Int32.ofNat pc)), (.ref dp)])) rfl rfl (hb hby d3_196)
  rw [(own_n32 (show pc < 2 ^ 31 by omega))] at W9
  have pre10 : ∀ t, Steps p.tables e below (T9.setTop (mkF m 197 #[.val (.ref a1), .val (.int p1), .val (.int p2), .val (.int p3), .val (.int p4)] [])) t → Steps p.tables e below (T0.setTop (mkF m 187 #[.val (.ref a1), .val (.int p1), .val (.int p2), .val (.int p3), .val (.int p4)] [])) t := fun t kT => pre8 t (st9 t kT)
  have F0_e9 : Fld Z h9 a1 "com/example/esteem/esteem/index/Postings$Builder" "docs" "[I" (.ref dd) := F0.other W9 (Or.inl n6)
  have F1_e9 : Fld Z h9 a1 "com/example/esteem/esteem/index/Postings$Builder" "starts" "[I" (.ref ds) := F1.other W9 (Or.inl n6)
  have F2_e9 : Fld Z h9 a1 "com/example/esteem/esteem/index/Postings$Builder" "positions" "[I" (.ref dp) := F2.other W9 (Or.inl n6)
  have F3_e9 : Fld Z h9 a1 "com/example/esteem/esteem/index/Postings$Builder" "docCount" "I" (.int (Int32.ofNat dc)) := F3.other W9 (Or.inl n6)
  have F4_e9 : Fld Z h9 a1 "com/example/esteem/esteem/index/Postings$Builder" "positionCount" "I" (.int (Int32.ofNat pc)) := F4.other W9 (Or.inl n6)
  have E0_e9 : Exa Z h9 a1 "com/example/esteem/esteem/index/Postings$Builder" := E0.wr W9
  have VD_e9 : own_Ar Z h9 dd .int dl (fun i => .int (gd i)) := VD.other W9 n2
  have VS_e9 : own_Ar Z h9 ds .int sl (fun i => .int (gs i)) := VS.other W9 n3
  have sz9 : n0 ≤ h9.size := Nat.le_trans Z0 (Keep.of_wr W9).1
  have KK9 : Keep h0 h9 [a1, dp, ds] := (Keep.refl h0 [a1, dp, ds]).wr W9 (Or.inl (List.mem_of_getElem? (i := 1) rfl))
  have V_dp_e9 : own_Ar Z h9 dp .int pl (own_upd (fun i => .int (gp i)) pc (.int p2)) := VP.set W9
  have N9 := Fr.snoc X9 N0 q3
  have pre11 : ∀ t, Steps p.tables e below (T9.setTop (mkF m 199 #[.val (.ref a1), .val (.int p1), .val (.int p2), .val (.int p3), .val (.int p4)] [(.ref a1), (.ref a1)])) t → Steps p.tables e below (T0.setTop (mkF m 187 #[.val (.ref a1), .val (.int p1), .val (.int p2), .val (.int p3), .val (.int p4)] [])) t := fun t kT => pre10 t (by
    show Steps p.tables e below (T9.setTop (mkF m 197 #[.val (.ref a1), .val (.int p1), .val (.int p2), .val (.int p3), .val (.int p4)] [])) _
    refine XS.aloadN X9.here hx rfl (hb hby d3_197) rfl rfl ?_
    show Steps p.tables e below (T9.setTop (mkF m 198 #[.val (.ref a1), .val (.int p1), .val (.int p2), .val (.int p3), .val (.int p4)] [(.ref a1)])) _
    refine XS.dup X9.here hx rfl (hb hby d3_198) rfl rfl ?_
    exact kT)
  obtain ⟨T12, X12, e12, st12⟩ := getF X9 hx hZ hown (host := "") (Or.inl (hw _ (List.mem_of_getElem? (i := 25) rfl))) Via.refl e9 F4_e9 (g := (mkF m 199 #[.val (.ref a1), .val (.int p1), .val (.int p2), .val (.int p3), .val (.int p4)] [(.ref a1), (.ref a1)])) rfl rfl (hb hby d3_199)
  have pre13 : ∀ t, Steps p.tables e below (T12.setTop (mkF m 202 #[.val (.ref a1), .val (.int p1), .val (.int p2), .val (.int p3), .val (.int p4)] [(.int (Int32.ofNat pc)), (.ref a1)])) t → Steps p.tables e below (T0.setTop (mkF m 187 #[.val (.ref a1), .val (.int p1), .val (.int p2), .val (.int p3), .val (.int p4)] [])) t := fun t kT => pre11 t (st12 t kT)
  have pre14 : ∀ t, Steps p.tables e below (T12.setTop (mkF m 204 #[.val (.ref a1), .val (.int p1), .val (.int p2), .val (.int p3), .val (.int p4)] [(.int ((Int32.ofNat pc) + (1 : Int32))), (.ref a1)])) t → Steps p.tables e below (T0.setTop (mkF m 187 #[.val (.ref a1), .val (.int p1), .val (.int p2), .val (.int p3), .val (.int p4)] [])) t := fun t kT => pre13 t (by
    show Steps p.tables e below (T12.setTop (mkF m 202 #[.val (.ref a1), .val (.int p1), .val (.int p2), .val (.int p3), .val (.int p4)] [(.int (Int32.ofNat pc)), (.ref a1)])) _
    refine XS.iconst X12.here hx rfl (hb hby d3_202) ?_
    show Steps p.tables e below (T12.setTop (mkF m 203 #[.val (.ref a1), .val (.int p1), .val (.int p2), .val (.int p3), .val (.int p4)] [(.int (1 : Int32)), (.int (Int32.ofNat pc)), (.ref a1)])) _
    refine XS.iadd X12.here hx rfl (hb hby d3_203) rfl ?_
    exact kT)
  rw [own_one] at pre14
  have pre15 : ∀ t, Steps p.tables e below (T12.setTop (mkF m 204 #[.val (.ref a1), .val (.int p1), .val (.int p2), .val (.int p3), .val (.int p4)] [(.int (Int32.ofNat (pc + 1))), (.ref a1)])) t → Steps p.tables e below (T0.setTop (mkF m 187 #[.val (.ref a1), .val (.int p1), .val (.int p2), .val (.int p3), .val (.int p4)] [])) t := fun t kT => pre14 t (by
    exact kT)
  obtain ⟨T16, h16, X16, e16, W16, st16⟩ := putF X12 hx hZ hown (host := "") (Or.inl (hw _ (List.mem_of_getElem? (i := 25) rfl))) Via.refl e12 F4_e9 E0_e9 (Or.inl (hw _ (List.mem_of_getElem? (i := 26) rfl))) (hw _ (List.mem_of_getElem? (i := 3) rfl)) (ty := .int) (by decide) rfl rfl (g := (mkF m 204 #[.val (.ref a1), .val (.int p1), .val (.int p2), .val (.int p3), .val (.int p4)] [(.int (Int32.ofNat (pc + 1))), (.ref a1)])) rfl rfl (hb hby d3_204)
  have pre17 : ∀ t, Steps p.tables e below (T16.setTop (mkF m 207 #[.val (.ref a1), .val (.int p1), .val (.int p2), .val (.int p3), .val (.int p4)] [])) t → Steps p.tables e below (T0.setTop (mkF m 187 #[.val (.ref a1), .val (.int p1), .val (.int p2), .val (.int p3), .val (.int p4)] [])) t := fun t kT => pre15 t (st16 t kT)
  have N16 := Fr.snoc X16 N9 q0
  have F0_e16 : Fld Z h16 a1 "com/example/esteem/esteem/index/Postings$Builder" "docs" "[I" (.ref dd) := F0_e9.other W16 (Or.inr (slot_ne (Or.inl (hw _ (List.mem_of_getElem? (i := 13) rfl))) (Or.inl (hw _ (List.mem_of_getElem? (i := 26) rfl))) (by decide) (t := (.array .int)) (t' := .int) (by decide) (by decide)))
  have F1_e16 : Fld Z h16 a1 "com/example/esteem/esteem/index/Postings$Builder" "starts" "[I" (.ref ds) := F1_e9.other W16 (Or.inr (slot_ne (Or.inl (hw _ (List.mem_of_getElem? (i := 15) rfl))) (Or.inl (hw _ (List.mem_of_getElem? (i := 26) rfl))) (by decide) (t := (.array .int)) (t' := .int) (by decide) (by decide)))
  have F2_e16 : Fld Z h16 a1 "com/example/esteem/esteem/index/Postings$Builder" "positions" "[I" (.ref dp) := F2_e9.other W16 (Or.inr (slot_ne (Or.inl (hw _ (List.mem_of_getElem? (i := 17) rfl))) (Or.inl (hw _ (List.mem_of_getElem? (i := 26) rfl))) (by decide) (t := (.array .int)) (t' := .int) (by decide) (by decide)))
  have F3_e16 : Fld Z h16 a1 "com/example/esteem/esteem/index/Postings$Builder" "docCount" "I" (.int (Int32.ofNat dc)) := F3_e9.other W16 (Or.inr (slot_ne (Or.inl (hw _ (List.mem_of_getElem? (i := 24) rfl))) (Or.inl (hw _ (List.mem_of_getElem? (i := 26) rfl))) (by decide) (t := .int) (t' := .int) (by decide) (by decide)))
  have E0_e16 : Exa Z h16 a1 "com/example/esteem/esteem/index/Postings$Builder" := E0_e9.wr W16
  have VD_e16 : own_Ar Z h16 dd .int dl (fun i => .int (gd i)) := VD_e9.other W16 (Ne.symm n4)
  have VS_e16 : own_Ar Z h16 ds .int sl (fun i => .int (gs i)) := VS_e9.other W16 (Ne.symm n5)
  have V_dp_e16 : own_Ar Z h16 dp .int pl (own_upd (fun i => .int (gp i)) pc (.int p2)) := V_dp_e9.other W16 (Ne.symm n6)
  have sz16 : n0 ≤ h16.size := Nat.le_trans sz9 (Keep.of_wr W16).1
  have KK16 : Keep h0 h16 [a1, dp, ds] := KK9.wr W16 (Or.inl (List.mem_of_getElem? (i := 0) rfl))
  have F_a1_positionCount_e16 : Fld Z h16 a1 "com/example/esteem/esteem/index/Postings$Builder" "positionCount" "I" (.int (Int32.ofNat (pc + 1))) := F4_e9.same W16
  have pre18 : ∀ t, Steps p.tables e below (T16.setTop (mkF m 208 #[.val (.ref a1), .val (.int p1), .val (.int p2), .val (.int p3), .val (.int p4)] [(.ref a1)])) t → Steps p.tables e below (T0.setTop (mkF m 187 #[.val (.ref a1), .val (.int p1), .val (.int p2), .val (.int p3), .val (.int p4)] [])) t := fun t kT => pre17 t (by
    show Steps p.tables e below (T16.setTop (mkF m 207 #[.val (.ref a1), .val (.int p1), .val (.int p2), .val (.int p3), .val (.int p4)] [])) _
    refine XS.aloadN X16.here hx rfl (hb hby d3_207) rfl rfl ?_
    exact kT)
  obtain ⟨T19, X19, e19, st19⟩ := getF X16 hx hZ hown (host := "") (Or.inl (hw _ (List.mem_of_getElem? (i := 14) rfl))) Via.refl e16 F1_e16 (g := (mkF m 208 #[.val (.ref a1), .val (.int p1), .val (.int p2), .val (.int p3), .val (.int p4)] [(.ref a1)])) rfl rfl (hb hby d3_208)
  have pre20 : ∀ t, Steps p.tables e below (T19.setTop (mkF m 211 #[.val (.ref a1), .val (.int p1), .val (.int p2), .val (.int p3), .val (.int p4)] [(.ref ds)])) t → Steps p.tables e below (T0.setTop (mkF m 187 #[.val (.ref a1), .val (.int p1), .val (.int p2), .val (.int p3), .val (.int p4)] [])) t := fun t kT => pre18 t (st19 t kT)
  have pre21 : ∀ t, Steps p.tables e below (T19.setTop (mkF m 212 #[.val (.ref a1), .val (.int p1), .val (.int p2), .val (.int p3), .val (.int p4)] [(.ref a1), (.ref ds)])) t → Steps p.tables e below (T0.setTop (mkF m 187 #[.val (.ref a1), .val (.int p1), .val (.int p2), .val (.int p3), .val (.int p4)] [])) t := fun t kT => pre20 t (by
    show Steps p.tables e below (T19.setTop (mkF m 211 #[.val (.ref a1), .val (.int p1), .val (.int p2), .val (.int p3), .val (.int p4)] [(.ref ds)])) _
    refine XS.aloadN X19.here hx rfl (hb hby d3_211) rfl rfl ?_
    exact kT)
  obtain ⟨T22, X22, e22, st22⟩ := getF X19 hx hZ hown (host := "") (Or.inl (hw _ (List.mem_of_getElem? (i := 23) rfl))) Via.refl e19 F3_e16 (g := (mkF m 212 #[.val (.ref a1), .val (.int p1), .val (.int p2), .val (.int p3), .val (.int p4)] [(.ref a1), (.ref ds)])) rfl rfl (hb hby d3_212)
  have pre23 : ∀ t, Steps p.tables e below (T22.setTop (mkF m 215 #[.val (.ref a1), .val (.int p1), .val (.int p2), .val (.int p3), .val (.int p4)] [(.int (Int32.ofNat dc)), (.ref ds)])) t → Steps p.tables e below (T0.setTop (mkF m 187 #[.val (.ref a1), .val (.int p1), .val (.int p2), .val (.int p3), .val (.int p4)] [])) t := fun t kT => pre21 t (st22 t kT)
  have pre24 : ∀ t, Steps p.tables e below (T22.setTop (mkF m 216 #[.val (.ref a1), .val (.int p1), .val (.int p2), .val (.int p3), .val (.int p4)] [(.ref a1), (.int (Int32.ofNat dc)), (.ref ds)])) t → Steps p.tables e below (T0.setTop (mkF m 187 #[.val (.ref a1), .val (.int p1), .val (.int p2), .val (.int p3), .val (.int p4)] [])) t := fun t kT => pre23 t (by
    show Steps p.tables e below (T22.setTop (mkF m 215 #[.val (.ref a1), .val (.int p1), .val (.int p2), .val (.int p3), .val (.int p4)] [(.int (Int32.ofNat dc)), (.ref ds)])) _
    refine XS.aloadN X22.here hx rfl (hb hby d3_215) rfl rfl ?_
    exact kT)
  obtain ⟨T25, X25, e25, st25⟩ := getF X22 hx hZ hown (host := "") (Or.inl (hw _ (List.mem_of_getElem? (i := 25) rfl))) Via.refl e22 F_a1_positionCount_e16 (g := (mkF m 216 #[.val (.ref a1), .val (.int p1), .val (.int p2), .val (.int p3), .val (.int p4)] [(.ref a1), (.int (Int32.ofNat dc)), (.ref ds)])) rfl rfl (hb hby d3_216)
  have pre26 : ∀ t, Steps p.tables e below (T25.setTop (mkF m 219 #[.val (.ref a1), .val (.int p1), .val (.int p2), .val (.int p3), .val (.int p4)] [(.int (Int32.ofNat (pc + 1))), (.int (Int32.ofNat dc)), (.ref ds)])) t → Steps p.tables e below (T0.setTop (mkF m 187 #[.val (.ref a1), .val (.int p1), .val (.int p2), .val (.int p3), .val (.int p4)] [])) t := fun t kT => pre24 t (st25 t kT)
  obtain ⟨co27, ⟨Ao27, Ko27⟩, So27, Ho27⟩ := id VS_e16
  have io27 := (own_ld So27 Ho27 (j := (Int32.ofNat dc)) (i := dc) (own_n0 (show dc < 2 ^ 31 by omega)) (own_n32 (show dc < 2 ^ 31 by omega)) (by omega) rfl).1
  have pre28 : ∀ t, Steps p.tables e below (T25.setTop (mkF m 219 #[.val (.ref a1), .val (.int p1), .val (.int p2), .val (.int p3), .val (.int p4)] [(.int (Int32.ofNat (pc + 1))), (.int (Int32.ofNat dc)), (.ref ds)])) t → Steps p.tables e below (T0.setTop (mkF m 187 #[.val (.ref a1), .val (.int p1), .val (.int p2), .val (.int p3), .val (.int p4)] [])) t := fun t kT => pre26 t (by
    exact kT)
  obtain ⟨T29, h29, X29, e29, W29, st29⟩ := stI X25 hx hZ e25 Ao27 (j := (Int32.ofNat dc)) io27 (g := (mkF m 219 #[.val (.ref a1), .val (.int p1), .val (.int p2), .val (.int p3), .val (.int p4)] [(.int (Int32.ofNat (pc + 1))), (.int (Int32.ofNat dc)), (.ref ds)])) rfl rfl (hb hby d3_219)
  rw [(own_n32 (show dc < 2 ^ 31 by omega))] at W29
  have pre30 : ∀ t, Steps p.tables e below (T29.setTop (mkF m 220 #[.val (.ref a1), .val (.int p1), .val (.int p2), .val (.int p3), .val (.int p4)] [])) t → Steps p.tables e below (T0.setTop (mkF m 187 #[.val (.ref a1), .val (.int p1), .val (.int p2), .val (.int p3), .val (.int p4)] [])) t := fun t kT => pre28 t (st29 t kT)
  have F0_e29 : Fld Z h29 a1 "com/example/esteem/esteem/index/Postings$Builder" "docs" "[I" (.ref dd) := F0_e16.other W29 (Or.inl n5)
  have F1_e29 : Fld Z h29 a1 "com/example/esteem/esteem/index/Postings$Builder" "starts" "[I" (.ref ds) := F1_e16.other W29 (Or.inl n5)
  have F2_e29 : Fld Z h29 a1 "com/example/esteem/esteem/index/Postings$Builder" "positions" "[I" (.ref dp) := F2_e16.other W29 (Or.inl n5)
  have F3_e29 : Fld Z h29 a1 "com/example/esteem/esteem/index/Postings$Builder" "docCount" "I" (.int (Int32.ofNat dc)) := F3_e16.other W29 (Or.inl n5)
  have F_a1_positionCount_e29 : Fld Z h29 a1 "com/example/esteem/esteem/index/Postings$Builder" "positionCount" "I" (.int (Int32.ofNat (pc + 1))) := F_a1_positionCount_e16.other W29 (Or.inl n5)
  have E0_e29 : Exa Z h29 a1 "com/example/esteem/esteem/index/Postings$Builder" := E0_e16.wr W29
  have VD_e29 : own_Ar Z h29 dd .int dl (fun i => .int (gd i)) := VD_e16.other W29 n1
  have V_dp_e29 : own_Ar Z h29 dp .int pl (own_upd (fun i => .int (gp i)) pc (.int p2)) := V_dp_e16.other W29 (Ne.symm n3)
  have sz29 : n0 ≤ h29.size := Nat.le_trans sz16 (Keep.of_wr W29).1
  have KK29 : Keep h0 h29 [a1, dp, ds] := KK16.wr W29 (Or.inl (List.mem_of_getElem? (i := 2) rfl))
  have V_ds_e29 : own_Ar Z h29 ds .int sl (own_upd (fun i => .int (gs i)) dc (.int (Int32.ofNat (pc + 1)))) := VS_e16.set W29
  have N29 := Fr.snoc X29 N16 q2
  have pre31 : ∀ t, Steps p.tables e below (T29.setTop (mkF m 220 #[.val (.ref a1), .val (.int p1), .val (.int p2), .val (.int p3), .val (.int p4)] [])) t → Steps p.tables e below (T0.setTop (mkF m 187 #[.val (.ref a1), .val (.int p1), .val (.int p2), .val (.int p3), .val (.int p4)] [])) t := fun t kT => pre30 t (by
    exact kT)
  exact ⟨T29, _, X29, N29, by rw [e29]; exact KK29, by rw [e29]; exact ⟨⟨F0_e29, F1_e29, F2_e29, F3_e29, F_a1_positionCount_e29, E0_e29⟩, ⟨own_Pf.of VD_e29 hgd, own_Pf.put V_ds_e29 (fun i hi => hgs i (by omega)), own_Pf.put V_dp_e29 hgp⟩, ⟨n1, n2, n3, n4, n5, n6⟩, ⟨q0, q1, q2, q3⟩, ⟨by omega, by omega, by omega, by omega, by omega, by omega, by omega, by omega⟩⟩, pre31⟩
theorem own_priv {p : Program} {l : Launch} {e : Env} {R : Room} {s : State} {m : MethodId} {args : Array Value} {below : List Frame} {meth : Method} {c : Code} {T : State} {locs : List Loc} {cells slots : Nat}
    (X : Stand p l e R s m args below meth c T locs cells slots) (hexec : p.tables.exec = Jvm.exec) {own : String} {index : Nat} {y z : MethodName} {bytes : ByteArray} {maxL : Nat} {ret : Option FieldType}
    (hown : s.vm.findClass own = some m.cls) (hlink : (Cond.methodLink own index y).before args s = true) (hinst : (Cond.instanceMethod y).before args s = true) (hpriv : (Cond.privateMethod y).before args s = true) (hcode : (Cond.code y bytes maxL ret).before args s = true)
    (hsel : (Cond.selects y.cls z z).before args s = true) (hz : z.cls = y.cls) (hy : y.cls ≠ "java/lang/invoke/MethodHandle" ∧ y.cls ≠ "java/lang/invoke/VarHandle")
    {W : Nat} {Pre : Pt → Array Value → Prop} {Post : Pt → Array Value → Option Value → Pt → Prop} (hK : Back l R p e below s args y 3 W Pre Post)
    {g : JFrame} (hg : g.method = m) (hsize : g.locals.size = c.maxLocals) {a : Addr} {cell : Cell} (hcell : T.heap[a]? = some cell) (hobj : ∀ q, cell.vm ≠ .statics q) {argsL rest : List Value} (hlen : ∀ sig, parseMethodDescriptor y.desc = some sig → argsL.length = sig.parameters.length)
    (hstack : g.stack = argsL.reverse ++ .ref a :: rest) (hW : 2 * g.monitorRoom + (rest.map fun v => v.category).sum ≤ W) (hdg : decode c.code g.pc = .ok (.invokevirtual index, 3))
    (hpre : ∀ vm₁, s.WarmedH vm₁ → Pre ⟨T.setVm vm₁, locs, cells, slots⟩ (Value.ref a :: argsL).toArray) :
    ∃ (v : Option Value) (vm₁ : Vm) (B : Pt), s.WarmedH vm₁ ∧ Stand p l e R s m args below meth c B.U B.locs B.cells B.slots ∧ Post ⟨T.setVm vm₁, locs, cells, slots⟩ (Value.ref a :: argsL).toArray v B ∧
      ∀ target, Steps p.tables e below (B.U.setTop { g with pc := g.pc + 3, stack := v.toList ++ rest }) target → Steps p.tables e below (T.setTop g) target := by
  obtain ⟨k, mt, i1, i2, i3, i4⟩ := Cond.instanceMethod_spec hinst
  obtain ⟨mt', _, j1, -, -, -, -, -, -, j2⟩ := Cond.code_spec i1 hcode
  cases i2.symm.trans j1
  obtain ⟨_, _, k2, -, -, u1, -, kk, u2, u3⟩ := Cond.selects_spec hsel
  have u4 : k2.cls = k.cls := by
    have v1 := findClass_of_methodNamed u1
    rw [hz, findClass_of_methodNamed i1] at v1
    exact (Option.some.inj v1).symm
  rw [u4] at u2
  obtain ⟨vm₁, X₁, st⟩ := X.invokevirtual hexec hown hlink i1 i2 i3 u2 u3 hy (a := a) hcell hobj (selectMethod_private i2 (Cond.privateMethod_at hpriv k mt i1 i2)) i2 i4 u2 u3 hg (hlen _ j2) hstack hdg
  obtain ⟨v, B, X', hpost, hst⟩ := hK m meth c ⟨T.setVm vm₁, locs, cells, slots⟩ { g with stack := rest } (.invokevirtual index) k (Value.ref a :: argsL).toArray X₁ hg hsize hdg hW (X₁.named i1) (hpre vm₁ X₁.warmed)
  exact ⟨v, vm₁, B, X₁.warmed, X', hpost, fun target h => st _ fun acts => by rw [doInvoke_state]; exact hst.trans h⟩
theorem ef_rmLP (m : MethodId) (x0 : Addr) : entryFrame m #[(.ref x0)] 1 = mkF m 0 #[.val (.ref x0)] [] := by first | (simp [entryFrame, mkF, argsToLocals, Value.category]; done) | rfl
theorem pn_com_example_esteem_esteem_index_Postings_Builder : plainName "com/example/esteem/esteem/index/Postings$Builder" = true := by first | (simp [plainName, overriddenIn]; done) | decide +kernel
theorem d4_0 : decode prog_22_method_4_code 0 = .ok (.aload_n 0, 1) := by decide +kernel
theorem d4_1 : decode prog_22_method_4_code 1 = .ok (.getfield 16, 3) := by decide +kernel
theorem d4_4 : decode prog_22_method_4_code 4 = .ok (.aload_n 0, 1) := by decide +kernel
theorem d4_5 : decode prog_22_method_4_code 5 = .ok (.getfield 42, 3) := by decide +kernel
theorem d4_8 : decode prog_22_method_4_code 8 = .ok (.iconst 1, 1) := by decide +kernel
theorem d4_9 : decode prog_22_method_4_code 9 = .ok (.isub, 1) := by decide +kernel
theorem d4_10 : decode prog_22_method_4_code 10 = .ok (.iaload, 1) := by decide +kernel
theorem d4_11 : decode prog_22_method_4_code 11 = .ok (.ireturn, 1) := by decide +kernel
def Q_rmLP (Z : State) (a1 : Addr) (dd ds dp : Addr) (dl sl pl dc ks pc : Nat) (df sf pf : Nat → Int32) (h0 : Heap) (n0 : Nat) (v : Option Value) (h : Heap) (L : List Loc) : Prop := v = some (.int (pf (pc - 1))) ∧ Fr n0 L ∧ h = h0
set_option maxRecDepth 65536 in
set_option maxHeartbeats 40000000 in
theorem rmLP (l : Launch) (Z : State) (a0 : Array Value) (hw : ∀ d ∈ tables_1, d.before a0 Z = true) (ws : List Jvm.Cond) (a1 : Addr) (dd ds dp : Addr) (dl sl pl dc ks pc : Nat) (df sf pf : Nat → Int32) (h0 : Heap) (n0 : Nat) (Z0 : n0 ≤ h0.size) (h1 : 1 ≤ pc) (B : own_Bd Z h0 n0 a1 dd ds dp dl sl pl dc ks pc df sf pf) :
    MetFree l (⟨"com/example/esteem/esteem/index/Postings$Builder", "lastPosition", "()I"⟩ : MethodName) (head1 (Jvm.Cond.code (⟨"com/example/esteem/esteem/index/Postings$Builder", "lastPosition", "()I"⟩ : MethodName) prog_22_method_4_code 1 (some .int) :: ws) ({ frames := 0, cells := 0, slots := 0, locals := 0 } : Room)) (fun a U => a = #[(.ref a1)] ∧ Z.Warmed39 U.vm ∧ U.heap = h0) (fun _ _ _ _ _ => True) (fun _ U o U' => ∃ v L, o = .returned v ∧ Q_rmLP Z a1 dd ds dp dl sl pl dc ks pc df sf pf h0 n0 v U'.heap L ∧ FrameEnd U o U' L ({ frames := 0, cells := 0, slots := 0, locals := 0 } : Room).cells ({ frames := 0, cells := 0, slots := 0, locals := 0 } : Room).slots) := by
  refine MetFree.of_bodySF (plainFor_of_name pn_com_example_esteem_esteem_index_Postings_Builder) hisR ?_
  intro p e s m args below meth c s₁ Bd hml0 hP hK
  obtain ⟨rfl, hZ, hh⟩ := hP
  have hx := Bd.exec
  have hby := Bd.bytes
  have hml : c.maxLocals = 1 := hml0
  have hown : s.vm.findClass "com/example/esteem/esteem/index/Postings$Builder" = some m.cls := findClass_of_methodNamed Bd.named
  have hnm := (name_of_methodNamed Bd.named Bd.method).1
  have X0 : Stand p l e ({ frames := 0, cells := 0, slots := 0, locals := 0 } : Room) s m #[(.ref a1)] below meth c s₁ [] 0 0 := Stand.of_body Bd
  have e0 : s₁.heap = h0 := by rw [← hh, Bd.state]; rfl
  have N0 := Fr.nil n0
  have pre0 : ∀ t, Steps p.tables e below (s₁.setTop (mkF m 0 #[.val (.ref a1)] [])) t → Steps p.tables e below (s₁.setTop (entryFrame m #[(.ref a1)] 1)) t := fun t kT => castTop (ef_rmLP m a1) kT
  obtain ⟨⟨F0, F1, F2, F3, F4, E0⟩, ⟨⟨gd, VD, hgd⟩, ⟨gs, VS, hgs⟩, ⟨gp, VP, hgp⟩⟩, ⟨n1, n2, n3, n4, n5, n6⟩, ⟨q0, q1, q2, q3⟩, ⟨b0, b1, b2, b3, b4, b5, b6, b7⟩⟩ := id B
  have pre1 : ∀ t, Steps p.tables e below (s₁.setTop (mkF m 1 #[.val (.ref a1)] [(.ref a1)])) t → Steps p.tables e below (s₁.setTop (entryFrame m #[(.ref a1)] 1)) t := fun t kT => pre0 t (by
    show Steps p.tables e below (s₁.setTop (mkF m 0 #[.val (.ref a1)] [])) _
    refine XS.aloadN X0.here hx rfl (hb hby d4_0) rfl rfl ?_
    exact kT)
  obtain ⟨T2, X2, e2, st2⟩ := getF X0 hx hZ hown (host := "") (Or.inl (hw _ (List.mem_of_getElem? (i := 16) rfl))) Via.refl e0 F2 (g := (mkF m 1 #[.val (.ref a1)] [(.ref a1)])) rfl rfl (hb hby d4_1)
  have pre3 : ∀ t, Steps p.tables e below (T2.setTop (mkF m 4 #[.val (.ref a1)] [(.ref dp)])) t → Steps p.tables e below (s₁.setTop (entryFrame m #[(.ref a1)] 1)) t := fun t kT => pre1 t (st2 t kT)
  have pre4 : ∀ t, Steps p.tables e below (T2.setTop (mkF m 5 #[.val (.ref a1)] [(.ref a1), (.ref dp)])) t → Steps p.tables e below (s₁.setTop (entryFrame m #[(.ref a1)] 1)) t := fun t kT => pre3 t (by
    show Steps p.tables e below (T2.setTop (mkF m 4 #[.val (.ref a1)] [(.ref dp)])) _
    refine XS.aloadN X2.here hx rfl (hb hby d4_4) rfl rfl ?_
    exact kT)
  obtain ⟨T5, X5, e5, st5⟩ := getF X2 hx hZ hown (host := "") (Or.inl (hw _ (List.mem_of_getElem? (i := 25) rfl))) Via.refl e2 F4 (g := (mkF m 5 #[.val (.ref a1)] [(.ref a1), (.ref dp)])) rfl rfl (hb hby d4_5)
  have pre6 : ∀ t, Steps p.tables e below (T5.setTop (mkF m 8 #[.val (.ref a1)] [(.int (Int32.ofNat pc)), (.ref dp)])) t → Steps p.tables e below (s₁.setTop (entryFrame m #[(.ref a1)] 1)) t := fun t kT => pre4 t (st5 t kT)
  have pre7 : ∀ t, Steps p.tables e below (T5.setTop (mkF m 10 #[.val (.ref a1)] [(.int ((Int32.ofNat pc) - (1 : Int32))), (.ref dp)])) t → Steps p.tables e below (s₁.setTop (entryFrame m #[(.ref a1)] 1)) t := fun t kT => pre6 t (by
    show Steps p.tables e below (T5.setTop (mkF m 8 #[.val (.ref a1)] [(.int (Int32.ofNat pc)), (.ref dp)])) _
    refine XS.iconst X5.here hx rfl (hb hby d4_8) ?_
    show Steps p.tables e below (T5.setTop (mkF m 9 #[.val (.ref a1)] [(.int (1 : Int32)), (.int (Int32.ofNat pc)), (.ref dp)])) _
    refine XS.isub X5.here hx rfl (hb hby d4_9) rfl ?_
    exact kT)
  rw [own_sub1 h1 (by omega)] at pre7
  obtain ⟨co8, ⟨Ao8, Ko8⟩, So8, Ho8⟩ := id VP
  have lo8 := own_ld So8 Ho8 (j := (Int32.ofNat (pc - 1))) (i := (pc - 1)) (own_n0 (show pc - 1 < 2 ^ 31 by omega)) (own_n32 (show pc - 1 < 2 ^ 31 by omega)) (by omega) (v := (.int (pf (pc - 1)))) (congrArg Value.int (hgp (pc - 1) (by omega)))
  have pre9 : ∀ t, Steps p.tables e below (T5.setTop (mkF m 11 #[.val (.ref a1)] [(.int (pf (pc - 1)))])) t → Steps p.tables e below (s₁.setTop (entryFrame m #[(.ref a1)] 1)) t := fun t kT => pre7 t (by
    show Steps p.tables e below (T5.setTop (mkF m 10 #[.val (.ref a1)] [(.int (Int32.ofNat (pc - 1))), (.ref dp)])) _
    refine X5.iaload hx (j := (Int32.ofNat (pc - 1))) (v := (.int (pf (pc - 1)))) (by rw [e5]; exact Ao8.1) (State.isArrayOf_alike hZ.alike Ao8.2.1) Ao8.2.2 lo8.1 lo8.2 (g := (mkF m 10 #[.val (.ref a1)] [(.int (Int32.ofNat (pc - 1))), (.ref dp)])) rfl rfl (hb hby d4_10) _ ?_
    exact kT)
  obtain ⟨fs, hr, hrun, hended, hW, hsame⟩ := X5.leave (v := some (.int (pf (pc - 1)))) (fun h => by rw [Bd.returns] at h; cases h)
  refine ⟨_, _, pre9 _ ?_, hrun, hended, _, _, rfl, ?_, ⟨_, rfl⟩, hW, hsame.mono (by decide) (by decide)⟩
  · exact retI X5 hx Bd.returns (hb hby d4_11) hr
  · exact ⟨rfl, N0, e5⟩
theorem ef_rmA (m : MethodId) (x0 : Addr) (x1 : Int32) (x2 : Int32) : entryFrame m #[(.ref x0), (.int x1), (.int x2)] 5 = mkF m 0 #[.val (.ref x0), .val (.int x1), .val (.int x2), .unset, .unset] [] := by first | (simp [entryFrame, mkF, argsToLocals, Value.category]; done) | rfl
theorem d3_0 : decode prog_22_method_2_code 0 = .ok (.aload_n 0, 1) := by decide +kernel
theorem d3_1 : decode prog_22_method_2_code 1 = .ok (.getfield 19, 3) := by decide +kernel
theorem d3_4 : decode prog_22_method_2_code 4 = .ok (.ifCond .ne 7, 3) := by decide +kernel
theorem d3_7 : decode prog_22_method_2_code 7 = .ok (.iconst (-1), 1) := by decide +kernel
theorem d3_8 : decode prog_22_method_2_code 8 = .ok (.goto 14, 3) := by decide +kernel
theorem d3_11 : decode prog_22_method_2_code 11 = .ok (.aload_n 0, 1) := by decide +kernel
theorem d3_12 : decode prog_22_method_2_code 12 = .ok (.getfield 7, 3) := by decide +kernel
theorem d3_15 : decode prog_22_method_2_code 15 = .ok (.aload_n 0, 1) := by decide +kernel
theorem d3_16 : decode prog_22_method_2_code 16 = .ok (.getfield 19, 3) := by decide +kernel
theorem d3_19 : decode prog_22_method_2_code 19 = .ok (.iconst 1, 1) := by decide +kernel
theorem d3_20 : decode prog_22_method_2_code 20 = .ok (.isub, 1) := by decide +kernel
theorem d3_21 : decode prog_22_method_2_code 21 = .ok (.iaload, 1) := by decide +kernel
theorem d3_22 : decode prog_22_method_2_code 22 = .ok (.istore_n 3, 1) := by decide +kernel
theorem d3_23 : decode prog_22_method_2_code 23 = .ok (.iload_n 1, 1) := by decide +kernel
theorem d3_24 : decode prog_22_method_2_code 24 = .ok (.iload_n 3, 1) := by decide +kernel
theorem d3_25 : decode prog_22_method_2_code 25 = .ok (.if_icmp .ne 7, 3) := by decide +kernel
theorem d3_28 : decode prog_22_method_2_code 28 = .ok (.iconst 1, 1) := by decide +kernel
theorem d3_29 : decode prog_22_method_2_code 29 = .ok (.goto 4, 3) := by decide +kernel
theorem d3_32 : decode prog_22_method_2_code 32 = .ok (.iconst 0, 1) := by decide +kernel
theorem d3_33 : decode prog_22_method_2_code 33 = .ok (.istore 4, 2) := by decide +kernel
theorem d3_35 : decode prog_22_method_2_code 35 = .ok (.iload_n 1, 1) := by decide +kernel
theorem d3_36 : decode prog_22_method_2_code 36 = .ok (.iload_n 3, 1) := by decide +kernel
theorem d3_37 : decode prog_22_method_2_code 37 = .ok (.if_icmp .lt 20, 3) := by decide +kernel
theorem d3_40 : decode prog_22_method_2_code 40 = .ok (.iload_n 2, 1) := by decide +kernel
theorem d3_41 : decode prog_22_method_2_code 41 = .ok (.ifCond .lt 16, 3) := by decide +kernel
theorem d3_44 : decode prog_22_method_2_code 44 = .ok (.iload 4, 2) := by decide +kernel
theorem d3_46 : decode prog_22_method_2_code 46 = .ok (.ifCond .eq 26, 3) := by decide +kernel
theorem d3_49 : decode prog_22_method_2_code 49 = .ok (.iload_n 2, 1) := by decide +kernel
theorem d3_50 : decode prog_22_method_2_code 50 = .ok (.aload_n 0, 1) := by decide +kernel
theorem d3_51 : decode prog_22_method_2_code 51 = .ok (.invokevirtual 23, 3) := by decide +kernel
theorem pd___I : parseMethodDescriptor "()I" = some ⟨[], some .int⟩ := by decide +kernel
theorem d3_54 : decode prog_22_method_2_code 54 = .ok (.if_icmp .gt 18, 3) := by decide +kernel
theorem d3_72 : decode prog_22_method_2_code 72 = .ok (.iload 4, 2) := by decide +kernel
theorem d3_74 : decode prog_22_method_2_code 74 = .ok (.ifCond .ne 84, 3) := by decide +kernel
theorem d3_220 : decode prog_22_method_2_code 220 = .ok (.return_, 1) := by decide +kernel

def own_ndc (dc : Nat) (df : Nat → Int32) (x : Int32) : Nat := if x = own_last dc df then dc else dc + 1
def own_ndf (dc : Nat) (df : Nat → Int32) (x : Int32) : Nat → Int32 := if x = own_last dc df then df else own_updI df dc x
def own_nsf (dc pc : Nat) (df sf : Nat → Int32) (x : Int32) : Nat → Int32 := if x = own_last dc df then own_updI sf dc (Int32.ofNat (pc + 1)) else own_updI (own_updI sf dc (Int32.ofNat pc)) (dc + 1) (Int32.ofNat (pc + 1))
theorem own_wide {h h' : Heap} {ws ws' : List Addr} (K : Keep h h' ws) (q : ∀ x ∈ ws, x ∈ ws') : Keep h h' ws' := Keep.trans (Keep.refl h ws') K (fun x hx => Or.inl (q x hx))
def Q_rmA (Z : State) (a1 : Addr) (p1 : Int32) (p2 : Int32) (dd ds dp : Addr) (dl sl pl dc pc : Nat) (df sf pf : Nat → Int32) (h0 : Heap) (n0 : Nat) (v : Option Value) (h : Heap) (L : List Loc) : Prop := v = none ∧ Fr n0 L ∧ Keep h0 h [a1, dd, ds, dp] ∧ ∃ dd' ds' dp' dl' sl' pl', own_Bd Z h n0 a1 dd' ds' dp' dl' sl' pl' (own_ndc dc df p1) (own_ndc dc df p1 + 1) (pc + 1) (own_ndf dc df p1) (own_nsf dc pc df sf p1) (own_updI pf pc p2)
set_option maxRecDepth 65536 in
set_option maxHeartbeats 40000000 in
theorem rmA (l : Launch) (Z : State) (a0 : Array Value) (hw : ∀ d ∈ tables_1, d.before a0 Z = true) (ws : List Jvm.Cond) (a1 : Addr) (p1 : Int32) (p2 : Int32) (dd ds dp : Addr) (dl sl pl dc pc : Nat) (df sf pf : Nat → Int32) (h0 : Heap) (n0 : Nat) (Z0 : n0 ≤ h0.size) (B : own_Bd Z h0 n0 a1 dd ds dp dl sl pl dc (dc + 1) pc df sf pf) (hdc : dc ≤ 2) (hpc : pc ≤ 2) (hp1 : dc = 0 ∨ 1 ≤ pc) (hv1 : ¬ p1 < own_last dc df) (hv2 : ¬ p2 < 0) (hv3 : p1 = own_last dc df → dc ≠ 0 ∧ pf (pc - 1) < p2) :
    MetFree l (⟨"com/example/esteem/esteem/index/Postings$Builder", "add", "(II)V"⟩ : MethodName) (head1 (Jvm.Cond.code (⟨"com/example/esteem/esteem/index/Postings$Builder", "add", "(II)V"⟩ : MethodName) prog_22_method_2_code 5 none :: ws) ({ frames := 2, cells := 3, slots := 13, locals := 70 } : Room)) (fun a U => a = #[(.ref a1), (.int p1), (.int p2)] ∧ Z.Warmed39 U.vm ∧ U.heap = h0) (fun _ _ _ _ _ => True) (fun _ U o U' => ∃ v L, o = .returned v ∧ Q_rmA Z a1 p1 p2 dd ds dp dl sl pl dc pc df sf pf h0 n0 v U'.heap L ∧ FrameEnd U o U' L ({ frames := 2, cells := 3, slots := 13, locals := 70 } : Room).cells ({ frames := 2, cells := 3, slots := 13, locals := 70 } : Room).slots) := by
  refine MetFree.of_bodySF (plainFor_of_name pn_com_example_esteem_esteem_index_Postings_Builder) hisR ?_
  intro p e s m args below meth c s₁ Bd hml0 hP hK
  obtain ⟨rfl, hZ, hh⟩ := hP
  have hx := Bd.exec
  have hby := Bd.bytes
  have hml : c.maxLocals = 5 := hml0
  have hown : s.vm.findClass "com/example/esteem/esteem/index/Postings$Builder" = some m.cls := findClass_of_methodNamed Bd.named
  have hnm := (name_of_methodNamed Bd.named Bd.method).1
  have X0 : Stand p l e ({ frames := 2, cells := 3, slots := 13, locals := 70 } : Room) s m #[(.ref a1), (.int p1), (.int p2)] below meth c s₁ [] 0 0 := Stand.of_body Bd
  have e0 : s₁.heap = h0 := by rw [← hh, Bd.state]; rfl
  have N0 := Fr.nil n0
  have pre0 : ∀ t, Steps p.tables e below (s₁.setTop (mkF m 0 #[.val (.ref a1), .val (.int p1), .val (.int p2), .unset, .unset] [])) t → Steps p.tables e below (s₁.setTop (entryFrame m #[(.ref a1), (.int p1), (.int p2)] 5)) t := fun t kT => castTop (ef_rmA m a1 p1 p2) kT
  obtain ⟨ks, hks⟩ : ∃ ks, ks = dc + 1 := ⟨_, rfl⟩
  rw [← hks] at B
  obtain ⟨⟨F0, F1, F2, F3, F4, E0⟩, ⟨⟨gd, VD, hgd⟩, ⟨gs, VS, hgs⟩, ⟨gp, VP, hgp⟩⟩, ⟨n1, n2, n3, n4, n5, n6⟩, ⟨q0, q1, q2, q3⟩, ⟨b0, b1, b2, b3, b4, b5, b6, b7⟩⟩ := id B
  have pre1 : ∀ t, Steps p.tables e below (s₁.setTop (mkF m 1 #[.val (.ref a1), .val (.int p1), .val (.int p2), .unset, .unset] [(.ref a1)])) t → Steps p.tables e below (s₁.setTop (entryFrame m #[(.ref a1), (.int p1), (.int p2)] 5)) t := fun t kT => pre0 t (by
    show Steps p.tables e below (s₁.setTop (mkF m 0 #[.val (.ref a1), .val (.int p1), .val (.int p2), .unset, .unset] [])) _
    refine XS.aloadN X0.here hx rfl (hb hby d3_0) rfl rfl ?_
    exact kT)
  obtain ⟨T2, X2, e2, st2⟩ := getF X0 hx hZ hown (host := "") (Or.inl (hw _ (List.mem_of_getElem? (i := 23) rfl))) Via.refl e0 F3 (g := (mkF m 1 #[.val (.ref a1), .val (.int p1), .val (.int p2), .unset, .unset] [(.ref a1)])) rfl rfl (hb hby d3_1)
  have pre3 : ∀ t, Steps p.tables e below (T2.setTop (mkF m 4 #[.val (.ref a1), .val (.int p1), .val (.int p2), .unset, .unset] [(.int (Int32.ofNat dc))])) t → Steps p.tables e below (s₁.setTop (entryFrame m #[(.ref a1), (.int p1), (.int p2)] 5)) t := fun t kT => pre1 t (st2 t kT)
  have pre4 : ∀ t, Steps p.tables e below (T2.setTop (mkF m 4 #[.val (.ref a1), .val (.int p1), .val (.int p2), .unset, .unset] [(.int (Int32.ofNat dc))])) t → Steps p.tables e below (s₁.setTop (entryFrame m #[(.ref a1), (.int p1), (.int p2)] 5)) t := fun t kT => pre3 t (by
    exact kT)
  obtain ⟨T9, X9, e9, pre9⟩ : ∃ T' : State, Stand p l e ({ frames := 2, cells := 3, slots := 13, locals := 70 } : Room) s m #[(.ref a1), (.int p1), (.int p2)] below meth c T' [] 0 0 ∧ T'.heap = h0 ∧ ∀ t, Steps p.tables e below (T'.setTop (mkF m 22 #[.val (.ref a1), .val (.int p1), .val (.int p2), .unset, .unset] [(.int (own_last dc df))])) t → Steps p.tables e below (s₁.setTop (entryFrame m #[(.ref a1), (.int p1), (.int p2)] 5)) t := by
    have pre5 : ∀ t, Steps p.tables e below (T2.setTop (mkF m 4 #[.val (.ref a1), .val (.int p1), .val (.int p2), .unset, .unset] [(.int (Int32.ofNat dc))])) t → Steps p.tables e below (s₁.setTop (entryFrame m #[(.ref a1), (.int p1), (.int p2)] 5)) t := fun t kT => pre4 t (by
      exact kT)
    by_cases hz : (Int32.ofNat dc) = (0 : Int32)
    · have hz0 := (own_ij (j := 0) (by omega) (by omega)).mp hz
      have pre6 : ∀ t, Steps p.tables e below (T2.setTop (mkF m 22 #[.val (.ref a1), .val (.int p1), .val (.int p2), .unset, .unset] [(.int (-1 : Int32))])) t → Steps p.tables e below (s₁.setTop (entryFrame m #[(.ref a1), (.int p1), (.int p2)] 5)) t := fun t kT => pre5 t (by
        show Steps p.tables e below (T2.setTop (mkF m 4 #[.val (.ref a1), .val (.int p1), .val (.int p2), .unset, .unset] [(.int (Int32.ofNat dc))])) _
        refine XS.ifNo X2.here hx rfl (hb hby d3_4) rfl ((if0 _ _).trans (teq hz).2) ?_
        show Steps p.tables e below (T2.setTop (mkF m 7 #[.val (.ref a1), .val (.int p1), .val (.int p2), .unset, .unset] [])) _
        refine XS.iconst X2.here hx rfl (hb hby d3_7) ?_
        show Steps p.tables e below (T2.setTop (mkF m 8 #[.val (.ref a1), .val (.int p1), .val (.int p2), .unset, .unset] [(.int (-1 : Int32))])) _
        refine XS.goto X2.here hx rfl (pc0 := 8) (pc' := 22) rfl (hb hby d3_8) (by decide) (by decide) ?_
        exact kT)
      exact ⟨T2, X2, e2, fun t kT => pre6 t (castTop (by rw [show own_last dc df = (-1 : Int32) from if_pos hz0]) kT)⟩
    · have hz0 := mt (own_ij (i := dc) (j := 0) (by omega) (by omega)).mpr hz
      have h1 : 1 ≤ dc := by omega
      have pre7 : ∀ t, Steps p.tables e below (T2.setTop (mkF m 12 #[.val (.ref a1), .val (.int p1), .val (.int p2), .unset, .unset] [(.ref a1)])) t → Steps p.tables e below (s₁.setTop (entryFrame m #[(.ref a1), (.int p1), (.int p2)] 5)) t := fun t kT => pre5 t (by
        show Steps p.tables e below (T2.setTop (mkF m 4 #[.val (.ref a1), .val (.int p1), .val (.int p2), .unset, .unset] [(.int (Int32.ofNat dc))])) _
        refine XS.ifYes X2.here hx rfl (pc0 := 4) (pc' := 11) rfl (hb hby d3_4) rfl ((if0 _ _).trans (feq hz).2) (by decide) (by decide) ?_
        show Steps p.tables e below (T2.setTop (mkF m 11 #[.val (.ref a1), .val (.int p1), .val (.int p2), .unset, .unset] [])) _
        refine XS.aloadN X2.here hx rfl (hb hby d3_11) rfl rfl ?_
        exact kT)
      obtain ⟨T8, X8, e8, st8⟩ := getF X2 hx hZ hown (host := "") (Or.inl (hw _ (List.mem_of_getElem? (i := 12) rfl))) Via.refl e2 F0 (g := (mkF m 12 #[.val (.ref a1), .val (.int p1), .val (.int p2), .unset, .unset] [(.ref a1)])) rfl rfl (hb hby d3_12)
      have pre9 : ∀ t, Steps p.tables e below (T8.setTop (mkF m 15 #[.val (.ref a1), .val (.int p1), .val (.int p2), .unset, .unset] [(.ref dd)])) t → Steps p.tables e below (s₁.setTop (entryFrame m #[(.ref a1), (.int p1), (.int p2)] 5)) t := fun t kT => pre7 t (st8 t kT)
      have pre10 : ∀ t, Steps p.tables e below (T8.setTop (mkF m 16 #[.val (.ref a1), .val (.int p1), .val (.int p2), .unset, .unset] [(.ref a1), (.ref dd)])) t → Steps p.tables e below (s₁.setTop (entryFrame m #[(.ref a1), (.int p1), (.int p2)] 5)) t := fun t kT => pre9 t (by
        show Steps p.tables e below (T8.setTop (mkF m 15 #[.val (.ref a1), .val (.int p1), .val (.int p2), .unset, .unset] [(.ref dd)])) _
        refine XS.aloadN X8.here hx rfl (hb hby d3_15) rfl rfl ?_
        exact kT)
      obtain ⟨T11, X11, e11, st11⟩ := getF X8 hx hZ hown (host := "") (Or.inl (hw _ (List.mem_of_getElem? (i := 23) rfl))) Via.refl e8 F3 (g := (mkF m 16 #[.val (.ref a1), .val (.int p1), .val (.int p2), .unset, .unset] [(.ref a1), (.ref dd)])) rfl rfl (hb hby d3_16)
      have pre12 : ∀ t, Steps p.tables e below (T11.setTop (mkF m 19 #[.val (.ref a1), .val (.int p1), .val (.int p2), .unset, .unset] [(.int (Int32.ofNat dc)), (.ref dd)])) t → Steps p.tables e below (s₁.setTop (entryFrame m #[(.ref a1), (.int p1), (.int p2)] 5)) t := fun t kT => pre10 t (st11 t kT)
      have pre13 : ∀ t, Steps p.tables e below (T11.setTop (mkF m 21 #[.val (.ref a1), .val (.int p1), .val (.int p2), .unset, .unset] [(.int ((Int32.ofNat dc) - (1 : Int32))), (.ref dd)])) t → Steps p.tables e below (s₁.setTop (entryFrame m #[(.ref a1), (.int p1), (.int p2)] 5)) t := fun t kT => pre12 t (by
        show Steps p.tables e below (T11.setTop (mkF m 19 #[.val (.ref a1), .val (.int p1), .val (.int p2), .unset, .unset] [(.int (Int32.ofNat dc)), (.ref dd)])) _
        refine XS.iconst X11.here hx rfl (hb hby d3_19) ?_
        show Steps p.tables e below (T11.setTop (mkF m 20 #[.val (.ref a1), .val (.int p1), .val (.int p2), .unset, .unset] [(.int (1 : Int32)), (.int (Int32.ofNat dc)), (.ref dd)])) _
        refine XS.isub X11.here hx rfl (hb hby d3_20) rfl ?_
        exact kT)
      rw [own_sub1 h1 (by omega)] at pre13
      obtain ⟨co14, ⟨Ao14, Ko14⟩, So14, Ho14⟩ := id VD
      have lo14 := own_ld So14 Ho14 (j := (Int32.ofNat (dc - 1))) (i := (dc - 1)) (own_n0 (show dc - 1 < 2 ^ 31 by omega)) (own_n32 (show dc - 1 < 2 ^ 31 by omega)) (by omega) (v := (.int (df (dc - 1)))) (congrArg Value.int (hgd (dc - 1) (by omega)))
      have pre15 : ∀ t, Steps p.tables e below (T11.setTop (mkF m 22 #[.val (.ref a1), .val (.int p1), .val (.int p2), .unset, .unset] [(.int (df (dc - 1)))])) t → Steps p.tables e below (s₁.setTop (entryFrame m #[(.ref a1), (.int p1), (.int p2)] 5)) t := fun t kT => pre13 t (by
        show Steps p.tables e below (T11.setTop (mkF m 21 #[.val (.ref a1), .val (.int p1), .val (.int p2), .unset, .unset] [(.int (Int32.ofNat (dc - 1))), (.ref dd)])) _
        refine X11.iaload hx (j := (Int32.ofNat (dc - 1))) (v := (.int (df (dc - 1)))) (by rw [e11]; exact Ao14.1) (State.isArrayOf_alike hZ.alike Ao14.2.1) Ao14.2.2 lo14.1 lo14.2 (g := (mkF m 21 #[.val (.ref a1), .val (.int p1), .val (.int p2), .unset, .unset] [(.int (Int32.ofNat (dc - 1))), (.ref dd)])) rfl rfl (hb hby d3_21) _ ?_
        exact kT)
      exact ⟨T11, X11, e11, fun t kT => pre15 t (castTop (by rw [show own_last dc df = df (dc - 1) from if_neg hz0]) kT)⟩
  have pre16 : ∀ t, Steps p.tables e below (T9.setTop (mkF m 23 #[.val (.ref a1), .val (.int p1), .val (.int p2), .val (.int (own_last dc df)), .unset] [])) t → Steps p.tables e below (s₁.setTop (entryFrame m #[(.ref a1), (.int p1), (.int p2)] 5)) t := fun t kT => pre9 t (by
    show Steps p.tables e below (T9.setTop (mkF m 22 #[.val (.ref a1), .val (.int p1), .val (.int p2), .unset, .unset] [(.int (own_last dc df))])) _
    refine XS.istoreN X9.here hx rfl (hb hby d3_22) rfl (l' := #[.val (.ref a1), .val (.int p1), .val (.int p2), .val (.int (own_last dc df)), .unset]) rfl ?_
    exact kT)
  obtain ⟨lst, hlst⟩ : ∃ z, z = (own_last dc df) := ⟨_, rfl⟩
  rw [← hlst] at pre16
  rw [← hlst] at hv1 hv3
  have pre17 : ∀ t, Steps p.tables e below (T9.setTop (mkF m 33 #[.val (.ref a1), .val (.int p1), .val (.int p2), .val (.int lst), .unset] [(.int (own_same p1 lst))])) t → Steps p.tables e below (s₁.setTop (entryFrame m #[(.ref a1), (.int p1), (.int p2)] 5)) t := fun t kT => pre16 t (by
    show Steps p.tables e below (T9.setTop (mkF m 23 #[.val (.ref a1), .val (.int p1), .val (.int p2), .val (.int lst), .unset] [])) _
    refine XS.iloadN X9.here hx rfl (hb hby d3_23) rfl ?_
    show Steps p.tables e below (T9.setTop (mkF m 24 #[.val (.ref a1), .val (.int p1), .val (.int p2), .val (.int lst), .unset] [(.int p1)])) _
    refine XS.iloadN X9.here hx rfl (hb hby d3_24) rfl ?_
    by_cases hc25 : p1 = lst
    · show Steps p.tables e below (T9.setTop (mkF m 25 #[.val (.ref a1), .val (.int p1), .val (.int p2), .val (.int lst), .unset] [(.int lst), (.int p1)])) _
      refine XS.icmpNo X9.here hx rfl (hb hby d3_25) rfl (teq hc25).2 ?_
      show Steps p.tables e below (T9.setTop (mkF m 28 #[.val (.ref a1), .val (.int p1), .val (.int p2), .val (.int lst), .unset] [])) _
      refine XS.iconst X9.here hx rfl (hb hby d3_28) ?_
      show Steps p.tables e below (T9.setTop (mkF m 29 #[.val (.ref a1), .val (.int p1), .val (.int p2), .val (.int lst), .unset] [(.int (1 : Int32))])) _
      refine XS.goto X9.here hx rfl (pc0 := 29) (pc' := 33) rfl (hb hby d3_29) (by decide) (by decide) ?_
      show Steps p.tables e below (T9.setTop (mkF m 33 #[.val (.ref a1), .val (.int p1), .val (.int p2), .val (.int lst), .unset] [(.int (1 : Int32))])) _
      exact castTop (by rw [show (own_same p1 lst) = (1 : Int32) from by exact (if_pos hc25).trans (rfl)]) kT
    · show Steps p.tables e below (T9.setTop (mkF m 25 #[.val (.ref a1), .val (.int p1), .val (.int p2), .val (.int lst), .unset] [(.int lst), (.int p1)])) _
      refine XS.icmpYes X9.here hx rfl (pc0 := 25) (pc' := 32) rfl (hb hby d3_25) rfl (feq hc25).2 (by decide) (by decide) ?_
      show Steps p.tables e below (T9.setTop (mkF m 32 #[.val (.ref a1), .val (.int p1), .val (.int p2), .val (.int lst), .unset] [])) _
      refine XS.iconst X9.here hx rfl (hb hby d3_32) ?_
      show Steps p.tables e below (T9.setTop (mkF m 33 #[.val (.ref a1), .val (.int p1), .val (.int p2), .val (.int lst), .unset] [(.int (0 : Int32))])) _
      exact castTop (by rw [show (own_same p1 lst) = (0 : Int32) from by exact (if_neg hc25).trans (rfl)]) kT)
  have pre18 : ∀ t, Steps p.tables e below (T9.setTop (mkF m 46 #[.val (.ref a1), .val (.int p1), .val (.int p2), .val (.int lst), .val (.int (own_same p1 lst))] [(.int (own_same p1 lst))])) t → Steps p.tables e below (s₁.setTop (entryFrame m #[(.ref a1), (.int p1), (.int p2)] 5)) t := fun t kT => pre17 t (by
    show Steps p.tables e below (T9.setTop (mkF m 33 #[.val (.ref a1), .val (.int p1), .val (.int p2), .val (.int lst), .unset] [(.int (own_same p1 lst))])) _
    refine XS.istore X9.here hx rfl (hb hby d3_33) rfl (l' := #[.val (.ref a1), .val (.int p1), .val (.int p2), .val (.int lst), .val (.int (own_same p1 lst))]) rfl ?_
    show Steps p.tables e below (T9.setTop (mkF m 35 #[.val (.ref a1), .val (.int p1), .val (.int p2), .val (.int lst), .val (.int (own_same p1 lst))] [])) _
    refine XS.iloadN X9.here hx rfl (hb hby d3_35) rfl ?_
    show Steps p.tables e below (T9.setTop (mkF m 36 #[.val (.ref a1), .val (.int p1), .val (.int p2), .val (.int lst), .val (.int (own_same p1 lst))] [(.int p1)])) _
    refine XS.iloadN X9.here hx rfl (hb hby d3_36) rfl ?_
    show Steps p.tables e below (T9.setTop (mkF m 37 #[.val (.ref a1), .val (.int p1), .val (.int p2), .val (.int lst), .val (.int (own_same p1 lst))] [(.int lst), (.int p1)])) _
    refine XS.icmpNo X9.here hx rfl (hb hby d3_37) rfl (flt hv1).1 ?_
    show Steps p.tables e below (T9.setTop (mkF m 40 #[.val (.ref a1), .val (.int p1), .val (.int p2), .val (.int lst), .val (.int (own_same p1 lst))] [])) _
    refine XS.iloadN X9.here hx rfl (hb hby d3_40) rfl ?_
    show Steps p.tables e below (T9.setTop (mkF m 41 #[.val (.ref a1), .val (.int p1), .val (.int p2), .val (.int lst), .val (.int (own_same p1 lst))] [(.int p2)])) _
    refine XS.ifNo X9.here hx rfl (hb hby d3_41) rfl ((if0 _ _).trans (flt hv2).1) ?_
    show Steps p.tables e below (T9.setTop (mkF m 44 #[.val (.ref a1), .val (.int p1), .val (.int p2), .val (.int lst), .val (.int (own_same p1 lst))] [])) _
    refine XS.iload X9.here hx rfl (hb hby d3_44) rfl ?_
    exact kT)
  by_cases hsm : (own_same p1 lst) = (0 : Int32)
  · have hsm' : ¬ p1 = lst := fun q => by rw [show own_same p1 lst = 1 from if_pos q] at hsm; exact absurd hsm (by decide)
    have pre31 : ∀ t, Steps p.tables e below (T9.setTop (mkF m 77 #[.val (.ref a1), .val (.int p1), .val (.int p2), .val (.int lst), .val (.int (own_same p1 lst))] [])) t → Steps p.tables e below (s₁.setTop (entryFrame m #[(.ref a1), (.int p1), (.int p2)] 5)) t := fun t kT => pre18 t (by
      show Steps p.tables e below (T9.setTop (mkF m 46 #[.val (.ref a1), .val (.int p1), .val (.int p2), .val (.int lst), .val (.int (own_same p1 lst))] [(.int (own_same p1 lst))])) _
      refine XS.ifYes X9.here hx rfl (pc0 := 46) (pc' := 72) rfl (hb hby d3_46) rfl ((if0 _ _).trans (teq hsm).1) (by decide) (by decide) ?_
      show Steps p.tables e below (T9.setTop (mkF m 72 #[.val (.ref a1), .val (.int p1), .val (.int p2), .val (.int lst), .val (.int (own_same p1 lst))] [])) _
      refine XS.iload X9.here hx rfl (hb hby d3_72) rfl ?_
      show Steps p.tables e below (T9.setTop (mkF m 74 #[.val (.ref a1), .val (.int p1), .val (.int p2), .val (.int lst), .val (.int (own_same p1 lst))] [(.int (own_same p1 lst))])) _
      refine XS.ifNo X9.here hx rfl (hb hby d3_74) rfl ((if0 _ _).trans (teq hsm).2) ?_
      exact kT)
    have BB : own_Bd Z h0 n0 a1 dd ds dp dl sl pl dc ks pc df sf pf := B
    have pre32 : ∀ t, Steps p.tables e below (T9.setTop (mkF m 77 #[.val (.ref a1), .val (.int p1), .val (.int p2), .val (.int lst), .val (.int (own_same p1 lst))] [])) t → Steps p.tables e below (s₁.setTop (entryFrame m #[(.ref a1), (.int p1), (.int p2)] 5)) t := fun t kT => pre31 t (by
      exact kT)
    obtain ⟨T33, locs33, xd, xs, xl, yl, X33, N33, K33, B33, hxl, hxd, hxs, st33⟩ := tn_grow a1 p1 p2 lst (own_same p1 lst) dd ds dp dl sl pl dc ks pc df sf pf X9 hx hZ hw hby hml hown e9 BB (by decide) (by decide) N0 Z0 hdc (by omega) (by decide) (by decide)
    have pre34 : ∀ t, Steps p.tables e below (T33.setTop (mkF m 125 #[.val (.ref a1), .val (.int p1), .val (.int p2), .val (.int lst), .val (.int (own_same p1 lst))] [])) t → Steps p.tables e below (s₁.setTop (entryFrame m #[(.ref a1), (.int p1), (.int p2)] 5)) t := fun t kT => pre32 t (st33 t kT)
    have sz33 : n0 ≤ T33.heap.size := Nat.le_trans Z0 K33.1
    have pre35 : ∀ t, Steps p.tables e below (T33.setTop (mkF m 125 #[.val (.ref a1), .val (.int p1), .val (.int p2), .val (.int lst), .val (.int (own_same p1 lst))] [])) t → Steps p.tables e below (s₁.setTop (entryFrame m #[(.ref a1), (.int p1), (.int p2)] 5)) t := fun t kT => pre34 t (by
      exact kT)
    obtain ⟨T36, locs36, X36, N36, K36, B36, st36⟩ := tn_doc a1 p1 p2 lst (own_same p1 lst) xd xs dp xl yl pl dc ks pc df sf pf X33 hx hZ hw hby hml hown rfl B33 (by decide) (by decide) N33 sz33 hxl (by omega)
    have pre37 : ∀ t, Steps p.tables e below (T36.setTop (mkF m 158 #[.val (.ref a1), .val (.int p1), .val (.int p2), .val (.int lst), .val (.int (own_same p1 lst))] [])) t → Steps p.tables e below (s₁.setTop (entryFrame m #[(.ref a1), (.int p1), (.int p2)] 5)) t := fun t kT => pre35 t (st36 t kT)
    have sz36 : n0 ≤ T36.heap.size := Nat.le_trans sz33 K36.1
    have pre38 : ∀ t, Steps p.tables e below (T36.setTop (mkF m 158 #[.val (.ref a1), .val (.int p1), .val (.int p2), .val (.int lst), .val (.int (own_same p1 lst))] [])) t → Steps p.tables e below (s₁.setTop (entryFrame m #[(.ref a1), (.int p1), (.int p2)] 5)) t := fun t kT => pre37 t (by
      exact kT)
    obtain ⟨T39, locs39, xp, zl, X39, N39, K39, B39, hzl, hxp, st39⟩ := tn_room a1 p1 p2 lst (own_same p1 lst) xd xs dp xl yl pl (dc + 1) (dc + 1) pc (own_updI df dc p1) (own_updI sf dc (Int32.ofNat pc)) pf X36 hx hZ hw hby hml hown rfl B36 (by decide) (by decide) N36 sz36 hpc (by decide) (by decide)
    have pre40 : ∀ t, Steps p.tables e below (T39.setTop (mkF m 187 #[.val (.ref a1), .val (.int p1), .val (.int p2), .val (.int lst), .val (.int (own_same p1 lst))] [])) t → Steps p.tables e below (s₁.setTop (entryFrame m #[(.ref a1), (.int p1), (.int p2)] 5)) t := fun t kT => pre38 t (st39 t kT)
    have sz39 : n0 ≤ T39.heap.size := Nat.le_trans sz36 K39.1
    have pre41 : ∀ t, Steps p.tables e below (T39.setTop (mkF m 187 #[.val (.ref a1), .val (.int p1), .val (.int p2), .val (.int lst), .val (.int (own_same p1 lst))] [])) t → Steps p.tables e below (s₁.setTop (entryFrame m #[(.ref a1), (.int p1), (.int p2)] 5)) t := fun t kT => pre40 t (by
      exact kT)
    obtain ⟨T42, locs42, X42, N42, K42, B42, st42⟩ := tn_pos a1 p1 p2 lst (own_same p1 lst) xd xs xp xl yl zl (dc + 1) (dc + 1) pc (own_updI df dc p1) (own_updI sf dc (Int32.ofNat pc)) pf X39 hx hZ hw hby hml hown rfl B39 (by decide) (by decide) N39 sz39 hzl (Nat.le_refl _)
    have pre43 : ∀ t, Steps p.tables e below (T42.setTop (mkF m 220 #[.val (.ref a1), .val (.int p1), .val (.int p2), .val (.int lst), .val (.int (own_same p1 lst))] [])) t → Steps p.tables e below (s₁.setTop (entryFrame m #[(.ref a1), (.int p1), (.int p2)] 5)) t := fun t kT => pre41 t (st42 t kT)
    have sz42 : n0 ≤ T42.heap.size := Nat.le_trans sz39 K42.1
    have pre45 : ∀ t, Steps p.tables e below (T42.setTop (mkF m 220 #[.val (.ref a1), .val (.int p1), .val (.int p2), .val (.int lst), .val (.int (own_same p1 lst))] [])) t → Steps p.tables e below (s₁.setTop (entryFrame m #[(.ref a1), (.int p1), (.int p2)] 5)) t := fun t kT => pre43 t (by
      exact kT)
    obtain ⟨fs, hr, hrun, hended, hW, hsame⟩ := X42.leave (v := none) (fun _ => rfl)
    refine ⟨_, _, pre45 _ ?_, hrun, hended, _, _, rfl, ?_, ⟨_, rfl⟩, hW, hsame.mono (by decide) (by decide)⟩
    · exact X42.returnOut hx Bd.returns (hb hby d3_220) hr
    · have KF0 : Keep h0 _ [a1, dd, ds, dp] := Keep.trans (own_wide K33 (by simp)) K36 (allS (Or.inl (by simp)) (allS (hxd.elim (fun q => Or.inl (by rw [q]; simp)) Or.inr) (allS (hxs.elim (fun q => Or.inl (by rw [q]; simp)) Or.inr) all0)))
      have hs0 := KF0.1
      have KF1 : Keep h0 _ [a1, dd, ds, dp] := Keep.trans KF0 K39 (allS (Or.inl (by simp)) all0)
      have KF : Keep h0 T42.heap [a1, dd, ds, dp] := Keep.trans KF1 K42 (allS (Or.inl (by simp)) (allS (hxp.elim (fun q => Or.inl (by rw [q]; simp)) (fun q => Or.inr (Nat.le_trans hs0 q))) (allS (hxs.elim (fun q => Or.inl (by rw [q]; simp)) Or.inr) all0)))
      have e1 : own_ndc dc df p1 = dc + 1 := if_neg (by rw [← hlst]; exact hsm')
      have e2 : own_ndf dc df p1 = own_updI df dc p1 := if_neg (by rw [← hlst]; exact hsm')
      have e3 : own_nsf dc pc df sf p1 = own_updI (own_updI sf dc (Int32.ofNat pc)) (dc + 1) (Int32.ofNat (pc + 1)) := if_neg (by rw [← hlst]; exact hsm')
      refine ⟨rfl, N42, KF, xd, xs, xp, xl, yl, zl, ?_⟩
      rw [e1, e2, e3]
      exact B42
  · have hsm' : p1 = lst := Classical.byContradiction fun q => hsm (if_neg q)
    have hv3' := hv3 hsm'
    have pre19 : ∀ t, Steps p.tables e below (T9.setTop (mkF m 51 #[.val (.ref a1), .val (.int p1), .val (.int p2), .val (.int lst), .val (.int (own_same p1 lst))] [(.ref a1), (.int p2)])) t → Steps p.tables e below (s₁.setTop (entryFrame m #[(.ref a1), (.int p1), (.int p2)] 5)) t := fun t kT => pre18 t (by
      show Steps p.tables e below (T9.setTop (mkF m 46 #[.val (.ref a1), .val (.int p1), .val (.int p2), .val (.int lst), .val (.int (own_same p1 lst))] [(.int (own_same p1 lst))])) _
      refine XS.ifNo X9.here hx rfl (hb hby d3_46) rfl ((if0 _ _).trans (feq hsm).1) ?_
      show Steps p.tables e below (T9.setTop (mkF m 49 #[.val (.ref a1), .val (.int p1), .val (.int p2), .val (.int lst), .val (.int (own_same p1 lst))] [])) _
      refine XS.iloadN X9.here hx rfl (hb hby d3_49) rfl ?_
      show Steps p.tables e below (T9.setTop (mkF m 50 #[.val (.ref a1), .val (.int p1), .val (.int p2), .val (.int lst), .val (.int (own_same p1 lst))] [(.int p2)])) _
      refine XS.aloadN X9.here hx rfl (hb hby d3_50) rfl rfl ?_
      exact kT)
    obtain ⟨cI20, q20a, q20b⟩ := E0.cell
    have pre21 : ∀ t, Steps p.tables e below (T9.setTop (mkF m 51 #[.val (.ref a1), .val (.int p1), .val (.int p2), .val (.int lst), .val (.int (own_same p1 lst))] [(.ref a1), (.int p2)])) t → Steps p.tables e below (s₁.setTop (entryFrame m #[(.ref a1), (.int p1), (.int p2)] 5)) t := fun t kT => pre19 t (by
      exact kT)
    obtain ⟨_, _, ⟨T22, L22, k22, n22⟩, -, X22, ⟨Lc22, hQ22, l22, y22, z22⟩, st22⟩ := own_priv X9 hx (y := (⟨"com/example/esteem/esteem/index/Postings$Builder", "lastPosition", "()I"⟩ : MethodName)) (z := (⟨"com/example/esteem/esteem/index/Postings$Builder", "add", "(II)V"⟩ : MethodName)) hown (mvT hZ (hw _ (List.mem_of_getElem? (i := 27) rfl))) (mvT hZ (hw _ (List.mem_of_getElem? (i := 28) rfl))) (mvP hZ (hw _ (List.mem_of_getElem? (i := 29) rfl))) (mvT hZ (hw _ (List.mem_of_getElem? (i := 30) rfl))) (mvT hZ (hw _ (List.mem_of_getElem? (i := 21) rfl))) rfl (by decide) (backOf (W := 1) (rmLP l Z a0 hw [] a1 dd ds dp dl sl pl dc ks pc df sf pf h0 n0 Z0 (by omega) B) hZ (hw _ (List.mem_of_getElem? (i := 30) rfl)) (hw _ (List.mem_of_getElem? (i := 4) rfl)) (by decide) (by decide)) (g := (mkF m 51 #[.val (.ref a1), .val (.int p1), .val (.int p2), .val (.int lst), .val (.int (own_same p1 lst))] [(.ref a1), (.int p2)])) rfl (by rw [hml]; rfl) (a := a1) (by rw [e9]; exact q20a) q20b (argsL := []) (rest := [(.int p2)]) (lenOf pd___I rfl) rfl (by show 2 * 0 + _ ≤ _; exact Nat.le_of_eq rfl) (hb hby d3_51) (fun _ _ => ⟨rfl, e9, (by decide : 0 + 0 ≤ _), (by decide : 0 + 0 ≤ _)⟩)
    dsimp only [Pt.U, Pt.locs, Pt.cells, Pt.slots] at X22 l22 y22 z22 st22 hQ22
    have X22 := own_st X22 (y22.trans (show _ = 0 from rfl)) (z22.trans (show _ = 0 from rfl))
    obtain ⟨rfl, N22q, eLP⟩ := hQ22
    have N22 := own_fr l22 N0 N22q
    have pre23 : ∀ t, Steps p.tables e below (T22.setTop (mkF m 54 #[.val (.ref a1), .val (.int p1), .val (.int p2), .val (.int lst), .val (.int (own_same p1 lst))] [(.int (pf (pc - 1))), (.int p2)])) t → Steps p.tables e below (s₁.setTop (entryFrame m #[(.ref a1), (.int p1), (.int p2)] 5)) t := fun t kT => pre21 t (st22 t kT)
    have pre24 : ∀ t, Steps p.tables e below (T22.setTop (mkF m 158 #[.val (.ref a1), .val (.int p1), .val (.int p2), .val (.int lst), .val (.int (own_same p1 lst))] [])) t → Steps p.tables e below (s₁.setTop (entryFrame m #[(.ref a1), (.int p1), (.int p2)] 5)) t := fun t kT => pre23 t (by
      show Steps p.tables e below (T22.setTop (mkF m 54 #[.val (.ref a1), .val (.int p1), .val (.int p2), .val (.int lst), .val (.int (own_same p1 lst))] [(.int (pf (pc - 1))), (.int p2)])) _
      refine XS.icmpYes X22.here hx rfl (pc0 := 54) (pc' := 72) rfl (hb hby d3_54) rfl (tlt hv3'.2).2.2.1 (by decide) (by decide) ?_
      show Steps p.tables e below (T22.setTop (mkF m 72 #[.val (.ref a1), .val (.int p1), .val (.int p2), .val (.int lst), .val (.int (own_same p1 lst))] [])) _
      refine XS.iload X22.here hx rfl (hb hby d3_72) rfl ?_
      show Steps p.tables e below (T22.setTop (mkF m 74 #[.val (.ref a1), .val (.int p1), .val (.int p2), .val (.int lst), .val (.int (own_same p1 lst))] [(.int (own_same p1 lst))])) _
      refine XS.ifYes X22.here hx rfl (pc0 := 74) (pc' := 158) rfl (hb hby d3_74) rfl ((if0 _ _).trans (feq hsm).2) (by decide) (by decide) ?_
      exact kT)
    have BB : own_Bd Z h0 n0 a1 dd ds dp dl sl pl dc ks pc df sf pf := B
    have pre25 : ∀ t, Steps p.tables e below (T22.setTop (mkF m 158 #[.val (.ref a1), .val (.int p1), .val (.int p2), .val (.int lst), .val (.int (own_same p1 lst))] [])) t → Steps p.tables e below (s₁.setTop (entryFrame m #[(.ref a1), (.int p1), (.int p2)] 5)) t := fun t kT => pre24 t (by
      exact kT)
    obtain ⟨T26, locs26, xp, zl, X26, N26, K26, B26, hzl, hxp, st26⟩ := tn_room a1 p1 p2 lst (own_same p1 lst) dd ds dp dl sl pl dc ks pc df sf pf X22 hx hZ hw hby hml hown eLP BB (by decide) (by decide) N22 Z0 hpc (by decide) (by decide)
    have pre27 : ∀ t, Steps p.tables e below (T26.setTop (mkF m 187 #[.val (.ref a1), .val (.int p1), .val (.int p2), .val (.int lst), .val (.int (own_same p1 lst))] [])) t → Steps p.tables e below (s₁.setTop (entryFrame m #[(.ref a1), (.int p1), (.int p2)] 5)) t := fun t kT => pre25 t (st26 t kT)
    have sz26 : n0 ≤ T26.heap.size := Nat.le_trans Z0 K26.1
    have pre28 : ∀ t, Steps p.tables e below (T26.setTop (mkF m 187 #[.val (.ref a1), .val (.int p1), .val (.int p2), .val (.int lst), .val (.int (own_same p1 lst))] [])) t → Steps p.tables e below (s₁.setTop (entryFrame m #[(.ref a1), (.int p1), (.int p2)] 5)) t := fun t kT => pre27 t (by
      exact kT)
    obtain ⟨T29, locs29, X29, N29, K29, B29, st29⟩ := tn_pos a1 p1 p2 lst (own_same p1 lst) dd ds xp dl sl zl dc ks pc df sf pf X26 hx hZ hw hby hml hown rfl B26 (by decide) (by decide) N26 sz26 hzl (by omega)
    have pre30 : ∀ t, Steps p.tables e below (T29.setTop (mkF m 220 #[.val (.ref a1), .val (.int p1), .val (.int p2), .val (.int lst), .val (.int (own_same p1 lst))] [])) t → Steps p.tables e below (s₁.setTop (entryFrame m #[(.ref a1), (.int p1), (.int p2)] 5)) t := fun t kT => pre28 t (st29 t kT)
    have sz29 : n0 ≤ T29.heap.size := Nat.le_trans sz26 K29.1
    have pre44 : ∀ t, Steps p.tables e below (T29.setTop (mkF m 220 #[.val (.ref a1), .val (.int p1), .val (.int p2), .val (.int lst), .val (.int (own_same p1 lst))] [])) t → Steps p.tables e below (s₁.setTop (entryFrame m #[(.ref a1), (.int p1), (.int p2)] 5)) t := fun t kT => pre30 t (by
      exact kT)
    obtain ⟨fs, hr, hrun, hended, hW, hsame⟩ := X29.leave (v := none) (fun _ => rfl)
    refine ⟨_, _, pre44 _ ?_, hrun, hended, _, _, rfl, ?_, ⟨_, rfl⟩, hW, hsame.mono (by decide) (by decide)⟩
    · exact X29.returnOut hx Bd.returns (hb hby d3_220) hr
    · have KF : Keep h0 T29.heap [a1, dd, ds, dp] := Keep.trans (own_wide K26 (by simp)) K29 (allS (Or.inl (by simp)) (allS (hxp.elim (fun q => Or.inl (by rw [q]; simp)) Or.inr) (allS (Or.inl (by simp)) all0)))
      have e1 : own_ndc dc df p1 = dc := if_pos (by rw [← hlst]; exact hsm')
      have e2 : own_ndf dc df p1 = df := if_pos (by rw [← hlst]; exact hsm')
      have e3 : own_nsf dc pc df sf p1 = own_updI sf dc (Int32.ofNat (pc + 1)) := if_pos (by rw [← hlst]; exact hsm')
      refine ⟨rfl, N29, KF, dd, ds, xp, dl, sl, zl, ?_⟩
      rw [e1, e2, e3]
      exact B29
theorem ef_rmBI (m : MethodId) (x0 : Addr) : entryFrame m #[(.ref x0)] 1 = mkF m 0 #[.val (.ref x0)] [] := by first | (simp [entryFrame, mkF, argsToLocals, Value.category]; done) | rfl
theorem d1_0 : decode prog_22_method_1_code 0 = .ok (.aload_n 0, 1) := by decide +kernel
theorem d1_1 : decode prog_22_method_1_code 1 = .ok (.invokespecial 1, 3) := by decide +kernel
theorem d1_4 : decode prog_22_method_1_code 4 = .ok (.aload_n 0, 1) := by decide +kernel
theorem d1_5 : decode prog_22_method_1_code 5 = .ok (.iconst 1, 1) := by decide +kernel
theorem d1_6 : decode prog_22_method_1_code 6 = .ok (.newarray .int, 2) := by decide +kernel
theorem d1_8 : decode prog_22_method_1_code 8 = .ok (.putfield 7, 3) := by decide +kernel
theorem d1_11 : decode prog_22_method_1_code 11 = .ok (.aload_n 0, 1) := by decide +kernel
theorem d1_12 : decode prog_22_method_1_code 12 = .ok (.iconst 2, 1) := by decide +kernel
theorem d1_13 : decode prog_22_method_1_code 13 = .ok (.newarray .int, 2) := by decide +kernel
theorem d1_15 : decode prog_22_method_1_code 15 = .ok (.putfield 13, 3) := by decide +kernel
theorem d1_18 : decode prog_22_method_1_code 18 = .ok (.aload_n 0, 1) := by decide +kernel
theorem d1_19 : decode prog_22_method_1_code 19 = .ok (.iconst 1, 1) := by decide +kernel
theorem d1_20 : decode prog_22_method_1_code 20 = .ok (.newarray .int, 2) := by decide +kernel
theorem d1_22 : decode prog_22_method_1_code 22 = .ok (.putfield 16, 3) := by decide +kernel
theorem d1_25 : decode prog_22_method_1_code 25 = .ok (.return_, 1) := by decide +kernel
def Q_rmBI (Z : State) (a1 : Addr) (h0 : Heap) (n0 : Nat) (v : Option Value) (h : Heap) (L : List Loc) : Prop := v = none ∧ Fr n0 L ∧ Keep h0 h [a1] ∧ ∃ dd ds dp, own_Bd Z h n0 a1 dd ds dp 1 2 1 0 (0 + 1) 0 (fun _ => (0 : Int32)) (fun _ => (0 : Int32)) (fun _ => (0 : Int32))
set_option maxRecDepth 65536 in
set_option maxHeartbeats 40000000 in
theorem rmBI (l : Launch) (Z : State) (a0 : Array Value) (hw : ∀ d ∈ tables_1, d.before a0 Z = true) (ws : List Jvm.Cond) (a1 : Addr) (h0 : Heap) (n0 : Nat) (Z0 : n0 ≤ h0.size) (F0 : Fld Z h0 a1 "com/example/esteem/esteem/index/Postings$Builder" "docs" "[I" .null) (F1 : Fld Z h0 a1 "com/example/esteem/esteem/index/Postings$Builder" "starts" "[I" .null) (F2 : Fld Z h0 a1 "com/example/esteem/esteem/index/Postings$Builder" "positions" "[I" .null) (F3 : Fld Z h0 a1 "com/example/esteem/esteem/index/Postings$Builder" "docCount" "I" (.int (0 : Int32))) (F4 : Fld Z h0 a1 "com/example/esteem/esteem/index/Postings$Builder" "positionCount" "I" (.int (0 : Int32))) (E0 : Exa Z h0 a1 "com/example/esteem/esteem/index/Postings$Builder") (g1 : n0 ≤ a1) :
    MetFree l (⟨"com/example/esteem/esteem/index/Postings$Builder", "<init>", "()V"⟩ : MethodName) (head1 (Jvm.Cond.code (⟨"com/example/esteem/esteem/index/Postings$Builder", "<init>", "()V"⟩ : MethodName) prog_22_method_1_code 1 none :: ws) ({ frames := 1, cells := 3, slots := 4, locals := 12 } : Room)) (fun a U => a = #[(.ref a1)] ∧ Z.Warmed39 U.vm ∧ U.heap = h0) (fun _ _ _ _ _ => True) (fun _ U o U' => ∃ v L, o = .returned v ∧ Q_rmBI Z a1 h0 n0 v U'.heap L ∧ FrameEnd U o U' L ({ frames := 1, cells := 3, slots := 4, locals := 12 } : Room).cells ({ frames := 1, cells := 3, slots := 4, locals := 12 } : Room).slots) := by
  refine MetFree.of_bodySF (plainFor_of_name pn_com_example_esteem_esteem_index_Postings_Builder) hisR ?_
  intro p e s m args below meth c s₁ Bd hml0 hP hK
  obtain ⟨rfl, hZ, hh⟩ := hP
  have hx := Bd.exec
  have hby := Bd.bytes
  have hml : c.maxLocals = 1 := hml0
  have hown : s.vm.findClass "com/example/esteem/esteem/index/Postings$Builder" = some m.cls := findClass_of_methodNamed Bd.named
  have hnm := (name_of_methodNamed Bd.named Bd.method).1
  have X0 : Stand p l e ({ frames := 1, cells := 3, slots := 4, locals := 12 } : Room) s m #[(.ref a1)] below meth c s₁ [] 0 0 := Stand.of_body Bd
  have e0 : s₁.heap = h0 := by rw [← hh, Bd.state]; rfl
  have N0 := Fr.nil n0
  have pre0 : ∀ t, Steps p.tables e below (s₁.setTop (mkF m 0 #[.val (.ref a1)] [])) t → Steps p.tables e below (s₁.setTop (entryFrame m #[(.ref a1)] 1)) t := fun t kT => castTop (ef_rmBI m a1) kT
  have pre1 : ∀ t, Steps p.tables e below (s₁.setTop (mkF m 1 #[.val (.ref a1)] [(.ref a1)])) t → Steps p.tables e below (s₁.setTop (entryFrame m #[(.ref a1)] 1)) t := fun t kT => pre0 t (by
    show Steps p.tables e below (s₁.setTop (mkF m 0 #[.val (.ref a1)] [])) _
    refine XS.aloadN X0.here hx rfl (hb hby d1_0) rfl rfl ?_
    exact kT)
  obtain ⟨T2, X2, e2, st2⟩ := initO X0 hx hZ hown (hw _ (List.mem_of_getElem? (i := 8) rfl)) (hw _ (List.mem_of_getElem? (i := 9) rfl)) (hw _ (List.mem_of_getElem? (i := 10) rfl)) e0 (g := (mkF m 1 #[.val (.ref a1)] [(.ref a1)])) rfl (by rw [hml]; rfl) rfl (hb hby d1_1) (by decide) (W := 0) (by show 2 * 0 + _ ≤ _; exact Nat.le_of_eq rfl) (by decide)
  have pre3 : ∀ t, Steps p.tables e below (T2.setTop (mkF m 4 #[.val (.ref a1)] [])) t → Steps p.tables e below (s₁.setTop (entryFrame m #[(.ref a1)] 1)) t := fun t kT => pre1 t (st2 t kT)
  have pre4 : ∀ t, Steps p.tables e below (T2.setTop (mkF m 6 #[.val (.ref a1)] [(.int (1 : Int32)), (.ref a1)])) t → Steps p.tables e below (s₁.setTop (entryFrame m #[(.ref a1)] 1)) t := fun t kT => pre3 t (by
    show Steps p.tables e below (T2.setTop (mkF m 4 #[.val (.ref a1)] [])) _
    refine XS.aloadN X2.here hx rfl (hb hby d1_4) rfl rfl ?_
    show Steps p.tables e below (T2.setTop (mkF m 5 #[.val (.ref a1)] [(.ref a1)])) _
    refine XS.iconst X2.here hx rfl (hb hby d1_5) ?_
    exact kT)
  obtain ⟨T5, h5, X5, e5, E5, A5, st5⟩ := own_newP X2 hx hZ (hw _ (List.mem_of_getElem? (i := 11) rfl)) e2 (g := (mkF m 6 #[.val (.ref a1)] [(.int (1 : Int32)), (.ref a1)])) rfl (hb hby d1_6) rfl (by decide) (cap := 1) (by decide) (by decide) (by decide) (by decide)
  obtain ⟨dd, g5⟩ : ∃ z, z = h0.size := ⟨_, rfl⟩
  rw [← g5] at A5 st5
  have ne_a1_dd : a1 ≠ dd := Nat.ne_of_lt (Nat.lt_of_lt_of_le F0.lt (Nat.le_of_eq g5.symm))
  have g_dd : n0 ≤ dd := Nat.le_trans Z0 (Nat.le_of_eq g5.symm)
  have fr_dd : h0.size ≤ dd := Nat.le_trans (Keep.refl h0 [a1]).1 (Nat.le_of_eq g5.symm)
  have pre6 : ∀ t, Steps p.tables e below (T5.setTop (mkF m 8 #[.val (.ref a1)] [(.ref dd), (.ref a1)])) t → Steps p.tables e below (s₁.setTop (entryFrame m #[(.ref a1)] 1)) t := fun t kT => pre4 t (st5 t kT)
  have F0_e5 : Fld Z h5 a1 "com/example/esteem/esteem/index/Postings$Builder" "docs" "[I" .null := F0.ext E5
  have F1_e5 : Fld Z h5 a1 "com/example/esteem/esteem/index/Postings$Builder" "starts" "[I" .null := F1.ext E5
  have F2_e5 : Fld Z h5 a1 "com/example/esteem/esteem/index/Postings$Builder" "positions" "[I" .null := F2.ext E5
  have F3_e5 : Fld Z h5 a1 "com/example/esteem/esteem/index/Postings$Builder" "docCount" "I" (.int (0 : Int32)) := F3.ext E5
  have F4_e5 : Fld Z h5 a1 "com/example/esteem/esteem/index/Postings$Builder" "positionCount" "I" (.int (0 : Int32)) := F4.ext E5
  have E0_e5 : Exa Z h5 a1 "com/example/esteem/esteem/index/Postings$Builder" := E0.ext E5
  have sz5 : n0 ≤ h5.size := Nat.le_trans Z0 E5.1
  have KK5 : Keep h0 h5 [a1] := (Keep.refl h0 [a1]).ext E5
  have V_dd : own_Ar Z h5 dd .int 1 (fun _ => (.int (0 : Int32))) := A5
  have pre7 : ∀ t, Steps p.tables e below (T5.setTop (mkF m 8 #[.val (.ref a1)] [(.ref dd), (.ref a1)])) t → Steps p.tables e below (s₁.setTop (entryFrame m #[(.ref a1)] 1)) t := fun t kT => pre6 t (by
    exact kT)
  obtain ⟨T8, h8, X8, e8, W8, st8⟩ := putF X5 hx hZ hown (host := "") (Or.inl (hw _ (List.mem_of_getElem? (i := 12) rfl))) Via.refl e5 F0_e5 E0_e5 (Or.inl (hw _ (List.mem_of_getElem? (i := 13) rfl))) (hw _ (List.mem_of_getElem? (i := 3) rfl)) (ty := (.array .int)) (by decide) rfl rfl (g := (mkF m 8 #[.val (.ref a1)] [(.ref dd), (.ref a1)])) rfl rfl (hb hby d1_8)
  have pre9 : ∀ t, Steps p.tables e below (T8.setTop (mkF m 11 #[.val (.ref a1)] [])) t → Steps p.tables e below (s₁.setTop (entryFrame m #[(.ref a1)] 1)) t := fun t kT => pre7 t (st8 t kT)
  have N8 := Fr.snoc X8 N0 g1
  have F1_e8 : Fld Z h8 a1 "com/example/esteem/esteem/index/Postings$Builder" "starts" "[I" .null := F1_e5.other W8 (Or.inr (slot_ne (Or.inl (hw _ (List.mem_of_getElem? (i := 15) rfl))) (Or.inl (hw _ (List.mem_of_getElem? (i := 13) rfl))) (by decide) (t := (.array .int)) (t' := (.array .int)) (by decide) (by decide)))
  have F2_e8 : Fld Z h8 a1 "com/example/esteem/esteem/index/Postings$Builder" "positions" "[I" .null := F2_e5.other W8 (Or.inr (slot_ne (Or.inl (hw _ (List.mem_of_getElem? (i := 17) rfl))) (Or.inl (hw _ (List.mem_of_getElem? (i := 13) rfl))) (by decide) (t := (.array .int)) (t' := (.array .int)) (by decide) (by decide)))
  have F3_e8 : Fld Z h8 a1 "com/example/esteem/esteem/index/Postings$Builder" "docCount" "I" (.int (0 : Int32)) := F3_e5.other W8 (Or.inr (slot_ne (Or.inl (hw _ (List.mem_of_getElem? (i := 24) rfl))) (Or.inl (hw _ (List.mem_of_getElem? (i := 13) rfl))) (by decide) (t := .int) (t' := (.array .int)) (by decide) (by decide)))
  have F4_e8 : Fld Z h8 a1 "com/example/esteem/esteem/index/Postings$Builder" "positionCount" "I" (.int (0 : Int32)) := F4_e5.other W8 (Or.inr (slot_ne (Or.inl (hw _ (List.mem_of_getElem? (i := 26) rfl))) (Or.inl (hw _ (List.mem_of_getElem? (i := 13) rfl))) (by decide) (t := .int) (t' := (.array .int)) (by decide) (by decide)))
  have E0_e8 : Exa Z h8 a1 "com/example/esteem/esteem/index/Postings$Builder" := E0_e5.wr W8
  have V_dd_e8 : own_Ar Z h8 dd .int 1 (fun _ => (.int (0 : Int32))) := V_dd.other W8 (Ne.symm ne_a1_dd)
  have sz8 : n0 ≤ h8.size := Nat.le_trans sz5 (Keep.of_wr W8).1
  have KK8 : Keep h0 h8 [a1] := KK5.wr W8 (Or.inl (List.mem_of_getElem? (i := 0) rfl))
  have F_a1_docs_e8 : Fld Z h8 a1 "com/example/esteem/esteem/index/Postings$Builder" "docs" "[I" (.ref dd) := F0_e5.same W8
  have pre10 : ∀ t, Steps p.tables e below (T8.setTop (mkF m 13 #[.val (.ref a1)] [(.int (2 : Int32)), (.ref a1)])) t → Steps p.tables e below (s₁.setTop (entryFrame m #[(.ref a1)] 1)) t := fun t kT => pre9 t (by
    show Steps p.tables e below (T8.setTop (mkF m 11 #[.val (.ref a1)] [])) _
    refine XS.aloadN X8.here hx rfl (hb hby d1_11) rfl rfl ?_
    show Steps p.tables e below (T8.setTop (mkF m 12 #[.val (.ref a1)] [(.ref a1)])) _
    refine XS.iconst X8.here hx rfl (hb hby d1_12) ?_
    exact kT)
  obtain ⟨T11, h11, X11, e11, E11, A11, st11⟩ := own_newP X8 hx hZ (hw _ (List.mem_of_getElem? (i := 11) rfl)) e8 (g := (mkF m 13 #[.val (.ref a1)] [(.int (2 : Int32)), (.ref a1)])) rfl (hb hby d1_13) rfl (by decide) (cap := 2) (by decide) (by decide) (by decide) (by decide)
  obtain ⟨ds, g11⟩ : ∃ z, z = h8.size := ⟨_, rfl⟩
  rw [← g11] at A11 st11
  have ne_a1_ds : a1 ≠ ds := Nat.ne_of_lt (Nat.lt_of_lt_of_le F_a1_docs_e8.lt (Nat.le_of_eq g11.symm))
  have ne_dd_ds : dd ≠ ds := Nat.ne_of_lt (Nat.lt_of_lt_of_le V_dd_e8.lt (Nat.le_of_eq g11.symm))
  have g_ds : n0 ≤ ds := Nat.le_trans sz8 (Nat.le_of_eq g11.symm)
  have fr_ds : h0.size ≤ ds := Nat.le_trans KK8.1 (Nat.le_of_eq g11.symm)
  have pre12 : ∀ t, Steps p.tables e below (T11.setTop (mkF m 15 #[.val (.ref a1)] [(.ref ds), (.ref a1)])) t → Steps p.tables e below (s₁.setTop (entryFrame m #[(.ref a1)] 1)) t := fun t kT => pre10 t (st11 t kT)
  have F_a1_docs_e11 : Fld Z h11 a1 "com/example/esteem/esteem/index/Postings$Builder" "docs" "[I" (.ref dd) := F_a1_docs_e8.ext E11
  have F1_e11 : Fld Z h11 a1 "com/example/esteem/esteem/index/Postings$Builder" "starts" "[I" .null := F1_e8.ext E11
  have F2_e11 : Fld Z h11 a1 "com/example/esteem/esteem/index/Postings$Builder" "positions" "[I" .null := F2_e8.ext E11
  have F3_e11 : Fld Z h11 a1 "com/example/esteem/esteem/index/Postings$Builder" "docCount" "I" (.int (0 : Int32)) := F3_e8.ext E11
  have F4_e11 : Fld Z h11 a1 "com/example/esteem/esteem/index/Postings$Builder" "positionCount" "I" (.int (0 : Int32)) := F4_e8.ext E11
  have E0_e11 : Exa Z h11 a1 "com/example/esteem/esteem/index/Postings$Builder" := E0_e8.ext E11
  have V_dd_e11 : own_Ar Z h11 dd .int 1 (fun _ => (.int (0 : Int32))) := V_dd_e8.ext E11
  have sz11 : n0 ≤ h11.size := Nat.le_trans sz8 E11.1
  have KK11 : Keep h0 h11 [a1] := KK8.ext E11
  have V_ds : own_Ar Z h11 ds .int 2 (fun _ => (.int (0 : Int32))) := A11
  have pre13 : ∀ t, Steps p.tables e below (T11.setTop (mkF m 15 #[.val (.ref a1)] [(.ref ds), (.ref a1)])) t → Steps p.tables e below (s₁.setTop (entryFrame m #[(.ref a1)] 1)) t := fun t kT => pre12 t (by
    exact kT)
  obtain ⟨T14, h14, X14, e14, W14, st14⟩ := putF X11 hx hZ hown (host := "") (Or.inl (hw _ (List.mem_of_getElem? (i := 14) rfl))) Via.refl e11 F1_e11 E0_e11 (Or.inl (hw _ (List.mem_of_getElem? (i := 15) rfl))) (hw _ (List.mem_of_getElem? (i := 3) rfl)) (ty := (.array .int)) (by decide) rfl rfl (g := (mkF m 15 #[.val (.ref a1)] [(.ref ds), (.ref a1)])) rfl rfl (hb hby d1_15)
  have pre15 : ∀ t, Steps p.tables e below (T14.setTop (mkF m 18 #[.val (.ref a1)] [])) t → Steps p.tables e below (s₁.setTop (entryFrame m #[(.ref a1)] 1)) t := fun t kT => pre13 t (st14 t kT)
  have N14 := Fr.snoc X14 N8 g1
  have F_a1_docs_e14 : Fld Z h14 a1 "com/example/esteem/esteem/index/Postings$Builder" "docs" "[I" (.ref dd) := F_a1_docs_e11.other W14 (Or.inr (slot_ne (Or.inl (hw _ (List.mem_of_getElem? (i := 13) rfl))) (Or.inl (hw _ (List.mem_of_getElem? (i := 15) rfl))) (by decide) (t := (.array .int)) (t' := (.array .int)) (by decide) (by decide)))
  have F2_e14 : Fld Z h14 a1 "com/example/esteem/esteem/index/Postings$Builder" "positions" "[I" .null := F2_e11.other W14 (Or.inr (slot_ne (Or.inl (hw _ (List.mem_of_getElem? (i := 17) rfl))) (Or.inl (hw _ (List.mem_of_getElem? (i := 15) rfl))) (by decide) (t := (.array .int)) (t' := (.array .int)) (by decide) (by decide)))
  have F3_e14 : Fld Z h14 a1 "com/example/esteem/esteem/index/Postings$Builder" "docCount" "I" (.int (0 : Int32)) := F3_e11.other W14 (Or.inr (slot_ne (Or.inl (hw _ (List.mem_of_getElem? (i := 24) rfl))) (Or.inl (hw _ (List.mem_of_getElem? (i := 15) rfl))) (by decide) (t := .int) (t' := (.array .int)) (by decide) (by decide)))
  have F4_e14 : Fld Z h14 a1 "com/example/esteem/esteem/index/Postings$Builder" "positionCount" "I" (.int (0 : Int32)) := F4_e11.other W14 (Or.inr (slot_ne (Or.inl (hw _ (List.mem_of_getElem? (i := 26) rfl))) (Or.inl (hw _ (List.mem_of_getElem? (i := 15) rfl))) (by decide) (t := .int) (t' := (.array .int)) (by decide) (by decide)))
  have E0_e14 : Exa Z h14 a1 "com/example/esteem/esteem/index/Postings$Builder" := E0_e11.wr W14
  have V_dd_e14 : own_Ar Z h14 dd .int 1 (fun _ => (.int (0 : Int32))) := V_dd_e11.other W14 (Ne.symm ne_a1_dd)
  have V_ds_e14 : own_Ar Z h14 ds .int 2 (fun _ => (.int (0 : Int32))) := V_ds.other W14 (Ne.symm ne_a1_ds)
  have sz14 : n0 ≤ h14.size := Nat.le_trans sz11 (Keep.of_wr W14).1
  have KK14 : Keep h0 h14 [a1] := KK11.wr W14 (Or.inl (List.mem_of_getElem? (i := 0) rfl))
  have F_a1_starts_e14 : Fld Z h14 a1 "com/example/esteem/esteem/index/Postings$Builder" "starts" "[I" (.ref ds) := F1_e11.same W14
  have pre16 : ∀ t, Steps p.tables e below (T14.setTop (mkF m 20 #[.val (.ref a1)] [(.int (1 : Int32)), (.ref a1)])) t → Steps p.tables e below (s₁.setTop (entryFrame m #[(.ref a1)] 1)) t := fun t kT => pre15 t (by
    show Steps p.tables e below (T14.setTop (mkF m 18 #[.val (.ref a1)] [])) _
    refine XS.aloadN X14.here hx rfl (hb hby d1_18) rfl rfl ?_
    show Steps p.tables e below (T14.setTop (mkF m 19 #[.val (.ref a1)] [(.ref a1)])) _
    refine XS.iconst X14.here hx rfl (hb hby d1_19) ?_
    exact kT)
  obtain ⟨T17, h17, X17, e17, E17, A17, st17⟩ := own_newP X14 hx hZ (hw _ (List.mem_of_getElem? (i := 11) rfl)) e14 (g := (mkF m 20 #[.val (.ref a1)] [(.int (1 : Int32)), (.ref a1)])) rfl (hb hby d1_20) rfl (by decide) (cap := 1) (by decide) (by decide) (by decide) (by decide)
  obtain ⟨dp, g17⟩ : ∃ z, z = h14.size := ⟨_, rfl⟩
  rw [← g17] at A17 st17
  have ne_a1_dp : a1 ≠ dp := Nat.ne_of_lt (Nat.lt_of_lt_of_le F_a1_docs_e14.lt (Nat.le_of_eq g17.symm))
  have ne_dd_dp : dd ≠ dp := Nat.ne_of_lt (Nat.lt_of_lt_of_le V_dd_e14.lt (Nat.le_of_eq g17.symm))
  have ne_ds_dp : ds ≠ dp := Nat.ne_of_lt (Nat.lt_of_lt_of_le V_ds_e14.lt (Nat.le_of_eq g17.symm))
  have g_dp : n0 ≤ dp := Nat.le_trans sz14 (Nat.le_of_eq g17.symm)
  have fr_dp : h0.size ≤ dp := Nat.le_trans KK14.1 (Nat.le_of_eq g17.symm)
  have pre18 : ∀ t, Steps p.tables e below (T17.setTop (mkF m 22 #[.val (.ref a1)] [(.ref dp), (.ref a1)])) t → Steps p.tables e below (s₁.setTop (entryFrame m #[(.ref a1)] 1)) t := fun t kT => pre16 t (st17 t kT)
  have F_a1_docs_e17 : Fld Z h17 a1 "com/example/esteem/esteem/index/Postings$Builder" "docs" "[I" (.ref dd) := F_a1_docs_e14.ext E17
  have F_a1_starts_e17 : Fld Z h17 a1 "com/example/esteem/esteem/index/Postings$Builder" "starts" "[I" (.ref ds) := F_a1_starts_e14.ext E17
  have F2_e17 : Fld Z h17 a1 "com/example/esteem/esteem/index/Postings$Builder" "positions" "[I" .null := F2_e14.ext E17
  have F3_e17 : Fld Z h17 a1 "com/example/esteem/esteem/index/Postings$Builder" "docCount" "I" (.int (0 : Int32)) := F3_e14.ext E17
  have F4_e17 : Fld Z h17 a1 "com/example/esteem/esteem/index/Postings$Builder" "positionCount" "I" (.int (0 : Int32)) := F4_e14.ext E17
  have E0_e17 : Exa Z h17 a1 "com/example/esteem/esteem/index/Postings$Builder" := E0_e14.ext E17
  have V_dd_e17 : own_Ar Z h17 dd .int 1 (fun _ => (.int (0 : Int32))) := V_dd_e14.ext E17
  have V_ds_e17 : own_Ar Z h17 ds .int 2 (fun _ => (.int (0 : Int32))) := V_ds_e14.ext E17
  have sz17 : n0 ≤ h17.size := Nat.le_trans sz14 E17.1
  have KK17 : Keep h0 h17 [a1] := KK14.ext E17
  have V_dp : own_Ar Z h17 dp .int 1 (fun _ => (.int (0 : Int32))) := A17
  have pre19 : ∀ t, Steps p.tables e below (T17.setTop (mkF m 22 #[.val (.ref a1)] [(.ref dp), (.ref a1)])) t → Steps p.tables e below (s₁.setTop (entryFrame m #[(.ref a1)] 1)) t := fun t kT => pre18 t (by
    exact kT)
  obtain ⟨T20, h20, X20, e20, W20, st20⟩ := putF X17 hx hZ hown (host := "") (Or.inl (hw _ (List.mem_of_getElem? (i := 16) rfl))) Via.refl e17 F2_e17 E0_e17 (Or.inl (hw _ (List.mem_of_getElem? (i := 17) rfl))) (hw _ (List.mem_of_getElem? (i := 3) rfl)) (ty := (.array .int)) (by decide) rfl rfl (g := (mkF m 22 #[.val (.ref a1)] [(.ref dp), (.ref a1)])) rfl rfl (hb hby d1_22)
  have pre21 : ∀ t, Steps p.tables e below (T20.setTop (mkF m 25 #[.val (.ref a1)] [])) t → Steps p.tables e below (s₁.setTop (entryFrame m #[(.ref a1)] 1)) t := fun t kT => pre19 t (st20 t kT)
  have N20 := Fr.snoc X20 N14 g1
  have F_a1_docs_e20 : Fld Z h20 a1 "com/example/esteem/esteem/index/Postings$Builder" "docs" "[I" (.ref dd) := F_a1_docs_e17.other W20 (Or.inr (slot_ne (Or.inl (hw _ (List.mem_of_getElem? (i := 13) rfl))) (Or.inl (hw _ (List.mem_of_getElem? (i := 17) rfl))) (by decide) (t := (.array .int)) (t' := (.array .int)) (by decide) (by decide)))
  have F_a1_starts_e20 : Fld Z h20 a1 "com/example/esteem/esteem/index/Postings$Builder" "starts" "[I" (.ref ds) := F_a1_starts_e17.other W20 (Or.inr (slot_ne (Or.inl (hw _ (List.mem_of_getElem? (i := 15) rfl))) (Or.inl (hw _ (List.mem_of_getElem? (i := 17) rfl))) (by decide) (t := (.array .int)) (t' := (.array .int)) (by decide) (by decide)))
  have F3_e20 : Fld Z h20 a1 "com/example/esteem/esteem/index/Postings$Builder" "docCount" "I" (.int (0 : Int32)) := F3_e17.other W20 (Or.inr (slot_ne (Or.inl (hw _ (List.mem_of_getElem? (i := 24) rfl))) (Or.inl (hw _ (List.mem_of_getElem? (i := 17) rfl))) (by decide) (t := .int) (t' := (.array .int)) (by decide) (by decide)))
  have F4_e20 : Fld Z h20 a1 "com/example/esteem/esteem/index/Postings$Builder" "positionCount" "I" (.int (0 : Int32)) := F4_e17.other W20 (Or.inr (slot_ne (Or.inl (hw _ (List.mem_of_getElem? (i := 26) rfl))) (Or.inl (hw _ (List.mem_of_getElem? (i := 17) rfl))) (by decide) (t := .int) (t' := (.array .int)) (by decide) (by decide)))
  have E0_e20 : Exa Z h20 a1 "com/example/esteem/esteem/index/Postings$Builder" := E0_e17.wr W20
  have V_dd_e20 : own_Ar Z h20 dd .int 1 (fun _ => (.int (0 : Int32))) := V_dd_e17.other W20 (Ne.symm ne_a1_dd)
  have V_ds_e20 : own_Ar Z h20 ds .int 2 (fun _ => (.int (0 : Int32))) := V_ds_e17.other W20 (Ne.symm ne_a1_ds)
  have V_dp_e20 : own_Ar Z h20 dp .int 1 (fun _ => (.int (0 : Int32))) := V_dp.other W20 (Ne.symm ne_a1_dp)
  have sz20 : n0 ≤ h20.size := Nat.le_trans sz17 (Keep.of_wr W20).1
  have KK20 : Keep h0 h20 [a1] := KK17.wr W20 (Or.inl (List.mem_of_getElem? (i := 0) rfl))
  have F_a1_positions_e20 : Fld Z h20 a1 "com/example/esteem/esteem/index/Postings$Builder" "positions" "[I" (.ref dp) := F2_e17.same W20
  have pre22 : ∀ t, Steps p.tables e below (T20.setTop (mkF m 25 #[.val (.ref a1)] [])) t → Steps p.tables e below (s₁.setTop (entryFrame m #[(.ref a1)] 1)) t := fun t kT => pre21 t (by
    exact kT)
  obtain ⟨fs, hr, hrun, hended, hW, hsame⟩ := X20.leave (v := none) (fun _ => rfl)
  refine ⟨_, _, pre22 _ ?_, hrun, hended, _, _, rfl, ?_, ⟨_, rfl⟩, hW, hsame.mono (by decide) (by decide)⟩
  · exact X20.returnOut hx Bd.returns (hb hby d1_25) hr
  · show Q_rmBI Z a1 h0 n0 _ T20.heap _
    rw [e20]
    exact ⟨rfl, N20, KK20, dd, ds, dp, ⟨⟨F_a1_docs_e20, F_a1_starts_e20, F_a1_positions_e20, F3_e20, F4_e20, E0_e20⟩, ⟨own_Pf.of (g := (fun _ => (0 : Int32))) V_dd_e20 (fun _ _ => rfl), own_Pf.of (g := (fun _ => (0 : Int32))) V_ds_e20 (fun _ _ => rfl), own_Pf.of (g := (fun _ => (0 : Int32))) V_dp_e20 (fun _ _ => rfl)⟩, ⟨ne_dd_ds, ne_dd_dp, ne_ds_dp, ne_a1_dd, ne_a1_ds, ne_a1_dp⟩, ⟨g1, g_dd, g_ds, g_dp⟩, ⟨by decide, by decide, by decide, by decide, by decide, by decide, by decide, by decide⟩⟩⟩
theorem ef_rmPI (m : MethodId) (x0 : Addr) (x1 : Addr) (x2 : Addr) (x3 : Addr) : entryFrame m #[(.ref x0), (.ref x1), (.ref x2), (.ref x3)] 4 = mkF m 0 #[.val (.ref x0), .val (.ref x1), .val (.ref x2), .val (.ref x3)] [] := by first | (simp [entryFrame, mkF, argsToLocals, Value.category]; done) | rfl
theorem pn_com_example_esteem_esteem_index_Postings : plainName "com/example/esteem/esteem/index/Postings" = true := by first | (simp [plainName, overriddenIn]; done) | decide +kernel
theorem d8_0 : decode prog_21_method_1_code 0 = .ok (.aload_n 0, 1) := by decide +kernel
theorem d8_1 : decode prog_21_method_1_code 1 = .ok (.invokespecial 1, 3) := by decide +kernel
theorem d8_4 : decode prog_21_method_1_code 4 = .ok (.aload_n 0, 1) := by decide +kernel
theorem d8_5 : decode prog_21_method_1_code 5 = .ok (.aload_n 1, 1) := by decide +kernel
theorem d8_6 : decode prog_21_method_1_code 6 = .ok (.putfield 7, 3) := by decide +kernel
theorem d8_9 : decode prog_21_method_1_code 9 = .ok (.aload_n 0, 1) := by decide +kernel
theorem d8_10 : decode prog_21_method_1_code 10 = .ok (.aload_n 2, 1) := by decide +kernel
theorem d8_11 : decode prog_21_method_1_code 11 = .ok (.putfield 13, 3) := by decide +kernel
theorem d8_14 : decode prog_21_method_1_code 14 = .ok (.aload_n 0, 1) := by decide +kernel
theorem d8_15 : decode prog_21_method_1_code 15 = .ok (.aload_n 3, 1) := by decide +kernel
theorem d8_16 : decode prog_21_method_1_code 16 = .ok (.putfield 16, 3) := by decide +kernel
theorem d8_19 : decode prog_21_method_1_code 19 = .ok (.return_, 1) := by decide +kernel
def Q_rmPI (Z : State) (a1 : Addr) (x1 : Addr) (x2 : Addr) (x3 : Addr) (h0 : Heap) (n0 : Nat) (v : Option Value) (h : Heap) (L : List Loc) : Prop := v = none ∧ Fr n0 L ∧ Keep h0 h [a1] ∧ Fld Z h a1 "com/example/esteem/esteem/index/Postings" "docs" "[I" (.ref x1) ∧ Fld Z h a1 "com/example/esteem/esteem/index/Postings" "starts" "[I" (.ref x2) ∧ Fld Z h a1 "com/example/esteem/esteem/index/Postings" "positions" "[I" (.ref x3)
set_option maxRecDepth 65536 in
set_option maxHeartbeats 40000000 in
theorem rmPI (l : Launch) (Z : State) (a0 : Array Value) (hw : ∀ d ∈ tables_1, d.before a0 Z = true) (ws : List Jvm.Cond) (a1 : Addr) (x1 : Addr) (x2 : Addr) (x3 : Addr) (h0 : Heap) (n0 : Nat) (Z0 : n0 ≤ h0.size) (F0 : Fld Z h0 a1 "com/example/esteem/esteem/index/Postings" "docs" "[I" .null) (F1 : Fld Z h0 a1 "com/example/esteem/esteem/index/Postings" "starts" "[I" .null) (F2 : Fld Z h0 a1 "com/example/esteem/esteem/index/Postings" "positions" "[I" .null) (E0 : Exa Z h0 a1 "com/example/esteem/esteem/index/Postings") (g1 : n0 ≤ a1) :
    MetFree l (⟨"com/example/esteem/esteem/index/Postings", "<init>", "([I[I[I)V"⟩ : MethodName) (head1 (Jvm.Cond.code (⟨"com/example/esteem/esteem/index/Postings", "<init>", "([I[I[I)V"⟩ : MethodName) prog_21_method_1_code 4 none :: ws) ({ frames := 1, cells := 0, slots := 0, locals := 12 } : Room)) (fun a U => a = #[(.ref a1), (.ref x1), (.ref x2), (.ref x3)] ∧ Z.Warmed39 U.vm ∧ U.heap = h0) (fun _ _ _ _ _ => True) (fun _ U o U' => ∃ v L, o = .returned v ∧ Q_rmPI Z a1 x1 x2 x3 h0 n0 v U'.heap L ∧ FrameEnd U o U' L ({ frames := 1, cells := 0, slots := 0, locals := 12 } : Room).cells ({ frames := 1, cells := 0, slots := 0, locals := 12 } : Room).slots) := by
  refine MetFree.of_bodySF (plainFor_of_name pn_com_example_esteem_esteem_index_Postings) hisR ?_
  intro p e s m args below meth c s₁ Bd hml0 hP hK
  obtain ⟨rfl, hZ, hh⟩ := hP
  have hx := Bd.exec
  have hby := Bd.bytes
  have hml : c.maxLocals = 4 := hml0
  have hown : s.vm.findClass "com/example/esteem/esteem/index/Postings" = some m.cls := findClass_of_methodNamed Bd.named
  have hnm := (name_of_methodNamed Bd.named Bd.method).1
  have X0 : Stand p l e ({ frames := 1, cells := 0, slots := 0, locals := 12 } : Room) s m #[(.ref a1), (.ref x1), (.ref x2), (.ref x3)] below meth c s₁ [] 0 0 := Stand.of_body Bd
  have e0 : s₁.heap = h0 := by rw [← hh, Bd.state]; rfl
  have N0 := Fr.nil n0
  have pre0 : ∀ t, Steps p.tables e below (s₁.setTop (mkF m 0 #[.val (.ref a1), .val (.ref x1), .val (.ref x2), .val (.ref x3)] [])) t → Steps p.tables e below (s₁.setTop (entryFrame m #[(.ref a1), (.ref x1), (.ref x2), (.ref x3)] 4)) t := fun t kT => castTop (ef_rmPI m a1 x1 x2 x3) kT
  have pre1 : ∀ t, Steps p.tables e below (s₁.setTop (mkF m 1 #[.val (.ref a1), .val (.ref x1), .val (.ref x2), .val (.ref x3)] [(.ref a1)])) t → Steps p.tables e below (s₁.setTop (entryFrame m #[(.ref a1), (.ref x1), (.ref x2), (.ref x3)] 4)) t := fun t kT => pre0 t (by
    show Steps p.tables e below (s₁.setTop (mkF m 0 #[.val (.ref a1), .val (.ref x1), .val (.ref x2), .val (.ref x3)] [])) _
    refine XS.aloadN X0.here hx rfl (hb hby d8_0) rfl rfl ?_
    exact kT)
  obtain ⟨T2, X2, e2, st2⟩ := initO X0 hx hZ hown (hw _ (List.mem_of_getElem? (i := 63) rfl)) (hw _ (List.mem_of_getElem? (i := 9) rfl)) (hw _ (List.mem_of_getElem? (i := 10) rfl)) e0 (g := (mkF m 1 #[.val (.ref a1), .val (.ref x1), .val (.ref x2), .val (.ref x3)] [(.ref a1)])) rfl (by rw [hml]; rfl) rfl (hb hby d8_1) (by decide) (W := 0) (by show 2 * 0 + _ ≤ _; exact Nat.le_of_eq rfl) (by decide)
  have pre3 : ∀ t, Steps p.tables e below (T2.setTop (mkF m 4 #[.val (.ref a1), .val (.ref x1), .val (.ref x2), .val (.ref x3)] [])) t → Steps p.tables e below (s₁.setTop (entryFrame m #[(.ref a1), (.ref x1), (.ref x2), (.ref x3)] 4)) t := fun t kT => pre1 t (st2 t kT)
  have pre4 : ∀ t, Steps p.tables e below (T2.setTop (mkF m 6 #[.val (.ref a1), .val (.ref x1), .val (.ref x2), .val (.ref x3)] [(.ref x1), (.ref a1)])) t → Steps p.tables e below (s₁.setTop (entryFrame m #[(.ref a1), (.ref x1), (.ref x2), (.ref x3)] 4)) t := fun t kT => pre3 t (by
    show Steps p.tables e below (T2.setTop (mkF m 4 #[.val (.ref a1), .val (.ref x1), .val (.ref x2), .val (.ref x3)] [])) _
    refine XS.aloadN X2.here hx rfl (hb hby d8_4) rfl rfl ?_
    show Steps p.tables e below (T2.setTop (mkF m 5 #[.val (.ref a1), .val (.ref x1), .val (.ref x2), .val (.ref x3)] [(.ref a1)])) _
    refine XS.aloadN X2.here hx rfl (hb hby d8_5) rfl rfl ?_
    exact kT)
  obtain ⟨T5, h5, X5, e5, W5, st5⟩ := putF X2 hx hZ hown (host := "") (Or.inl (hw _ (List.mem_of_getElem? (i := 64) rfl))) Via.refl e2 F0 E0 (Or.inr ⟨(hw _ (List.mem_of_getElem? (i := 65) rfl)), rfl, hnm⟩) (hw _ (List.mem_of_getElem? (i := 49) rfl)) (ty := (.array .int)) (by decide) rfl rfl (g := (mkF m 6 #[.val (.ref a1), .val (.ref x1), .val (.ref x2), .val (.ref x3)] [(.ref x1), (.ref a1)])) rfl rfl (hb hby d8_6)
  have pre6 : ∀ t, Steps p.tables e below (T5.setTop (mkF m 9 #[.val (.ref a1), .val (.ref x1), .val (.ref x2), .val (.ref x3)] [])) t → Steps p.tables e below (s₁.setTop (entryFrame m #[(.ref a1), (.ref x1), (.ref x2), (.ref x3)] 4)) t := fun t kT => pre4 t (st5 t kT)
  have N5 := Fr.snoc X5 N0 g1
  have F1_e5 : Fld Z h5 a1 "com/example/esteem/esteem/index/Postings" "starts" "[I" .null := F1.other W5 (Or.inr (slot_ne (Or.inr (hw _ (List.mem_of_getElem? (i := 67) rfl))) (Or.inr (hw _ (List.mem_of_getElem? (i := 65) rfl))) (by decide) (t := (.array .int)) (t' := (.array .int)) (by decide) (by decide)))
  have F2_e5 : Fld Z h5 a1 "com/example/esteem/esteem/index/Postings" "positions" "[I" .null := F2.other W5 (Or.inr (slot_ne (Or.inr (hw _ (List.mem_of_getElem? (i := 69) rfl))) (Or.inr (hw _ (List.mem_of_getElem? (i := 65) rfl))) (by decide) (t := (.array .int)) (t' := (.array .int)) (by decide) (by decide)))
  have E0_e5 : Exa Z h5 a1 "com/example/esteem/esteem/index/Postings" := E0.wr W5
  have sz5 : n0 ≤ h5.size := Nat.le_trans Z0 (Keep.of_wr W5).1
  have KK5 : Keep h0 h5 [a1] := (Keep.refl h0 [a1]).wr W5 (Or.inl (List.mem_of_getElem? (i := 0) rfl))
  have F_a1_docs_e5 : Fld Z h5 a1 "com/example/esteem/esteem/index/Postings" "docs" "[I" (.ref x1) := F0.same W5
  have pre7 : ∀ t, Steps p.tables e below (T5.setTop (mkF m 11 #[.val (.ref a1), .val (.ref x1), .val (.ref x2), .val (.ref x3)] [(.ref x2), (.ref a1)])) t → Steps p.tables e below (s₁.setTop (entryFrame m #[(.ref a1), (.ref x1), (.ref x2), (.ref x3)] 4)) t := fun t kT => pre6 t (by
    show Steps p.tables e below (T5.setTop (mkF m 9 #[.val (.ref a1), .val (.ref x1), .val (.ref x2), .val (.ref x3)] [])) _
    refine XS.aloadN X5.here hx rfl (hb hby d8_9) rfl rfl ?_
    show Steps p.tables e below (T5.setTop (mkF m 10 #[.val (.ref a1), .val (.ref x1), .val (.ref x2), .val (.ref x3)] [(.ref a1)])) _
    refine XS.aloadN X5.here hx rfl (hb hby d8_10) rfl rfl ?_
    exact kT)
  obtain ⟨T8, h8, X8, e8, W8, st8⟩ := putF X5 hx hZ hown (host := "") (Or.inl (hw _ (List.mem_of_getElem? (i := 66) rfl))) Via.refl e5 F1_e5 E0_e5 (Or.inr ⟨(hw _ (List.mem_of_getElem? (i := 67) rfl)), rfl, hnm⟩) (hw _ (List.mem_of_getElem? (i := 49) rfl)) (ty := (.array .int)) (by decide) rfl rfl (g := (mkF m 11 #[.val (.ref a1), .val (.ref x1), .val (.ref x2), .val (.ref x3)] [(.ref x2), (.ref a1)])) rfl rfl (hb hby d8_11)
  have pre9 : ∀ t, Steps p.tables e below (T8.setTop (mkF m 14 #[.val (.ref a1), .val (.ref x1), .val (.ref x2), .val (.ref x3)] [])) t → Steps p.tables e below (s₁.setTop (entryFrame m #[(.ref a1), (.ref x1), (.ref x2), (.ref x3)] 4)) t := fun t kT => pre7 t (st8 t kT)
  have N8 := Fr.snoc X8 N5 g1
  have F_a1_docs_e8 : Fld Z h8 a1 "com/example/esteem/esteem/index/Postings" "docs" "[I" (.ref x1) := F_a1_docs_e5.other W8 (Or.inr (slot_ne (Or.inr (hw _ (List.mem_of_getElem? (i := 65) rfl))) (Or.inr (hw _ (List.mem_of_getElem? (i := 67) rfl))) (by decide) (t := (.array .int)) (t' := (.array .int)) (by decide) (by decide)))
  have F2_e8 : Fld Z h8 a1 "com/example/esteem/esteem/index/Postings" "positions" "[I" .null := F2_e5.other W8 (Or.inr (slot_ne (Or.inr (hw _ (List.mem_of_getElem? (i := 69) rfl))) (Or.inr (hw _ (List.mem_of_getElem? (i := 67) rfl))) (by decide) (t := (.array .int)) (t' := (.array .int)) (by decide) (by decide)))
  have E0_e8 : Exa Z h8 a1 "com/example/esteem/esteem/index/Postings" := E0_e5.wr W8
  have sz8 : n0 ≤ h8.size := Nat.le_trans sz5 (Keep.of_wr W8).1
  have KK8 : Keep h0 h8 [a1] := KK5.wr W8 (Or.inl (List.mem_of_getElem? (i := 0) rfl))
  have F_a1_starts_e8 : Fld Z h8 a1 "com/example/esteem/esteem/index/Postings" "starts" "[I" (.ref x2) := F1_e5.same W8
  have pre10 : ∀ t, Steps p.tables e below (T8.setTop (mkF m 16 #[.val (.ref a1), .val (.ref x1), .val (.ref x2), .val (.ref x3)] [(.ref x3), (.ref a1)])) t → Steps p.tables e below (s₁.setTop (entryFrame m #[(.ref a1), (.ref x1), (.ref x2), (.ref x3)] 4)) t := fun t kT => pre9 t (by
    show Steps p.tables e below (T8.setTop (mkF m 14 #[.val (.ref a1), .val (.ref x1), .val (.ref x2), .val (.ref x3)] [])) _
    refine XS.aloadN X8.here hx rfl (hb hby d8_14) rfl rfl ?_
    show Steps p.tables e below (T8.setTop (mkF m 15 #[.val (.ref a1), .val (.ref x1), .val (.ref x2), .val (.ref x3)] [(.ref a1)])) _
    refine XS.aloadN X8.here hx rfl (hb hby d8_15) rfl rfl ?_
    exact kT)
  obtain ⟨T11, h11, X11, e11, W11, st11⟩ := putF X8 hx hZ hown (host := "") (Or.inl (hw _ (List.mem_of_getElem? (i := 68) rfl))) Via.refl e8 F2_e8 E0_e8 (Or.inr ⟨(hw _ (List.mem_of_getElem? (i := 69) rfl)), rfl, hnm⟩) (hw _ (List.mem_of_getElem? (i := 49) rfl)) (ty := (.array .int)) (by decide) rfl rfl (g := (mkF m 16 #[.val (.ref a1), .val (.ref x1), .val (.ref x2), .val (.ref x3)] [(.ref x3), (.ref a1)])) rfl rfl (hb hby d8_16)
  have pre12 : ∀ t, Steps p.tables e below (T11.setTop (mkF m 19 #[.val (.ref a1), .val (.ref x1), .val (.ref x2), .val (.ref x3)] [])) t → Steps p.tables e below (s₁.setTop (entryFrame m #[(.ref a1), (.ref x1), (.ref x2), (.ref x3)] 4)) t := fun t kT => pre10 t (st11 t kT)
  have N11 := Fr.snoc X11 N8 g1
  have F_a1_docs_e11 : Fld Z h11 a1 "com/example/esteem/esteem/index/Postings" "docs" "[I" (.ref x1) := F_a1_docs_e8.other W11 (Or.inr (slot_ne (Or.inr (hw _ (List.mem_of_getElem? (i := 65) rfl))) (Or.inr (hw _ (List.mem_of_getElem? (i := 69) rfl))) (by decide) (t := (.array .int)) (t' := (.array .int)) (by decide) (by decide)))
  have F_a1_starts_e11 : Fld Z h11 a1 "com/example/esteem/esteem/index/Postings" "starts" "[I" (.ref x2) := F_a1_starts_e8.other W11 (Or.inr (slot_ne (Or.inr (hw _ (List.mem_of_getElem? (i := 67) rfl))) (Or.inr (hw _ (List.mem_of_getElem? (i := 69) rfl))) (by decide) (t := (.array .int)) (t' := (.array .int)) (by decide) (by decide)))
  have E0_e11 : Exa Z h11 a1 "com/example/esteem/esteem/index/Postings" := E0_e8.wr W11
  have sz11 : n0 ≤ h11.size := Nat.le_trans sz8 (Keep.of_wr W11).1
  have KK11 : Keep h0 h11 [a1] := KK8.wr W11 (Or.inl (List.mem_of_getElem? (i := 0) rfl))
  have F_a1_positions_e11 : Fld Z h11 a1 "com/example/esteem/esteem/index/Postings" "positions" "[I" (.ref x3) := F2_e8.same W11
  have pre13 : ∀ t, Steps p.tables e below (T11.setTop (mkF m 19 #[.val (.ref a1), .val (.ref x1), .val (.ref x2), .val (.ref x3)] [])) t → Steps p.tables e below (s₁.setTop (entryFrame m #[(.ref a1), (.ref x1), (.ref x2), (.ref x3)] 4)) t := fun t kT => pre12 t (by
    exact kT)
  obtain ⟨fs, hr, hrun, hended, hW, hsame⟩ := X11.leave (v := none) (fun _ => rfl)
  refine ⟨_, _, pre13 _ ?_, hrun, hended, _, _, rfl, ?_, ⟨_, rfl⟩, hW, hsame.mono (by decide) (by decide)⟩
  · exact X11.returnOut hx Bd.returns (hb hby d8_19) hr
  · show Q_rmPI Z a1 x1 x2 x3 h0 n0 _ T11.heap _
    rw [e11]
    exact ⟨rfl, N11, KK11, F_a1_docs_e11, F_a1_starts_e11, F_a1_positions_e11⟩
theorem ef_rmBU (m : MethodId) (x0 : Addr) : entryFrame m #[(.ref x0)] 1 = mkF m 0 #[.val (.ref x0)] [] := by first | (simp [entryFrame, mkF, argsToLocals, Value.category]; done) | rfl
theorem d7_0 : decode prog_22_method_3_code 0 = .ok (.new 45, 3) := by decide +kernel
theorem d7_3 : decode prog_22_method_3_code 3 = .ok (.dup, 1) := by decide +kernel
theorem d7_4 : decode prog_22_method_3_code 4 = .ok (.aload_n 0, 1) := by decide +kernel
theorem d7_5 : decode prog_22_method_3_code 5 = .ok (.getfield 7, 3) := by decide +kernel
theorem d7_8 : decode prog_22_method_3_code 8 = .ok (.aload_n 0, 1) := by decide +kernel
theorem d7_9 : decode prog_22_method_3_code 9 = .ok (.getfield 19, 3) := by decide +kernel
theorem d7_12 : decode prog_22_method_3_code 12 = .ok (.invokestatic 36, 3) := by decide +kernel
theorem d7_15 : decode prog_22_method_3_code 15 = .ok (.aload_n 0, 1) := by decide +kernel
theorem d7_16 : decode prog_22_method_3_code 16 = .ok (.getfield 13, 3) := by decide +kernel
theorem d7_19 : decode prog_22_method_3_code 19 = .ok (.aload_n 0, 1) := by decide +kernel
theorem d7_20 : decode prog_22_method_3_code 20 = .ok (.getfield 19, 3) := by decide +kernel
theorem d7_23 : decode prog_22_method_3_code 23 = .ok (.iconst 1, 1) := by decide +kernel
theorem d7_24 : decode prog_22_method_3_code 24 = .ok (.iadd, 1) := by decide +kernel
theorem d7_25 : decode prog_22_method_3_code 25 = .ok (.invokestatic 36, 3) := by decide +kernel
theorem d7_28 : decode prog_22_method_3_code 28 = .ok (.aload_n 0, 1) := by decide +kernel
theorem d7_29 : decode prog_22_method_3_code 29 = .ok (.getfield 16, 3) := by decide +kernel
theorem d7_32 : decode prog_22_method_3_code 32 = .ok (.aload_n 0, 1) := by decide +kernel
theorem d7_33 : decode prog_22_method_3_code 33 = .ok (.getfield 42, 3) := by decide +kernel
theorem d7_36 : decode prog_22_method_3_code 36 = .ok (.invokestatic 36, 3) := by decide +kernel
theorem d7_39 : decode prog_22_method_3_code 39 = .ok (.invokespecial 47, 3) := by decide +kernel
theorem pd___I_I_I_V : parseMethodDescriptor "([I[I[I)V" = some ⟨[(.array .int), (.array .int), (.array .int)], none⟩ := by decide +kernel
theorem d7_42 : decode prog_22_method_3_code 42 = .ok (.areturn, 1) := by decide +kernel
def Q_rmBU (Z : State) (a1 : Addr) (dd ds dp : Addr) (dl sl pl dc pc : Nat) (df sf pf : Nat → Int32) (h0 : Heap) (n0 : Nat) (v : Option Value) (h : Heap) (L : List Loc) : Prop := ∃ r xd xs xp, v = some (.ref r) ∧ Fr n0 L ∧ Keep h0 h [] ∧ own_Po Z h n0 r xd xs xp dc pc df sf pf
set_option maxRecDepth 65536 in
set_option maxHeartbeats 40000000 in
theorem rmBU (l : Launch) (Z : State) (a0 : Array Value) (hw : ∀ d ∈ tables_1, d.before a0 Z = true) (ws : List Jvm.Cond) (a1 : Addr) (dd ds dp : Addr) (dl sl pl dc pc : Nat) (df sf pf : Nat → Int32) (h0 : Heap) (n0 : Nat) (Z0 : n0 ≤ h0.size) (B : own_Bd Z h0 n0 a1 dd ds dp dl sl pl dc (dc + 1) pc df sf pf) (hdc : dc ≤ 3) (hpc : pc ≤ 3) :
    MetFree l (⟨"com/example/esteem/esteem/index/Postings$Builder", "build", "()Lcom/example/esteem/esteem/index/Postings;"⟩ : MethodName) (head1 (Jvm.Cond.code (⟨"com/example/esteem/esteem/index/Postings$Builder", "build", "()Lcom/example/esteem/esteem/index/Postings;"⟩ : MethodName) prog_22_method_3_code 1 (some (.object "com/example/esteem/esteem/index/Postings")) :: ws) ({ frames := 3, cells := 4, slots := 13, locals := 90 } : Room)) (fun a U => a = #[(.ref a1)] ∧ Z.Warmed39 U.vm ∧ U.heap = h0) (fun _ _ _ _ _ => True) (fun _ U o U' => ∃ v L, o = .returned v ∧ Q_rmBU Z a1 dd ds dp dl sl pl dc pc df sf pf h0 n0 v U'.heap L ∧ FrameEnd U o U' L ({ frames := 3, cells := 4, slots := 13, locals := 90 } : Room).cells ({ frames := 3, cells := 4, slots := 13, locals := 90 } : Room).slots) := by
  refine MetFree.of_bodySF (plainFor_of_name pn_com_example_esteem_esteem_index_Postings_Builder) hisR ?_
  intro p e s m args below meth c s₁ Bd hml0 hP hK
  obtain ⟨rfl, hZ, hh⟩ := hP
  have hx := Bd.exec
  have hby := Bd.bytes
  have hml : c.maxLocals = 1 := hml0
  have hown : s.vm.findClass "com/example/esteem/esteem/index/Postings$Builder" = some m.cls := findClass_of_methodNamed Bd.named
  have hnm := (name_of_methodNamed Bd.named Bd.method).1
  have X0 : Stand p l e ({ frames := 3, cells := 4, slots := 13, locals := 90 } : Room) s m #[(.ref a1)] below meth c s₁ [] 0 0 := Stand.of_body Bd
  have e0 : s₁.heap = h0 := by rw [← hh, Bd.state]; rfl
  have N0 := Fr.nil n0
  have pre0 : ∀ t, Steps p.tables e below (s₁.setTop (mkF m 0 #[.val (.ref a1)] [])) t → Steps p.tables e below (s₁.setTop (entryFrame m #[(.ref a1)] 1)) t := fun t kT => castTop (ef_rmBU m a1) kT
  obtain ⟨ks, hks⟩ : ∃ ks, ks = dc + 1 := ⟨_, rfl⟩
  rw [← hks] at B
  obtain ⟨⟨F0, F1, F2, F3, F4, E0⟩, ⟨⟨gd, VD, hgd⟩, ⟨gs, VS, hgs⟩, ⟨gp, VP, hgp⟩⟩, ⟨n1, n2, n3, n4, n5, n6⟩, ⟨q0, q1, q2, q3⟩, ⟨b0, b1, b2, b3, b4, b5, b6, b7⟩⟩ := id B
  have pre1 : ∀ t, Steps p.tables e below (s₁.setTop (mkF m 0 #[.val (.ref a1)] [])) t → Steps p.tables e below (s₁.setTop (entryFrame m #[(.ref a1)] 1)) t := fun t kT => pre0 t (by
    exact kT)
  obtain ⟨T2, h2, X2, e2, E2, A2, D2, -, st2⟩ := newO X0 hx hZ hown (hw _ (List.mem_of_getElem? (i := 48) rfl)) (hw _ (List.mem_of_getElem? (i := 49) rfl)) (hw _ (List.mem_of_getElem? (i := 50) rfl)) e0 (g := (mkF m 0 #[.val (.ref a1)] [])) rfl (hb hby d7_0) (by decide) (by decide)
  obtain ⟨b1, g2⟩ : ∃ z, z = h0.size := ⟨_, rfl⟩
  rw [← g2] at A2 D2 st2
  have pre3 : ∀ t, Steps p.tables e below (T2.setTop (mkF m 3 #[.val (.ref a1)] [(.ref b1)])) t → Steps p.tables e below (s₁.setTop (entryFrame m #[(.ref a1)] 1)) t := fun t kT => pre1 t (st2 t kT)
  have ne_a1_b1 : a1 ≠ b1 := Nat.ne_of_lt (Nat.lt_of_lt_of_le F0.lt (Nat.le_of_eq g2.symm))
  have ne_dd_b1 : dd ≠ b1 := Nat.ne_of_lt (Nat.lt_of_lt_of_le VD.lt (Nat.le_of_eq g2.symm))
  have ne_ds_b1 : ds ≠ b1 := Nat.ne_of_lt (Nat.lt_of_lt_of_le VS.lt (Nat.le_of_eq g2.symm))
  have ne_dp_b1 : dp ≠ b1 := Nat.ne_of_lt (Nat.lt_of_lt_of_le VP.lt (Nat.le_of_eq g2.symm))
  have g_b1 : n0 ≤ b1 := Nat.le_trans Z0 (Nat.le_of_eq g2.symm)
  have fr_b1 : h0.size ≤ b1 := Nat.le_trans (Keep.refl h0 []).1 (Nat.le_of_eq g2.symm)
  have F0_e2 : Fld Z h2 a1 "com/example/esteem/esteem/index/Postings$Builder" "docs" "[I" (.ref dd) := F0.ext E2
  have F1_e2 : Fld Z h2 a1 "com/example/esteem/esteem/index/Postings$Builder" "starts" "[I" (.ref ds) := F1.ext E2
  have F2_e2 : Fld Z h2 a1 "com/example/esteem/esteem/index/Postings$Builder" "positions" "[I" (.ref dp) := F2.ext E2
  have F3_e2 : Fld Z h2 a1 "com/example/esteem/esteem/index/Postings$Builder" "docCount" "I" (.int (Int32.ofNat dc)) := F3.ext E2
  have F4_e2 : Fld Z h2 a1 "com/example/esteem/esteem/index/Postings$Builder" "positionCount" "I" (.int (Int32.ofNat pc)) := F4.ext E2
  have E0_e2 : Exa Z h2 a1 "com/example/esteem/esteem/index/Postings$Builder" := E0.ext E2
  have VD_e2 : own_Ar Z h2 dd .int dl (fun i => .int (gd i)) := VD.ext E2
  have VS_e2 : own_Ar Z h2 ds .int sl (fun i => .int (gs i)) := VS.ext E2
  have VP_e2 : own_Ar Z h2 dp .int pl (fun i => .int (gp i)) := VP.ext E2
  have sz2 : n0 ≤ h2.size := Nat.le_trans Z0 E2.1
  have KK2 : Keep h0 h2 [] := (Keep.refl h0 []).ext E2
  have F_b1_docs : Fld Z h2 b1 "com/example/esteem/esteem/index/Postings" "docs" "[I" .null := D2 (Or.inr (hw _ (List.mem_of_getElem? (i := 65) rfl))) (ty := (.array .int)) (by decide)
  have F_b1_starts : Fld Z h2 b1 "com/example/esteem/esteem/index/Postings" "starts" "[I" .null := D2 (Or.inr (hw _ (List.mem_of_getElem? (i := 67) rfl))) (ty := (.array .int)) (by decide)
  have F_b1_positions : Fld Z h2 b1 "com/example/esteem/esteem/index/Postings" "positions" "[I" .null := D2 (Or.inr (hw _ (List.mem_of_getElem? (i := 69) rfl))) (ty := (.array .int)) (by decide)
  have pre4 : ∀ t, Steps p.tables e below (T2.setTop (mkF m 5 #[.val (.ref a1)] [(.ref a1), (.ref b1), (.ref b1)])) t → Steps p.tables e below (s₁.setTop (entryFrame m #[(.ref a1)] 1)) t := fun t kT => pre3 t (by
    show Steps p.tables e below (T2.setTop (mkF m 3 #[.val (.ref a1)] [(.ref b1)])) _
    refine XS.dup X2.here hx rfl (hb hby d7_3) rfl rfl ?_
    show Steps p.tables e below (T2.setTop (mkF m 4 #[.val (.ref a1)] [(.ref b1), (.ref b1)])) _
    refine XS.aloadN X2.here hx rfl (hb hby d7_4) rfl rfl ?_
    exact kT)
  obtain ⟨T5, X5, e5, st5⟩ := getF X2 hx hZ hown (host := "") (Or.inl (hw _ (List.mem_of_getElem? (i := 12) rfl))) Via.refl e2 F0_e2 (g := (mkF m 5 #[.val (.ref a1)] [(.ref a1), (.ref b1), (.ref b1)])) rfl rfl (hb hby d7_5)
  have pre6 : ∀ t, Steps p.tables e below (T5.setTop (mkF m 8 #[.val (.ref a1)] [(.ref dd), (.ref b1), (.ref b1)])) t → Steps p.tables e below (s₁.setTop (entryFrame m #[(.ref a1)] 1)) t := fun t kT => pre4 t (st5 t kT)
  have pre7 : ∀ t, Steps p.tables e below (T5.setTop (mkF m 9 #[.val (.ref a1)] [(.ref a1), (.ref dd), (.ref b1), (.ref b1)])) t → Steps p.tables e below (s₁.setTop (entryFrame m #[(.ref a1)] 1)) t := fun t kT => pre6 t (by
    show Steps p.tables e below (T5.setTop (mkF m 8 #[.val (.ref a1)] [(.ref dd), (.ref b1), (.ref b1)])) _
    refine XS.aloadN X5.here hx rfl (hb hby d7_8) rfl rfl ?_
    exact kT)
  obtain ⟨T8, X8, e8, st8⟩ := getF X5 hx hZ hown (host := "") (Or.inl (hw _ (List.mem_of_getElem? (i := 23) rfl))) Via.refl e5 F3_e2 (g := (mkF m 9 #[.val (.ref a1)] [(.ref a1), (.ref dd), (.ref b1), (.ref b1)])) rfl rfl (hb hby d7_9)
  have pre9 : ∀ t, Steps p.tables e below (T8.setTop (mkF m 12 #[.val (.ref a1)] [(.int (Int32.ofNat dc)), (.ref dd), (.ref b1), (.ref b1)])) t → Steps p.tables e below (s₁.setTop (entryFrame m #[(.ref a1)] 1)) t := fun t kT => pre7 t (st8 t kT)
  have pre10 : ∀ t, Steps p.tables e below (T8.setTop (mkF m 12 #[.val (.ref a1)] [(.int (Int32.ofNat dc)), (.ref dd), (.ref b1), (.ref b1)])) t → Steps p.tables e below (s₁.setTop (entryFrame m #[(.ref a1)] 1)) t := fun t kT => pre9 t (by
    exact kT)
  obtain ⟨T11, h11, X11, e11, E11, A11, st11⟩ := own_copy X8 hx hZ hown (hw _ (List.mem_of_getElem? (i := 31) rfl)) (hw _ (List.mem_of_getElem? (i := 32) rfl)) (fun a' => own_tab hZ hw a') (hw _ (List.mem_of_getElem? (i := 33) rfl)) (hw _ (List.mem_of_getElem? (i := 34) rfl)) e8 VD_e2 (by omega) (by omega) (g := (mkF m 12 #[.val (.ref a1)] [(.int (Int32.ofNat dc)), (.ref dd), (.ref b1), (.ref b1)])) rfl (by rw [hml]; rfl) rfl (W := 2) (by show 2 * 0 + _ ≤ _; exact Nat.le_of_eq rfl) (hb hby d7_12) (by decide) (by decide) (by decide) (by show 0 + 3 + dc ≤ 13; omega)
  obtain ⟨xd, g11⟩ : ∃ z, z = h2.size := ⟨_, rfl⟩
  rw [← g11] at A11 st11
  have ne_a1_xd : a1 ≠ xd := Nat.ne_of_lt (Nat.lt_of_lt_of_le F0_e2.lt (Nat.le_of_eq g11.symm))
  have ne_dd_xd : dd ≠ xd := Nat.ne_of_lt (Nat.lt_of_lt_of_le VD_e2.lt (Nat.le_of_eq g11.symm))
  have ne_ds_xd : ds ≠ xd := Nat.ne_of_lt (Nat.lt_of_lt_of_le VS_e2.lt (Nat.le_of_eq g11.symm))
  have ne_dp_xd : dp ≠ xd := Nat.ne_of_lt (Nat.lt_of_lt_of_le VP_e2.lt (Nat.le_of_eq g11.symm))
  have ne_b1_xd : b1 ≠ xd := Nat.ne_of_lt (Nat.lt_of_lt_of_le A2.lt (Nat.le_of_eq g11.symm))
  have g_xd : n0 ≤ xd := Nat.le_trans sz2 (Nat.le_of_eq g11.symm)
  have fr_xd : h0.size ≤ xd := Nat.le_trans KK2.1 (Nat.le_of_eq g11.symm)
  have pre12 : ∀ t, Steps p.tables e below (T11.setTop (mkF m 15 #[.val (.ref a1)] [(.ref xd), (.ref b1), (.ref b1)])) t → Steps p.tables e below (s₁.setTop (entryFrame m #[(.ref a1)] 1)) t := fun t kT => pre10 t (st11 t kT)
  have F0_e11 : Fld Z h11 a1 "com/example/esteem/esteem/index/Postings$Builder" "docs" "[I" (.ref dd) := F0_e2.ext E11
  have F1_e11 : Fld Z h11 a1 "com/example/esteem/esteem/index/Postings$Builder" "starts" "[I" (.ref ds) := F1_e2.ext E11
  have F2_e11 : Fld Z h11 a1 "com/example/esteem/esteem/index/Postings$Builder" "positions" "[I" (.ref dp) := F2_e2.ext E11
  have F3_e11 : Fld Z h11 a1 "com/example/esteem/esteem/index/Postings$Builder" "docCount" "I" (.int (Int32.ofNat dc)) := F3_e2.ext E11
  have F4_e11 : Fld Z h11 a1 "com/example/esteem/esteem/index/Postings$Builder" "positionCount" "I" (.int (Int32.ofNat pc)) := F4_e2.ext E11
  have E0_e11 : Exa Z h11 a1 "com/example/esteem/esteem/index/Postings$Builder" := E0_e2.ext E11
  have VD_e11 : own_Ar Z h11 dd .int dl (fun i => .int (gd i)) := VD_e2.ext E11
  have VS_e11 : own_Ar Z h11 ds .int sl (fun i => .int (gs i)) := VS_e2.ext E11
  have VP_e11 : own_Ar Z h11 dp .int pl (fun i => .int (gp i)) := VP_e2.ext E11
  have A2_e11 : Exa Z h11 b1 "com/example/esteem/esteem/index/Postings" := A2.ext E11
  have F_b1_docs_e11 : Fld Z h11 b1 "com/example/esteem/esteem/index/Postings" "docs" "[I" .null := F_b1_docs.ext E11
  have F_b1_starts_e11 : Fld Z h11 b1 "com/example/esteem/esteem/index/Postings" "starts" "[I" .null := F_b1_starts.ext E11
  have F_b1_positions_e11 : Fld Z h11 b1 "com/example/esteem/esteem/index/Postings" "positions" "[I" .null := F_b1_positions.ext E11
  have sz11 : n0 ≤ h11.size := Nat.le_trans sz2 E11.1
  have KK11 : Keep h0 h11 [] := KK2.ext E11
  have V_xd : own_Ar Z h11 xd .int dc (fun i => .int (if i < dl then gd i else 0)) := A11
  have pre13 : ∀ t, Steps p.tables e below (T11.setTop (mkF m 16 #[.val (.ref a1)] [(.ref a1), (.ref xd), (.ref b1), (.ref b1)])) t → Steps p.tables e below (s₁.setTop (entryFrame m #[(.ref a1)] 1)) t := fun t kT => pre12 t (by
    show Steps p.tables e below (T11.setTop (mkF m 15 #[.val (.ref a1)] [(.ref xd), (.ref b1), (.ref b1)])) _
    refine XS.aloadN X11.here hx rfl (hb hby d7_15) rfl rfl ?_
    exact kT)
  obtain ⟨T14, X14, e14, st14⟩ := getF X11 hx hZ hown (host := "") (Or.inl (hw _ (List.mem_of_getElem? (i := 14) rfl))) Via.refl e11 F1_e11 (g := (mkF m 16 #[.val (.ref a1)] [(.ref a1), (.ref xd), (.ref b1), (.ref b1)])) rfl rfl (hb hby d7_16)
  have pre15 : ∀ t, Steps p.tables e below (T14.setTop (mkF m 19 #[.val (.ref a1)] [(.ref ds), (.ref xd), (.ref b1), (.ref b1)])) t → Steps p.tables e below (s₁.setTop (entryFrame m #[(.ref a1)] 1)) t := fun t kT => pre13 t (st14 t kT)
  have pre16 : ∀ t, Steps p.tables e below (T14.setTop (mkF m 20 #[.val (.ref a1)] [(.ref a1), (.ref ds), (.ref xd), (.ref b1), (.ref b1)])) t → Steps p.tables e below (s₁.setTop (entryFrame m #[(.ref a1)] 1)) t := fun t kT => pre15 t (by
    show Steps p.tables e below (T14.setTop (mkF m 19 #[.val (.ref a1)] [(.ref ds), (.ref xd), (.ref b1), (.ref b1)])) _
    refine XS.aloadN X14.here hx rfl (hb hby d7_19) rfl rfl ?_
    exact kT)
  obtain ⟨T17, X17, e17, st17⟩ := getF X14 hx hZ hown (host := "") (Or.inl (hw _ (List.mem_of_getElem? (i := 23) rfl))) Via.refl e14 F3_e11 (g := (mkF m 20 #[.val (.ref a1)] [(.ref a1), (.ref ds), (.ref xd), (.ref b1), (.ref b1)])) rfl rfl (hb hby d7_20)
  have pre18 : ∀ t, Steps p.tables e below (T17.setTop (mkF m 23 #[.val (.ref a1)] [(.int (Int32.ofNat dc)), (.ref ds), (.ref xd), (.ref b1), (.ref b1)])) t → Steps p.tables e below (s₁.setTop (entryFrame m #[(.ref a1)] 1)) t := fun t kT => pre16 t (st17 t kT)
  have pre19 : ∀ t, Steps p.tables e below (T17.setTop (mkF m 25 #[.val (.ref a1)] [(.int ((Int32.ofNat dc) + (1 : Int32))), (.ref ds), (.ref xd), (.ref b1), (.ref b1)])) t → Steps p.tables e below (s₁.setTop (entryFrame m #[(.ref a1)] 1)) t := fun t kT => pre18 t (by
    show Steps p.tables e below (T17.setTop (mkF m 23 #[.val (.ref a1)] [(.int (Int32.ofNat dc)), (.ref ds), (.ref xd), (.ref b1), (.ref b1)])) _
    refine XS.iconst X17.here hx rfl (hb hby d7_23) ?_
    show Steps p.tables e below (T17.setTop (mkF m 24 #[.val (.ref a1)] [(.int (1 : Int32)), (.int (Int32.ofNat dc)), (.ref ds), (.ref xd), (.ref b1), (.ref b1)])) _
    refine XS.iadd X17.here hx rfl (hb hby d7_24) rfl ?_
    exact kT)
  rw [own_one] at pre19
  have pre20 : ∀ t, Steps p.tables e below (T17.setTop (mkF m 25 #[.val (.ref a1)] [(.int (Int32.ofNat (dc + 1))), (.ref ds), (.ref xd), (.ref b1), (.ref b1)])) t → Steps p.tables e below (s₁.setTop (entryFrame m #[(.ref a1)] 1)) t := fun t kT => pre19 t (by
    exact kT)
  obtain ⟨T21, h21, X21, e21, E21, A21, st21⟩ := own_copy X17 hx hZ hown (hw _ (List.mem_of_getElem? (i := 31) rfl)) (hw _ (List.mem_of_getElem? (i := 32) rfl)) (fun a' => own_tab hZ hw a') (hw _ (List.mem_of_getElem? (i := 33) rfl)) (hw _ (List.mem_of_getElem? (i := 34) rfl)) e17 VS_e11 (by omega) (by omega) (g := (mkF m 25 #[.val (.ref a1)] [(.int (Int32.ofNat (dc + 1))), (.ref ds), (.ref xd), (.ref b1), (.ref b1)])) rfl (by rw [hml]; rfl) rfl (W := 3) (by show 2 * 0 + _ ≤ _; exact Nat.le_of_eq rfl) (hb hby d7_25) (by decide) (by decide) (by decide) (by show 0 + 3 + dc + (dc + 1) ≤ 13; omega)
  obtain ⟨xs, g21⟩ : ∃ z, z = h11.size := ⟨_, rfl⟩
  rw [← g21] at A21 st21
  have ne_a1_xs : a1 ≠ xs := Nat.ne_of_lt (Nat.lt_of_lt_of_le F0_e11.lt (Nat.le_of_eq g21.symm))
  have ne_dd_xs : dd ≠ xs := Nat.ne_of_lt (Nat.lt_of_lt_of_le VD_e11.lt (Nat.le_of_eq g21.symm))
  have ne_ds_xs : ds ≠ xs := Nat.ne_of_lt (Nat.lt_of_lt_of_le VS_e11.lt (Nat.le_of_eq g21.symm))
  have ne_dp_xs : dp ≠ xs := Nat.ne_of_lt (Nat.lt_of_lt_of_le VP_e11.lt (Nat.le_of_eq g21.symm))
  have ne_b1_xs : b1 ≠ xs := Nat.ne_of_lt (Nat.lt_of_lt_of_le A2_e11.lt (Nat.le_of_eq g21.symm))
  have ne_xd_xs : xd ≠ xs := Nat.ne_of_lt (Nat.lt_of_lt_of_le V_xd.lt (Nat.le_of_eq g21.symm))
  have g_xs : n0 ≤ xs := Nat.le_trans sz11 (Nat.le_of_eq g21.symm)
  have fr_xs : h0.size ≤ xs := Nat.le_trans KK11.1 (Nat.le_of_eq g21.symm)
  have pre22 : ∀ t, Steps p.tables e below (T21.setTop (mkF m 28 #[.val (.ref a1)] [(.ref xs), (.ref xd), (.ref b1), (.ref b1)])) t → Steps p.tables e below (s₁.setTop (entryFrame m #[(.ref a1)] 1)) t := fun t kT => pre20 t (st21 t kT)
  have F0_e21 : Fld Z h21 a1 "com/example/esteem/esteem/index/Postings$Builder" "docs" "[I" (.ref dd) := F0_e11.ext E21
  have F1_e21 : Fld Z h21 a1 "com/example/esteem/esteem/index/Postings$Builder" "starts" "[I" (.ref ds) := F1_e11.ext E21
  have F2_e21 : Fld Z h21 a1 "com/example/esteem/esteem/index/Postings$Builder" "positions" "[I" (.ref dp) := F2_e11.ext E21
  have F3_e21 : Fld Z h21 a1 "com/example/esteem/esteem/index/Postings$Builder" "docCount" "I" (.int (Int32.ofNat dc)) := F3_e11.ext E21
  have F4_e21 : Fld Z h21 a1 "com/example/esteem/esteem/index/Postings$Builder" "positionCount" "I" (.int (Int32.ofNat pc)) := F4_e11.ext E21
  have E0_e21 : Exa Z h21 a1 "com/example/esteem/esteem/index/Postings$Builder" := E0_e11.ext E21
  have VD_e21 : own_Ar Z h21 dd .int dl (fun i => .int (gd i)) := VD_e11.ext E21
  have VS_e21 : own_Ar Z h21 ds .int sl (fun i => .int (gs i)) := VS_e11.ext E21
  have VP_e21 : own_Ar Z h21 dp .int pl (fun i => .int (gp i)) := VP_e11.ext E21
  have A2_e21 : Exa Z h21 b1 "com/example/esteem/esteem/index/Postings" := A2_e11.ext E21
  have F_b1_docs_e21 : Fld Z h21 b1 "com/example/esteem/esteem/index/Postings" "docs" "[I" .null := F_b1_docs_e11.ext E21
  have F_b1_starts_e21 : Fld Z h21 b1 "com/example/esteem/esteem/index/Postings" "starts" "[I" .null := F_b1_starts_e11.ext E21
  have F_b1_positions_e21 : Fld Z h21 b1 "com/example/esteem/esteem/index/Postings" "positions" "[I" .null := F_b1_positions_e11.ext E21
  have V_xd_e21 : own_Ar Z h21 xd .int dc (fun i => .int (if i < dl then gd i else 0)) := V_xd.ext E21
  have sz21 : n0 ≤ h21.size := Nat.le_trans sz11 E21.1
  have KK21 : Keep h0 h21 [] := KK11.ext E21
  have V_xs : own_Ar Z h21 xs .int (dc + 1) (fun i => .int (if i < sl then gs i else 0)) := A21
  have pre23 : ∀ t, Steps p.tables e below (T21.setTop (mkF m 29 #[.val (.ref a1)] [(.ref a1), (.ref xs), (.ref xd), (.ref b1), (.ref b1)])) t → Steps p.tables e below (s₁.setTop (entryFrame m #[(.ref a1)] 1)) t := fun t kT => pre22 t (by
    show Steps p.tables e below (T21.setTop (mkF m 28 #[.val (.ref a1)] [(.ref xs), (.ref xd), (.ref b1), (.ref b1)])) _
    refine XS.aloadN X21.here hx rfl (hb hby d7_28) rfl rfl ?_
    exact kT)
  obtain ⟨T24, X24, e24, st24⟩ := getF X21 hx hZ hown (host := "") (Or.inl (hw _ (List.mem_of_getElem? (i := 16) rfl))) Via.refl e21 F2_e21 (g := (mkF m 29 #[.val (.ref a1)] [(.ref a1), (.ref xs), (.ref xd), (.ref b1), (.ref b1)])) rfl rfl (hb hby d7_29)
  have pre25 : ∀ t, Steps p.tables e below (T24.setTop (mkF m 32 #[.val (.ref a1)] [(.ref dp), (.ref xs), (.ref xd), (.ref b1), (.ref b1)])) t → Steps p.tables e below (s₁.setTop (entryFrame m #[(.ref a1)] 1)) t := fun t kT => pre23 t (st24 t kT)
  have pre26 : ∀ t, Steps p.tables e below (T24.setTop (mkF m 33 #[.val (.ref a1)] [(.ref a1), (.ref dp), (.ref xs), (.ref xd), (.ref b1), (.ref b1)])) t → Steps p.tables e below (s₁.setTop (entryFrame m #[(.ref a1)] 1)) t := fun t kT => pre25 t (by
    show Steps p.tables e below (T24.setTop (mkF m 32 #[.val (.ref a1)] [(.ref dp), (.ref xs), (.ref xd), (.ref b1), (.ref b1)])) _
    refine XS.aloadN X24.here hx rfl (hb hby d7_32) rfl rfl ?_
    exact kT)
  obtain ⟨T27, X27, e27, st27⟩ := getF X24 hx hZ hown (host := "") (Or.inl (hw _ (List.mem_of_getElem? (i := 25) rfl))) Via.refl e24 F4_e21 (g := (mkF m 33 #[.val (.ref a1)] [(.ref a1), (.ref dp), (.ref xs), (.ref xd), (.ref b1), (.ref b1)])) rfl rfl (hb hby d7_33)
  have pre28 : ∀ t, Steps p.tables e below (T27.setTop (mkF m 36 #[.val (.ref a1)] [(.int (Int32.ofNat pc)), (.ref dp), (.ref xs), (.ref xd), (.ref b1), (.ref b1)])) t → Steps p.tables e below (s₁.setTop (entryFrame m #[(.ref a1)] 1)) t := fun t kT => pre26 t (st27 t kT)
  have pre29 : ∀ t, Steps p.tables e below (T27.setTop (mkF m 36 #[.val (.ref a1)] [(.int (Int32.ofNat pc)), (.ref dp), (.ref xs), (.ref xd), (.ref b1), (.ref b1)])) t → Steps p.tables e below (s₁.setTop (entryFrame m #[(.ref a1)] 1)) t := fun t kT => pre28 t (by
    exact kT)
  obtain ⟨T30, h30, X30, e30, E30, A30, st30⟩ := own_copy X27 hx hZ hown (hw _ (List.mem_of_getElem? (i := 31) rfl)) (hw _ (List.mem_of_getElem? (i := 32) rfl)) (fun a' => own_tab hZ hw a') (hw _ (List.mem_of_getElem? (i := 33) rfl)) (hw _ (List.mem_of_getElem? (i := 34) rfl)) e27 VP_e21 (by omega) (by omega) (g := (mkF m 36 #[.val (.ref a1)] [(.int (Int32.ofNat pc)), (.ref dp), (.ref xs), (.ref xd), (.ref b1), (.ref b1)])) rfl (by rw [hml]; rfl) rfl (W := 4) (by show 2 * 0 + _ ≤ _; exact Nat.le_of_eq rfl) (hb hby d7_36) (by decide) (by decide) (by decide) (by show 0 + 3 + dc + (dc + 1) + pc ≤ 13; omega)
  obtain ⟨xp, g30⟩ : ∃ z, z = h21.size := ⟨_, rfl⟩
  rw [← g30] at A30 st30
  have ne_a1_xp : a1 ≠ xp := Nat.ne_of_lt (Nat.lt_of_lt_of_le F0_e21.lt (Nat.le_of_eq g30.symm))
  have ne_dd_xp : dd ≠ xp := Nat.ne_of_lt (Nat.lt_of_lt_of_le VD_e21.lt (Nat.le_of_eq g30.symm))
  have ne_ds_xp : ds ≠ xp := Nat.ne_of_lt (Nat.lt_of_lt_of_le VS_e21.lt (Nat.le_of_eq g30.symm))
  have ne_dp_xp : dp ≠ xp := Nat.ne_of_lt (Nat.lt_of_lt_of_le VP_e21.lt (Nat.le_of_eq g30.symm))
  have ne_b1_xp : b1 ≠ xp := Nat.ne_of_lt (Nat.lt_of_lt_of_le A2_e21.lt (Nat.le_of_eq g30.symm))
  have ne_xd_xp : xd ≠ xp := Nat.ne_of_lt (Nat.lt_of_lt_of_le V_xd_e21.lt (Nat.le_of_eq g30.symm))
  have ne_xs_xp : xs ≠ xp := Nat.ne_of_lt (Nat.lt_of_lt_of_le V_xs.lt (Nat.le_of_eq g30.symm))
  have g_xp : n0 ≤ xp := Nat.le_trans sz21 (Nat.le_of_eq g30.symm)
  have fr_xp : h0.size ≤ xp := Nat.le_trans KK21.1 (Nat.le_of_eq g30.symm)
  have pre31 : ∀ t, Steps p.tables e below (T30.setTop (mkF m 39 #[.val (.ref a1)] [(.ref xp), (.ref xs), (.ref xd), (.ref b1), (.ref b1)])) t → Steps p.tables e below (s₁.setTop (entryFrame m #[(.ref a1)] 1)) t := fun t kT => pre29 t (st30 t kT)
  have F0_e30 : Fld Z h30 a1 "com/example/esteem/esteem/index/Postings$Builder" "docs" "[I" (.ref dd) := F0_e21.ext E30
  have F1_e30 : Fld Z h30 a1 "com/example/esteem/esteem/index/Postings$Builder" "starts" "[I" (.ref ds) := F1_e21.ext E30
  have F2_e30 : Fld Z h30 a1 "com/example/esteem/esteem/index/Postings$Builder" "positions" "[I" (.ref dp) := F2_e21.ext E30
  have F3_e30 : Fld Z h30 a1 "com/example/esteem/esteem/index/Postings$Builder" "docCount" "I" (.int (Int32.ofNat dc)) := F3_e21.ext E30
  have F4_e30 : Fld Z h30 a1 "com/example/esteem/esteem/index/Postings$Builder" "positionCount" "I" (.int (Int32.ofNat pc)) := F4_e21.ext E30
  have E0_e30 : Exa Z h30 a1 "com/example/esteem/esteem/index/Postings$Builder" := E0_e21.ext E30
  have VD_e30 : own_Ar Z h30 dd .int dl (fun i => .int (gd i)) := VD_e21.ext E30
  have VS_e30 : own_Ar Z h30 ds .int sl (fun i => .int (gs i)) := VS_e21.ext E30
  have VP_e30 : own_Ar Z h30 dp .int pl (fun i => .int (gp i)) := VP_e21.ext E30
  have A2_e30 : Exa Z h30 b1 "com/example/esteem/esteem/index/Postings" := A2_e21.ext E30
  have F_b1_docs_e30 : Fld Z h30 b1 "com/example/esteem/esteem/index/Postings" "docs" "[I" .null := F_b1_docs_e21.ext E30
  have F_b1_starts_e30 : Fld Z h30 b1 "com/example/esteem/esteem/index/Postings" "starts" "[I" .null := F_b1_starts_e21.ext E30
  have F_b1_positions_e30 : Fld Z h30 b1 "com/example/esteem/esteem/index/Postings" "positions" "[I" .null := F_b1_positions_e21.ext E30
  have V_xd_e30 : own_Ar Z h30 xd .int dc (fun i => .int (if i < dl then gd i else 0)) := V_xd_e21.ext E30
  have V_xs_e30 : own_Ar Z h30 xs .int (dc + 1) (fun i => .int (if i < sl then gs i else 0)) := V_xs.ext E30
  have sz30 : n0 ≤ h30.size := Nat.le_trans sz21 E30.1
  have KK30 : Keep h0 h30 [] := KK21.ext E30
  have V_xp : own_Ar Z h30 xp .int pc (fun i => .int (if i < pl then gp i else 0)) := A30
  have XF := own_st2 X30 (show 0 + 1 + 1 + 1 + 1 ≤ 4 from by decide) (show 0 + 3 + dc + (dc + 1) + pc ≤ 13 from by omega)
  have pre32 : ∀ t, Steps p.tables e below (T30.setTop (mkF m 39 #[.val (.ref a1)] [(.ref xp), (.ref xs), (.ref xd), (.ref b1), (.ref b1)])) t → Steps p.tables e below (s₁.setTop (entryFrame m #[(.ref a1)] 1)) t := fun t kT => pre31 t (by
    exact kT)
  obtain ⟨_, _, ⟨T33, L33, k33, n33⟩, -, X33, ⟨Lc33, hQ33, l33, y33, z33⟩, st33⟩ := XF.specialBackNest hx (y := (⟨"com/example/esteem/esteem/index/Postings", "<init>", "([I[I[I)V"⟩ : MethodName)) rfl hown (own_mvn hZ (hw _ (List.mem_of_getElem? (i := 60) rfl))) (mvT hZ (hw _ (List.mem_of_getElem? (i := 61) rfl))) (mvT hZ (hw _ (List.mem_of_getElem? (i := 62) rfl))) (by decide) (backOf (W := 1) (rmPI l Z a0 hw [] b1 xd xs xp h30 n0 sz30 F_b1_docs_e30 F_b1_starts_e30 F_b1_positions_e30 A2_e30 g_b1) hZ (hw _ (List.mem_of_getElem? (i := 62) rfl)) (hw _ (List.mem_of_getElem? (i := 50) rfl)) (by decide) (by decide)) (g := (mkF m 39 #[.val (.ref a1)] [(.ref xp), (.ref xs), (.ref xd), (.ref b1), (.ref b1)])) rfl (by rw [hml]; rfl) (Steps.refl _) (a := b1) (argsL := [(.ref xd), (.ref xs), (.ref xp)]) (rest := [(.ref b1)]) (lenOf pd___I_I_I_V rfl) rfl (by show 2 * 0 + _ ≤ _; exact Nat.le_of_eq rfl) (hb hby d7_39) (fun _ _ => ⟨rfl, e30, (by decide : 4 + 0 ≤ _), (by decide : 13 + 0 ≤ _)⟩)
  dsimp only [Pt.U, Pt.locs, Pt.cells, Pt.slots] at X33 l33 y33 z33 st33 hQ33
  have X33 := own_st X33 (y33.trans (show _ = 4 from rfl)) (z33.trans (show _ = 13 from rfl))
  obtain ⟨rfl, N33q, ky1, f1, f2, f3⟩ := hQ33
  have N33 := own_fr l33 N0 N33q
  have pre34 : ∀ t, Steps p.tables e below (T33.setTop (mkF m 42 #[.val (.ref a1)] [(.ref b1)])) t → Steps p.tables e below (s₁.setTop (entryFrame m #[(.ref a1)] 1)) t := fun t kT => pre32 t (st33.trans kT)
  have F0_e33 : Fld Z T33.heap a1 "com/example/esteem/esteem/index/Postings$Builder" "docs" "[I" (.ref dd) := F0_e30.keep ky1 (ninS ne_a1_b1 nin0)
  have F1_e33 : Fld Z T33.heap a1 "com/example/esteem/esteem/index/Postings$Builder" "starts" "[I" (.ref ds) := F1_e30.keep ky1 (ninS ne_a1_b1 nin0)
  have F2_e33 : Fld Z T33.heap a1 "com/example/esteem/esteem/index/Postings$Builder" "positions" "[I" (.ref dp) := F2_e30.keep ky1 (ninS ne_a1_b1 nin0)
  have F3_e33 : Fld Z T33.heap a1 "com/example/esteem/esteem/index/Postings$Builder" "docCount" "I" (.int (Int32.ofNat dc)) := F3_e30.keep ky1 (ninS ne_a1_b1 nin0)
  have F4_e33 : Fld Z T33.heap a1 "com/example/esteem/esteem/index/Postings$Builder" "positionCount" "I" (.int (Int32.ofNat pc)) := F4_e30.keep ky1 (ninS ne_a1_b1 nin0)
  have E0_e33 : Exa Z T33.heap a1 "com/example/esteem/esteem/index/Postings$Builder" := E0_e30.keep ky1
  have VD_e33 : own_Ar Z T33.heap dd .int dl (fun i => .int (gd i)) := VD_e30.keep ky1 (ninS ne_dd_b1 nin0)
  have VS_e33 : own_Ar Z T33.heap ds .int sl (fun i => .int (gs i)) := VS_e30.keep ky1 (ninS ne_ds_b1 nin0)
  have VP_e33 : own_Ar Z T33.heap dp .int pl (fun i => .int (gp i)) := VP_e30.keep ky1 (ninS ne_dp_b1 nin0)
  have A2_e33 : Exa Z T33.heap b1 "com/example/esteem/esteem/index/Postings" := A2_e30.keep ky1
  have V_xd_e33 : own_Ar Z T33.heap xd .int dc (fun i => .int (if i < dl then gd i else 0)) := V_xd_e30.keep ky1 (ninS (Ne.symm ne_b1_xd) nin0)
  have V_xs_e33 : own_Ar Z T33.heap xs .int (dc + 1) (fun i => .int (if i < sl then gs i else 0)) := V_xs_e30.keep ky1 (ninS (Ne.symm ne_b1_xs) nin0)
  have V_xp_e33 : own_Ar Z T33.heap xp .int pc (fun i => .int (if i < pl then gp i else 0)) := V_xp.keep ky1 (ninS (Ne.symm ne_b1_xp) nin0)
  have sz33 : n0 ≤ T33.heap.size := Nat.le_trans sz30 ky1.1
  have KK33 : Keep h0 T33.heap [] := Keep.trans KK30 ky1 (allS (Or.inr fr_b1) all0)
  have pre35 : ∀ t, Steps p.tables e below (T33.setTop (mkF m 42 #[.val (.ref a1)] [(.ref b1)])) t → Steps p.tables e below (s₁.setTop (entryFrame m #[(.ref a1)] 1)) t := fun t kT => pre34 t (by
    exact kT)
  obtain ⟨fs, hr, hrun, hended, hW, hsame⟩ := X33.leave (v := some (.ref b1)) (fun h => by rw [Bd.returns] at h; cases h)
  refine ⟨_, _, pre35 _ ?_, hrun, hended, _, _, rfl, ?_, ⟨_, rfl⟩, hW, hsame.mono (by decide) (by decide)⟩
  · exact retOut X33 hx Bd.returns rfl (Or.inr (Or.inr (Or.inr (Or.inr ⟨rfl, rfl, rfl⟩)))) (hb hby d7_42) hr
  · exact ⟨b1, xd, xs, xp, rfl, N33, KK33, ⟨f1, f2, f3, A2_e33⟩, own_Pf.grown V_xd_e33 hgd (by omega), own_Pf.grown V_xs_e33 (fun i hi => hgs i (by omega)) (by omega), own_Pf.grown V_xp_e33 hgp (by omega)⟩
theorem ef_rmDF (m : MethodId) (x0 : Addr) : entryFrame m #[(.ref x0)] 1 = mkF m 0 #[.val (.ref x0)] [] := by first | (simp [entryFrame, mkF, argsToLocals, Value.category]; done) | rfl
theorem d9_0 : decode prog_21_method_2_code 0 = .ok (.aload_n 0, 1) := by decide +kernel
theorem d9_1 : decode prog_21_method_2_code 1 = .ok (.getfield 7, 3) := by decide +kernel
theorem d9_4 : decode prog_21_method_2_code 4 = .ok (.arraylength, 1) := by decide +kernel
theorem d9_5 : decode prog_21_method_2_code 5 = .ok (.ireturn, 1) := by decide +kernel
def Q_rmDF (Z : State) (a1 : Addr) (dd ds dp : Addr) (dc pc : Nat) (df sf pf : Nat → Int32) (h0 : Heap) (n0 : Nat) (v : Option Value) (h : Heap) (L : List Loc) : Prop := v = some (.int (Int32.ofNat dc)) ∧ Fr n0 L ∧ h = h0
set_option maxRecDepth 65536 in
set_option maxHeartbeats 40000000 in
theorem rmDF (l : Launch) (Z : State) (a0 : Array Value) (hw : ∀ d ∈ tables_1, d.before a0 Z = true) (ws : List Jvm.Cond) (a1 : Addr) (dd ds dp : Addr) (dc pc : Nat) (df sf pf : Nat → Int32) (h0 : Heap) (n0 : Nat) (Z0 : n0 ≤ h0.size) (B : own_Po Z h0 n0 a1 dd ds dp dc pc df sf pf) (hdc : dc ≤ 3) (hpc : pc ≤ 3) :
    MetFree l (⟨"com/example/esteem/esteem/index/Postings", "docFreq", "()I"⟩ : MethodName) (head1 (Jvm.Cond.code (⟨"com/example/esteem/esteem/index/Postings", "docFreq", "()I"⟩ : MethodName) prog_21_method_2_code 1 (some .int) :: ws) ({ frames := 0, cells := 0, slots := 0, locals := 0 } : Room)) (fun a U => a = #[(.ref a1)] ∧ Z.Warmed39 U.vm ∧ U.heap = h0) (fun _ _ _ _ _ => True) (fun _ U o U' => ∃ v L, o = .returned v ∧ Q_rmDF Z a1 dd ds dp dc pc df sf pf h0 n0 v U'.heap L ∧ FrameEnd U o U' L ({ frames := 0, cells := 0, slots := 0, locals := 0 } : Room).cells ({ frames := 0, cells := 0, slots := 0, locals := 0 } : Room).slots) := by
  refine MetFree.of_bodySF (plainFor_of_name pn_com_example_esteem_esteem_index_Postings) hisR ?_
  intro p e s m args below meth c s₁ Bd hml0 hP hK
  obtain ⟨rfl, hZ, hh⟩ := hP
  have hx := Bd.exec
  have hby := Bd.bytes
  have hml : c.maxLocals = 1 := hml0
  have hown : s.vm.findClass "com/example/esteem/esteem/index/Postings" = some m.cls := findClass_of_methodNamed Bd.named
  have hnm := (name_of_methodNamed Bd.named Bd.method).1
  have X0 : Stand p l e ({ frames := 0, cells := 0, slots := 0, locals := 0 } : Room) s m #[(.ref a1)] below meth c s₁ [] 0 0 := Stand.of_body Bd
  have e0 : s₁.heap = h0 := by rw [← hh, Bd.state]; rfl
  have N0 := Fr.nil n0
  have pre0 : ∀ t, Steps p.tables e below (s₁.setTop (mkF m 0 #[.val (.ref a1)] [])) t → Steps p.tables e below (s₁.setTop (entryFrame m #[(.ref a1)] 1)) t := fun t kT => castTop (ef_rmDF m a1) kT
  obtain ⟨⟨F0, F1, F2, E0⟩, ⟨gd, VD, hgd⟩, ⟨gs, VS, hgs⟩, ⟨gp, VP, hgp⟩⟩ := id B
  have pre1 : ∀ t, Steps p.tables e below (s₁.setTop (mkF m 1 #[.val (.ref a1)] [(.ref a1)])) t → Steps p.tables e below (s₁.setTop (entryFrame m #[(.ref a1)] 1)) t := fun t kT => pre0 t (by
    show Steps p.tables e below (s₁.setTop (mkF m 0 #[.val (.ref a1)] [])) _
    refine XS.aloadN X0.here hx rfl (hb hby d9_0) rfl rfl ?_
    exact kT)
  obtain ⟨T2, X2, e2, st2⟩ := getF X0 hx hZ hown (host := "") (Or.inl (hw _ (List.mem_of_getElem? (i := 64) rfl))) Via.refl e0 F0 (g := (mkF m 1 #[.val (.ref a1)] [(.ref a1)])) rfl rfl (hb hby d9_1)
  have pre3 : ∀ t, Steps p.tables e below (T2.setTop (mkF m 4 #[.val (.ref a1)] [(.ref dd)])) t → Steps p.tables e below (s₁.setTop (entryFrame m #[(.ref a1)] 1)) t := fun t kT => pre1 t (st2 t kT)
  obtain ⟨co4, ⟨Ao4, Ko4⟩, So4, Ho4⟩ := id VD
  have pre5 : ∀ t, Steps p.tables e below (T2.setTop (mkF m 5 #[.val (.ref a1)] [(.int (Int32.ofNat dc))])) t → Steps p.tables e below (s₁.setTop (entryFrame m #[(.ref a1)] 1)) t := fun t kT => pre3 t (by
    show Steps p.tables e below (T2.setTop (mkF m 4 #[.val (.ref a1)] [(.ref dd)])) _
    refine X2.arraylength hx (by rw [e2]; exact Ao4.1) (State.isArrayOf_alike hZ.alike Ao4.2.1) (g := (mkF m 4 #[.val (.ref a1)] [(.ref dd)])) rfl rfl (hb hby d9_4) _ ?_
    rw [So4]
    exact kT)
  obtain ⟨fs, hr, hrun, hended, hW, hsame⟩ := X2.leave (v := some (.int (Int32.ofNat dc))) (fun h => by rw [Bd.returns] at h; cases h)
  refine ⟨_, _, pre5 _ ?_, hrun, hended, _, _, rfl, ?_, ⟨_, rfl⟩, hW, hsame.mono (by decide) (by decide)⟩
  · exact retI X2 hx Bd.returns (hb hby d9_5) hr
  · exact ⟨rfl, N0, e2⟩
theorem ef_rmDO (m : MethodId) (x0 : Addr) (x1 : Int32) : entryFrame m #[(.ref x0), (.int x1)] 2 = mkF m 0 #[.val (.ref x0), .val (.int x1)] [] := by first | (simp [entryFrame, mkF, argsToLocals, Value.category]; done) | rfl
theorem d10_0 : decode prog_21_method_3_code 0 = .ok (.aload_n 0, 1) := by decide +kernel
theorem d10_1 : decode prog_21_method_3_code 1 = .ok (.getfield 7, 3) := by decide +kernel
theorem d10_4 : decode prog_21_method_3_code 4 = .ok (.iload_n 1, 1) := by decide +kernel
theorem d10_5 : decode prog_21_method_3_code 5 = .ok (.iaload, 1) := by decide +kernel
theorem d10_6 : decode prog_21_method_3_code 6 = .ok (.ireturn, 1) := by decide +kernel
def Q_rmDO (Z : State) (a1 : Addr) (i : Nat) (dd ds dp : Addr) (dc pc : Nat) (df sf pf : Nat → Int32) (h0 : Heap) (n0 : Nat) (v : Option Value) (h : Heap) (L : List Loc) : Prop := v = some (.int (df i)) ∧ Fr n0 L ∧ h = h0
set_option maxRecDepth 65536 in
set_option maxHeartbeats 40000000 in
theorem rmDO (l : Launch) (Z : State) (a0 : Array Value) (hw : ∀ d ∈ tables_1, d.before a0 Z = true) (ws : List Jvm.Cond) (a1 : Addr) (i : Nat) (dd ds dp : Addr) (dc pc : Nat) (df sf pf : Nat → Int32) (h0 : Heap) (n0 : Nat) (Z0 : n0 ≤ h0.size) (B : own_Po Z h0 n0 a1 dd ds dp dc pc df sf pf) (hdc : dc ≤ 3) (hpc : pc ≤ 3) (hi : i < dc) :
    MetFree l (⟨"com/example/esteem/esteem/index/Postings", "doc", "(I)I"⟩ : MethodName) (head1 (Jvm.Cond.code (⟨"com/example/esteem/esteem/index/Postings", "doc", "(I)I"⟩ : MethodName) prog_21_method_3_code 2 (some .int) :: ws) ({ frames := 0, cells := 0, slots := 0, locals := 0 } : Room)) (fun a U => a = #[(.ref a1), (.int (Int32.ofNat i))] ∧ Z.Warmed39 U.vm ∧ U.heap = h0) (fun _ _ _ _ _ => True) (fun _ U o U' => ∃ v L, o = .returned v ∧ Q_rmDO Z a1 i dd ds dp dc pc df sf pf h0 n0 v U'.heap L ∧ FrameEnd U o U' L ({ frames := 0, cells := 0, slots := 0, locals := 0 } : Room).cells ({ frames := 0, cells := 0, slots := 0, locals := 0 } : Room).slots) := by
  refine MetFree.of_bodySF (plainFor_of_name pn_com_example_esteem_esteem_index_Postings) hisR ?_
  intro p e s m args below meth c s₁ Bd hml0 hP hK
  obtain ⟨rfl, hZ, hh⟩ := hP
  have hx := Bd.exec
  have hby := Bd.bytes
  have hml : c.maxLocals = 2 := hml0
  have hown : s.vm.findClass "com/example/esteem/esteem/index/Postings" = some m.cls := findClass_of_methodNamed Bd.named
  have hnm := (name_of_methodNamed Bd.named Bd.method).1
  have X0 : Stand p l e ({ frames := 0, cells := 0, slots := 0, locals := 0 } : Room) s m #[(.ref a1), (.int (Int32.ofNat i))] below meth c s₁ [] 0 0 := Stand.of_body Bd
  have e0 : s₁.heap = h0 := by rw [← hh, Bd.state]; rfl
  have N0 := Fr.nil n0
  have pre0 : ∀ t, Steps p.tables e below (s₁.setTop (mkF m 0 #[.val (.ref a1), .val (.int (Int32.ofNat i))] [])) t → Steps p.tables e below (s₁.setTop (entryFrame m #[(.ref a1), (.int (Int32.ofNat i))] 2)) t := fun t kT => castTop (ef_rmDO m a1 (Int32.ofNat i)) kT
  obtain ⟨⟨F0, F1, F2, E0⟩, ⟨gd, VD, hgd⟩, ⟨gs, VS, hgs⟩, ⟨gp, VP, hgp⟩⟩ := id B
  have pre1 : ∀ t, Steps p.tables e below (s₁.setTop (mkF m 1 #[.val (.ref a1), .val (.int (Int32.ofNat i))] [(.ref a1)])) t → Steps p.tables e below (s₁.setTop (entryFrame m #[(.ref a1), (.int (Int32.ofNat i))] 2)) t := fun t kT => pre0 t (by
    show Steps p.tables e below (s₁.setTop (mkF m 0 #[.val (.ref a1), .val (.int (Int32.ofNat i))] [])) _
    refine XS.aloadN X0.here hx rfl (hb hby d10_0) rfl rfl ?_
    exact kT)
  obtain ⟨T2, X2, e2, st2⟩ := getF X0 hx hZ hown (host := "") (Or.inl (hw _ (List.mem_of_getElem? (i := 64) rfl))) Via.refl e0 F0 (g := (mkF m 1 #[.val (.ref a1), .val (.int (Int32.ofNat i))] [(.ref a1)])) rfl rfl (hb hby d10_1)
  have pre3 : ∀ t, Steps p.tables e below (T2.setTop (mkF m 4 #[.val (.ref a1), .val (.int (Int32.ofNat i))] [(.ref dd)])) t → Steps p.tables e below (s₁.setTop (entryFrame m #[(.ref a1), (.int (Int32.ofNat i))] 2)) t := fun t kT => pre1 t (st2 t kT)
  obtain ⟨co4, ⟨Ao4, Ko4⟩, So4, Ho4⟩ := id VD
  have lo4 := own_ld So4 Ho4 (j := (Int32.ofNat i)) (i := i) (own_n0 (show i < 2 ^ 31 by omega)) (own_n32 (show i < 2 ^ 31 by omega)) hi (v := (.int (df i))) (congrArg Value.int (hgd i hi))
  have pre5 : ∀ t, Steps p.tables e below (T2.setTop (mkF m 6 #[.val (.ref a1), .val (.int (Int32.ofNat i))] [(.int (df i))])) t → Steps p.tables e below (s₁.setTop (entryFrame m #[(.ref a1), (.int (Int32.ofNat i))] 2)) t := fun t kT => pre3 t (by
    show Steps p.tables e below (T2.setTop (mkF m 4 #[.val (.ref a1), .val (.int (Int32.ofNat i))] [(.ref dd)])) _
    refine XS.iloadN X2.here hx rfl (hb hby d10_4) rfl ?_
    show Steps p.tables e below (T2.setTop (mkF m 5 #[.val (.ref a1), .val (.int (Int32.ofNat i))] [(.int (Int32.ofNat i)), (.ref dd)])) _
    refine X2.iaload hx (j := (Int32.ofNat i)) (v := (.int (df i))) (by rw [e2]; exact Ao4.1) (State.isArrayOf_alike hZ.alike Ao4.2.1) Ao4.2.2 lo4.1 lo4.2 (g := (mkF m 5 #[.val (.ref a1), .val (.int (Int32.ofNat i))] [(.int (Int32.ofNat i)), (.ref dd)])) rfl rfl (hb hby d10_5) _ ?_
    exact kT)
  obtain ⟨fs, hr, hrun, hended, hW, hsame⟩ := X2.leave (v := some (.int (df i))) (fun h => by rw [Bd.returns] at h; cases h)
  refine ⟨_, _, pre5 _ ?_, hrun, hended, _, _, rfl, ?_, ⟨_, rfl⟩, hW, hsame.mono (by decide) (by decide)⟩
  · exact retI X2 hx Bd.returns (hb hby d10_6) hr
  · exact ⟨rfl, N0, e2⟩
theorem ef_rmPS (m : MethodId) (x0 : Addr) (x1 : Int32) (x2 : Int32) : entryFrame m #[(.ref x0), (.int x1), (.int x2)] 3 = mkF m 0 #[.val (.ref x0), .val (.int x1), .val (.int x2)] [] := by first | (simp [entryFrame, mkF, argsToLocals, Value.category]; done) | rfl
theorem d11_0 : decode prog_21_method_5_code 0 = .ok (.aload_n 0, 1) := by decide +kernel
theorem d11_1 : decode prog_21_method_5_code 1 = .ok (.getfield 16, 3) := by decide +kernel
theorem d11_4 : decode prog_21_method_5_code 4 = .ok (.aload_n 0, 1) := by decide +kernel
theorem d11_5 : decode prog_21_method_5_code 5 = .ok (.getfield 13, 3) := by decide +kernel
theorem d11_8 : decode prog_21_method_5_code 8 = .ok (.iload_n 1, 1) := by decide +kernel
theorem d11_9 : decode prog_21_method_5_code 9 = .ok (.iaload, 1) := by decide +kernel
theorem d11_10 : decode prog_21_method_5_code 10 = .ok (.iload_n 2, 1) := by decide +kernel
theorem d11_11 : decode prog_21_method_5_code 11 = .ok (.iadd, 1) := by decide +kernel
theorem d11_12 : decode prog_21_method_5_code 12 = .ok (.iaload, 1) := by decide +kernel
theorem d11_13 : decode prog_21_method_5_code 13 = .ok (.ireturn, 1) := by decide +kernel
def Q_rmPS (Z : State) (a1 : Addr) (p2 : Int32) (i k : Nat) (dd ds dp : Addr) (dc pc : Nat) (df sf pf : Nat → Int32) (h0 : Heap) (n0 : Nat) (v : Option Value) (h : Heap) (L : List Loc) : Prop := v = some (.int (pf k)) ∧ Fr n0 L ∧ h = h0
set_option maxRecDepth 65536 in
set_option maxHeartbeats 40000000 in
theorem rmPS (l : Launch) (Z : State) (a0 : Array Value) (hw : ∀ d ∈ tables_1, d.before a0 Z = true) (ws : List Jvm.Cond) (a1 : Addr) (p2 : Int32) (i k : Nat) (dd ds dp : Addr) (dc pc : Nat) (df sf pf : Nat → Int32) (h0 : Heap) (n0 : Nat) (Z0 : n0 ≤ h0.size) (B : own_Po Z h0 n0 a1 dd ds dp dc pc df sf pf) (hdc : dc ≤ 3) (hpc : pc ≤ 3) (hi : i < dc + 1) (hk : k < pc) (hs : sf i + p2 = Int32.ofNat k) :
    MetFree l (⟨"com/example/esteem/esteem/index/Postings", "position", "(II)I"⟩ : MethodName) (head1 (Jvm.Cond.code (⟨"com/example/esteem/esteem/index/Postings", "position", "(II)I"⟩ : MethodName) prog_21_method_5_code 3 (some .int) :: ws) ({ frames := 0, cells := 0, slots := 0, locals := 0 } : Room)) (fun a U => a = #[(.ref a1), (.int (Int32.ofNat i)), (.int p2)] ∧ Z.Warmed39 U.vm ∧ U.heap = h0) (fun _ _ _ _ _ => True) (fun _ U o U' => ∃ v L, o = .returned v ∧ Q_rmPS Z a1 p2 i k dd ds dp dc pc df sf pf h0 n0 v U'.heap L ∧ FrameEnd U o U' L ({ frames := 0, cells := 0, slots := 0, locals := 0 } : Room).cells ({ frames := 0, cells := 0, slots := 0, locals := 0 } : Room).slots) := by
  refine MetFree.of_bodySF (plainFor_of_name pn_com_example_esteem_esteem_index_Postings) hisR ?_
  intro p e s m args below meth c s₁ Bd hml0 hP hK
  obtain ⟨rfl, hZ, hh⟩ := hP
  have hx := Bd.exec
  have hby := Bd.bytes
  have hml : c.maxLocals = 3 := hml0
  have hown : s.vm.findClass "com/example/esteem/esteem/index/Postings" = some m.cls := findClass_of_methodNamed Bd.named
  have hnm := (name_of_methodNamed Bd.named Bd.method).1
  have X0 : Stand p l e ({ frames := 0, cells := 0, slots := 0, locals := 0 } : Room) s m #[(.ref a1), (.int (Int32.ofNat i)), (.int p2)] below meth c s₁ [] 0 0 := Stand.of_body Bd
  have e0 : s₁.heap = h0 := by rw [← hh, Bd.state]; rfl
  have N0 := Fr.nil n0
  have pre0 : ∀ t, Steps p.tables e below (s₁.setTop (mkF m 0 #[.val (.ref a1), .val (.int (Int32.ofNat i)), .val (.int p2)] [])) t → Steps p.tables e below (s₁.setTop (entryFrame m #[(.ref a1), (.int (Int32.ofNat i)), (.int p2)] 3)) t := fun t kT => castTop (ef_rmPS m a1 (Int32.ofNat i) p2) kT
  obtain ⟨⟨F0, F1, F2, E0⟩, ⟨gd, VD, hgd⟩, ⟨gs, VS, hgs⟩, ⟨gp, VP, hgp⟩⟩ := id B
  have pre1 : ∀ t, Steps p.tables e below (s₁.setTop (mkF m 1 #[.val (.ref a1), .val (.int (Int32.ofNat i)), .val (.int p2)] [(.ref a1)])) t → Steps p.tables e below (s₁.setTop (entryFrame m #[(.ref a1), (.int (Int32.ofNat i)), (.int p2)] 3)) t := fun t kT => pre0 t (by
    show Steps p.tables e below (s₁.setTop (mkF m 0 #[.val (.ref a1), .val (.int (Int32.ofNat i)), .val (.int p2)] [])) _
    refine XS.aloadN X0.here hx rfl (hb hby d11_0) rfl rfl ?_
    exact kT)
  obtain ⟨T2, X2, e2, st2⟩ := getF X0 hx hZ hown (host := "") (Or.inl (hw _ (List.mem_of_getElem? (i := 68) rfl))) Via.refl e0 F2 (g := (mkF m 1 #[.val (.ref a1), .val (.int (Int32.ofNat i)), .val (.int p2)] [(.ref a1)])) rfl rfl (hb hby d11_1)
  have pre3 : ∀ t, Steps p.tables e below (T2.setTop (mkF m 4 #[.val (.ref a1), .val (.int (Int32.ofNat i)), .val (.int p2)] [(.ref dp)])) t → Steps p.tables e below (s₁.setTop (entryFrame m #[(.ref a1), (.int (Int32.ofNat i)), (.int p2)] 3)) t := fun t kT => pre1 t (st2 t kT)
  have pre4 : ∀ t, Steps p.tables e below (T2.setTop (mkF m 5 #[.val (.ref a1), .val (.int (Int32.ofNat i)), .val (.int p2)] [(.ref a1), (.ref dp)])) t → Steps p.tables e below (s₁.setTop (entryFrame m #[(.ref a1), (.int (Int32.ofNat i)), (.int p2)] 3)) t := fun t kT => pre3 t (by
    show Steps p.tables e below (T2.setTop (mkF m 4 #[.val (.ref a1), .val (.int (Int32.ofNat i)), .val (.int p2)] [(.ref dp)])) _
    refine XS.aloadN X2.here hx rfl (hb hby d11_4) rfl rfl ?_
    exact kT)
  obtain ⟨T5, X5, e5, st5⟩ := getF X2 hx hZ hown (host := "") (Or.inl (hw _ (List.mem_of_getElem? (i := 66) rfl))) Via.refl e2 F1 (g := (mkF m 5 #[.val (.ref a1), .val (.int (Int32.ofNat i)), .val (.int p2)] [(.ref a1), (.ref dp)])) rfl rfl (hb hby d11_5)
  have pre6 : ∀ t, Steps p.tables e below (T5.setTop (mkF m 8 #[.val (.ref a1), .val (.int (Int32.ofNat i)), .val (.int p2)] [(.ref ds), (.ref dp)])) t → Steps p.tables e below (s₁.setTop (entryFrame m #[(.ref a1), (.int (Int32.ofNat i)), (.int p2)] 3)) t := fun t kT => pre4 t (st5 t kT)
  obtain ⟨co7, ⟨Ao7, Ko7⟩, So7, Ho7⟩ := id VS
  have lo7 := own_ld So7 Ho7 (j := (Int32.ofNat i)) (i := i) (own_n0 (show i < 2 ^ 31 by omega)) (own_n32 (show i < 2 ^ 31 by omega)) hi (v := (.int (sf i))) (congrArg Value.int (hgs i hi))
  have pre8 : ∀ t, Steps p.tables e below (T5.setTop (mkF m 12 #[.val (.ref a1), .val (.int (Int32.ofNat i)), .val (.int p2)] [(.int ((sf i) + p2)), (.ref dp)])) t → Steps p.tables e below (s₁.setTop (entryFrame m #[(.ref a1), (.int (Int32.ofNat i)), (.int p2)] 3)) t := fun t kT => pre6 t (by
    show Steps p.tables e below (T5.setTop (mkF m 8 #[.val (.ref a1), .val (.int (Int32.ofNat i)), .val (.int p2)] [(.ref ds), (.ref dp)])) _
    refine XS.iloadN X5.here hx rfl (hb hby d11_8) rfl ?_
    show Steps p.tables e below (T5.setTop (mkF m 9 #[.val (.ref a1), .val (.int (Int32.ofNat i)), .val (.int p2)] [(.int (Int32.ofNat i)), (.ref ds), (.ref dp)])) _
    refine X5.iaload hx (j := (Int32.ofNat i)) (v := (.int (sf i))) (by rw [e5]; exact Ao7.1) (State.isArrayOf_alike hZ.alike Ao7.2.1) Ao7.2.2 lo7.1 lo7.2 (g := (mkF m 9 #[.val (.ref a1), .val (.int (Int32.ofNat i)), .val (.int p2)] [(.int (Int32.ofNat i)), (.ref ds), (.ref dp)])) rfl rfl (hb hby d11_9) _ ?_
    show Steps p.tables e below (T5.setTop (mkF m 10 #[.val (.ref a1), .val (.int (Int32.ofNat i)), .val (.int p2)] [(.int (sf i)), (.ref dp)])) _
    refine XS.iloadN X5.here hx rfl (hb hby d11_10) rfl ?_
    show Steps p.tables e below (T5.setTop (mkF m 11 #[.val (.ref a1), .val (.int (Int32.ofNat i)), .val (.int p2)] [(.int p2), (.int (sf i)), (.ref dp)])) _
    refine XS.iadd X5.here hx rfl (hb hby d11_11) rfl ?_
    exact kT)
  rw [hs] at pre8
  obtain ⟨co9, ⟨Ao9, Ko9⟩, So9, Ho9⟩ := id VP
  have lo9 := own_ld So9 Ho9 (j := (Int32.ofNat k)) (i := k) (own_n0 (show k < 2 ^ 31 by omega)) (own_n32 (show k < 2 ^ 31 by omega)) hk (v := (.int (pf k))) (congrArg Value.int (hgp k hk))
  have pre10 : ∀ t, Steps p.tables e below (T5.setTop (mkF m 13 #[.val (.ref a1), .val (.int (Int32.ofNat i)), .val (.int p2)] [(.int (pf k))])) t → Steps p.tables e below (s₁.setTop (entryFrame m #[(.ref a1), (.int (Int32.ofNat i)), (.int p2)] 3)) t := fun t kT => pre8 t (by
    show Steps p.tables e below (T5.setTop (mkF m 12 #[.val (.ref a1), .val (.int (Int32.ofNat i)), .val (.int p2)] [(.int (Int32.ofNat k)), (.ref dp)])) _
    refine X5.iaload hx (j := (Int32.ofNat k)) (v := (.int (pf k))) (by rw [e5]; exact Ao9.1) (State.isArrayOf_alike hZ.alike Ao9.2.1) Ao9.2.2 lo9.1 lo9.2 (g := (mkF m 12 #[.val (.ref a1), .val (.int (Int32.ofNat i)), .val (.int p2)] [(.int (Int32.ofNat k)), (.ref dp)])) rfl rfl (hb hby d11_12) _ ?_
    exact kT)
  obtain ⟨fs, hr, hrun, hended, hW, hsame⟩ := X5.leave (v := some (.int (pf k))) (fun h => by rw [Bd.returns] at h; cases h)
  refine ⟨_, _, pre10 _ ?_, hrun, hended, _, _, rfl, ?_, ⟨_, rfl⟩, hW, hsame.mono (by decide) (by decide)⟩
  · exact retI X5 hx Bd.returns (hb hby d11_13) hr
  · exact ⟨rfl, N0, e5⟩
theorem ef_rmFQ (m : MethodId) (x0 : Addr) (x1 : Int32) : entryFrame m #[(.ref x0), (.int x1)] 2 = mkF m 0 #[.val (.ref x0), .val (.int x1)] [] := by first | (simp [entryFrame, mkF, argsToLocals, Value.category]; done) | rfl
theorem d12_0 : decode prog_21_method_4_code 0 = .ok (.aload_n 0, 1) := by decide +kernel
theorem d12_1 : decode prog_21_method_4_code 1 = .ok (.getfield 13, 3) := by decide +kernel
theorem d12_4 : decode prog_21_method_4_code 4 = .ok (.iload_n 1, 1) := by decide +kernel
theorem d12_5 : decode prog_21_method_4_code 5 = .ok (.iconst 1, 1) := by decide +kernel
theorem d12_6 : decode prog_21_method_4_code 6 = .ok (.iadd, 1) := by decide +kernel
theorem d12_7 : decode prog_21_method_4_code 7 = .ok (.iaload, 1) := by decide +kernel
theorem d12_8 : decode prog_21_method_4_code 8 = .ok (.aload_n 0, 1) := by decide +kernel
theorem d12_9 : decode prog_21_method_4_code 9 = .ok (.getfield 13, 3) := by decide +kernel
theorem d12_12 : decode prog_21_method_4_code 12 = .ok (.iload_n 1, 1) := by decide +kernel
theorem d12_13 : decode prog_21_method_4_code 13 = .ok (.iaload, 1) := by decide +kernel
theorem d12_14 : decode prog_21_method_4_code 14 = .ok (.isub, 1) := by decide +kernel
theorem d12_15 : decode prog_21_method_4_code 15 = .ok (.ireturn, 1) := by decide +kernel
def Q_rmFQ (Z : State) (a1 : Addr) (i : Nat) (dd ds dp : Addr) (dc pc : Nat) (df sf pf : Nat → Int32) (h0 : Heap) (n0 : Nat) (v : Option Value) (h : Heap) (L : List Loc) : Prop := v = some (.int (sf (i + 1) - sf i)) ∧ Fr n0 L ∧ h = h0
set_option maxRecDepth 65536 in
set_option maxHeartbeats 40000000 in
theorem rmFQ (l : Launch) (Z : State) (a0 : Array Value) (hw : ∀ d ∈ tables_1, d.before a0 Z = true) (ws : List Jvm.Cond) (a1 : Addr) (i : Nat) (dd ds dp : Addr) (dc pc : Nat) (df sf pf : Nat → Int32) (h0 : Heap) (n0 : Nat) (Z0 : n0 ≤ h0.size) (B : own_Po Z h0 n0 a1 dd ds dp dc pc df sf pf) (hdc : dc ≤ 3) (hpc : pc ≤ 3) (hi : i < dc) :
    MetFree l (⟨"com/example/esteem/esteem/index/Postings", "freq", "(I)I"⟩ : MethodName) (head1 (Jvm.Cond.code (⟨"com/example/esteem/esteem/index/Postings", "freq", "(I)I"⟩ : MethodName) prog_21_method_4_code 2 (some .int) :: ws) ({ frames := 0, cells := 0, slots := 0, locals := 0 } : Room)) (fun a U => a = #[(.ref a1), (.int (Int32.ofNat i))] ∧ Z.Warmed39 U.vm ∧ U.heap = h0) (fun _ _ _ _ _ => True) (fun _ U o U' => ∃ v L, o = .returned v ∧ Q_rmFQ Z a1 i dd ds dp dc pc df sf pf h0 n0 v U'.heap L ∧ FrameEnd U o U' L ({ frames := 0, cells := 0, slots := 0, locals := 0 } : Room).cells ({ frames := 0, cells := 0, slots := 0, locals := 0 } : Room).slots) := by
  refine MetFree.of_bodySF (plainFor_of_name pn_com_example_esteem_esteem_index_Postings) hisR ?_
  intro p e s m args below meth c s₁ Bd hml0 hP hK
  obtain ⟨rfl, hZ, hh⟩ := hP
  have hx := Bd.exec
  have hby := Bd.bytes
  have hml : c.maxLocals = 2 := hml0
  have hown : s.vm.findClass "com/example/esteem/esteem/index/Postings" = some m.cls := findClass_of_methodNamed Bd.named
  have hnm := (name_of_methodNamed Bd.named Bd.method).1
  have X0 : Stand p l e ({ frames := 0, cells := 0, slots := 0, locals := 0 } : Room) s m #[(.ref a1), (.int (Int32.ofNat i))] below meth c s₁ [] 0 0 := Stand.of_body Bd
  have e0 : s₁.heap = h0 := by rw [← hh, Bd.state]; rfl
  have N0 := Fr.nil n0
  have pre0 : ∀ t, Steps p.tables e below (s₁.setTop (mkF m 0 #[.val (.ref a1), .val (.int (Int32.ofNat i))] [])) t → Steps p.tables e below (s₁.setTop (entryFrame m #[(.ref a1), (.int (Int32.ofNat i))] 2)) t := fun t kT => castTop (ef_rmFQ m a1 (Int32.ofNat i)) kT
  obtain ⟨⟨F0, F1, F2, E0⟩, ⟨gd, VD, hgd⟩, ⟨gs, VS, hgs⟩, ⟨gp, VP, hgp⟩⟩ := id B
  have pre1 : ∀ t, Steps p.tables e below (s₁.setTop (mkF m 1 #[.val (.ref a1), .val (.int (Int32.ofNat i))] [(.ref a1)])) t → Steps p.tables e below (s₁.setTop (entryFrame m #[(.ref a1), (.int (Int32.ofNat i))] 2)) t := fun t kT => pre0 t (by
    show Steps p.tables e below (s₁.setTop (mkF m 0 #[.val (.ref a1), .val (.int (Int32.ofNat i))] [])) _
    refine XS.aloadN X0.here hx rfl (hb hby d12_0) rfl rfl ?_
    exact kT)
  obtain ⟨T2, X2, e2, st2⟩ := getF X0 hx hZ hown (host := "") (Or.inl (hw _ (List.mem_of_getElem? (i := 66) rfl))) Via.refl e0 F1 (g := (mkF m 1 #[.val (.ref a1), .val (.int (Int32.ofNat i))] [(.ref a1)])) rfl rfl (hb hby d12_1)
  have pre3 : ∀ t, Steps p.tables e below (T2.setTop (mkF m 4 #[.val (.ref a1), .val (.int (Int32.ofNat i))] [(.ref ds)])) t → Steps p.tables e below (s₁.setTop (entryFrame m #[(.ref a1), (.int (Int32.ofNat i))] 2)) t := fun t kT => pre1 t (st2 t kT)
  have pre4 : ∀ t, Steps p.tables e below (T2.setTop (mkF m 7 #[.val (.ref a1), .val (.int (Int32.ofNat i))] [(.int ((Int32.ofNat i) + (1 : Int32))), (.ref ds)])) t → Steps p.tables e below (s₁.setTop (entryFrame m #[(.ref a1), (.int (Int32.ofNat i))] 2)) t := fun t kT => pre3 t (by
    show Steps p.tables e below (T2.setTop (mkF m 4 #[.val (.ref a1), .val (.int (Int32.ofNat i))] [(.ref ds)])) _
    refine XS.iloadN X2.here hx rfl (hb hby d12_4) rfl ?_
    show Steps p.tables e below (T2.setTop (mkF m 5 #[.val (.ref a1), .val (.int (Int32.ofNat i))] [(.int (Int32.ofNat i)), (.ref ds)])) _
    refine XS.iconst X2.here hx rfl (hb hby d12_5) ?_
    show Steps p.tables e below (T2.setTop (mkF m 6 #[.val (.ref a1), .val (.int (Int32.ofNat i))] [(.int (1 : Int32)), (.int (Int32.ofNat i)), (.ref ds)])) _
    refine XS.iadd X2.here hx rfl (hb hby d12_6) rfl ?_
    exact kT)
  rw [own_one] at pre4
  obtain ⟨co5, ⟨Ao5, Ko5⟩, So5, Ho5⟩ := id VS
  have lo5 := own_ld So5 Ho5 (j := (Int32.ofNat (i + 1))) (i := (i + 1)) (own_n0 (show (i + 1) < 2 ^ 31 by omega)) (own_n32 (show (i + 1) < 2 ^ 31 by omega)) (by omega) (v := (.int (sf (i + 1)))) (congrArg Value.int (hgs (i + 1) (by omega)))
  have pre6 : ∀ t, Steps p.tables e below (T2.setTop (mkF m 9 #[.val (.ref a1), .val (.int (Int32.ofNat i))] [(.ref a1), (.int (sf (i + 1)))])) t → Steps p.tables e below (s₁.setTop (entryFrame m #[(.ref a1), (.int (Int32.ofNat i))] 2)) t := fun t kT => pre4 t (by
    show Steps p.tables e below (T2.setTop (mkF m 7 #[.val (.ref a1), .val (.int (Int32.ofNat i))] [(.int (Int32.ofNat (i + 1))), (.ref ds)])) _
    refine X2.iaload hx (j := (Int32.ofNat (i + 1))) (v := (.int (sf (i + 1)))) (by rw [e2]; exact Ao5.1) (State.isArrayOf_alike hZ.alike Ao5.2.1) Ao5.2.2 lo5.1 lo5.2 (g := (mkF m 7 #[.val (.ref a1), .val (.int (Int32.ofNat i))] [(.int (Int32.ofNat (i + 1))), (.ref ds)])) rfl rfl (hb hby d12_7) _ ?_
    show Steps p.tables e below (T2.setTop (mkF m 8 #[.val (.ref a1), .val (.int (Int32.ofNat i))] [(.int (sf (i + 1)))])) _
    refine XS.aloadN X2.here hx rfl (hb hby d12_8) rfl rfl ?_
    exact kT)
  obtain ⟨T7, X7, e7, st7⟩ := getF X2 hx hZ hown (host := "") (Or.inl (hw _ (List.mem_of_getElem? (i := 66) rfl))) Via.refl e2 F1 (g := (mkF m 9 #[.val (.ref a1), .val (.int (Int32.ofNat i))] [(.ref a1), (.int (sf (i + 1)))])) rfl rfl (hb hby d12_9)
  have pre8 : ∀ t, Steps p.tables e below (T7.setTop (mkF m 12 #[.val (.ref a1), .val (.int (Int32.ofNat i))] [(.ref ds), (.int (sf (i + 1)))])) t → Steps p.tables e below (s₁.setTop (entryFrame m #[(.ref a1), (.int (Int32.ofNat i))] 2)) t := fun t kT => pre6 t (st7 t kT)
  obtain ⟨co9, ⟨Ao9, Ko9⟩, So9, Ho9⟩ := id VS
  have lo9 := own_ld So9 Ho9 (j := (Int32.ofNat i)) (i := i) (own_n0 (show i < 2 ^ 31 by omega)) (own_n32 (show i < 2 ^ 31 by omega)) (by omega) (v := (.int (sf i))) (congrArg Value.int (hgs i (by omega)))
  have pre10 : ∀ t, Steps p.tables e below (T7.setTop (mkF m 15 #[.val (.ref a1), .val (.int (Int32.ofNat i))] [(.int ((sf (i + 1)) - (sf i)))])) t → Steps p.tables e below (s₁.setTop (entryFrame m #[(.ref a1), (.int (Int32.ofNat i))] 2)) t := fun t kT => pre8 t (by
    show Steps p.tables e below (T7.setTop (mkF m 12 #[.val (.ref a1), .val (.int (Int32.ofNat i))] [(.ref ds), (.int (sf (i + 1)))])) _
    refine XS.iloadN X7.here hx rfl (hb hby d12_12) rfl ?_
    show Steps p.tables e below (T7.setTop (mkF m 13 #[.val (.ref a1), .val (.int (Int32.ofNat i))] [(.int (Int32.ofNat i)), (.ref ds), (.int (sf (i + 1)))])) _
    refine X7.iaload hx (j := (Int32.ofNat i)) (v := (.int (sf i))) (by rw [e7]; exact Ao9.1) (State.isArrayOf_alike hZ.alike Ao9.2.1) Ao9.2.2 lo9.1 lo9.2 (g := (mkF m 13 #[.val (.ref a1), .val (.int (Int32.ofNat i))] [(.int (Int32.ofNat i)), (.ref ds), (.int (sf (i + 1)))])) rfl rfl (hb hby d12_13) _ ?_
    show Steps p.tables e below (T7.setTop (mkF m 14 #[.val (.ref a1), .val (.int (Int32.ofNat i))] [(.int (sf i)), (.int (sf (i + 1)))])) _
    refine XS.isub X7.here hx rfl (hb hby d12_14) rfl ?_
    exact kT)
  obtain ⟨fs, hr, hrun, hended, hW, hsame⟩ := X7.leave (v := some (.int ((sf (i + 1)) - (sf i)))) (fun h => by rw [Bd.returns] at h; cases h)
  refine ⟨_, _, pre10 _ ?_, hrun, hended, _, _, rfl, ?_, ⟨_, rfl⟩, hW, hsame.mono (by decide) (by decide)⟩
  · exact retI X7 hx Bd.returns (hb hby d12_15) hr
  · exact ⟨rfl, N0, e7⟩
def own_nz (x : Int32) : Int32 := if x = (0 : Int32) then 0 else 1
theorem own_nz01 (x : Int32) : own_nz x = 0 ∨ own_nz x = 1 := by unfold own_nz; split <;> simp
def own_sel (n x y : Int32) : Int32 := if n = (0 : Int32) then y else x
theorem own_sel0 {n x y : Int32} (h : n = 0) : own_sel n x y = y := if_pos h
theorem own_sel1 {n x y : Int32} (h : n = 1) : own_sel n x y = x := if_neg (by rw [h]; decide)
theorem own_mask (x : Int32) : 0 ≤ (x &&& (1073741823 : Int32)).toInt ∧ (x &&& (1073741823 : Int32)).toInt < 1073741824 := by
  have e : (x &&& (1073741823 : Int32)).toInt = x.toInt % (2 ^ 30 : Nat) := c_mask x 1073741823 30 (by decide) (by decide)
  omega
theorem own_step (x y : Int32) (h1 : 0 ≤ x.toInt) (h2 : x.toInt < 2000000000) : x.toInt < ((x + (1 : Int32)) + (y &&& (65535 : Int32))).toInt ∧ ((x + (1 : Int32)) + (y &&& (65535 : Int32))).toInt ≤ x.toInt + 65536 := by
  have e : (y &&& (65535 : Int32)).toInt = y.toInt % (2 ^ 16 : Nat) := c_mask y 65535 16 (by decide) (by decide)
  have a := c_iadd x 1
  have b := rng32 (x + 1)
  have o : (1 : Int32).toInt = 1 := rfl
  rw [o] at a
  have c : (x + 1).toInt = x.toInt + 1 := by omega
  have d := c_iadd (x + 1) (y &&& 65535)
  have f := rng32 (x + 1 + (y &&& 65535))
  rw [c, e] at d
  omega
theorem own_shr (x : Int32) : 0 ≤ ((x.toUInt32 >>> ((2 : Int32) &&& 31).toUInt32).toInt32).toInt ∧ ((x.toUInt32 >>> ((2 : Int32) &&& 31).toUInt32).toInt32).toInt < 1073741824 := by
  have e := c_iushr x 2 2 (by decide) (by decide)
  have r := rng32 x
  omega
theorem own_nlt {x y : Int32} (h : ¬ x.toInt < y.toInt) : ¬ x < y := by rw [Int32.lt_iff_toInt_lt]; exact h
theorem own_nlt0 {x : Int32} (h : 0 ≤ x.toInt) : ¬ x < 0 := own_nlt (by show ¬ x.toInt < 0; omega)
/-- a number behind another: the same document with a greater position, or a greater document -/
theorem own_next (d q y n : Int32) (hn : n = 0 ∨ n = 1) (h1 : 0 ≤ d.toInt) (h2 : d.toInt < 1900000000) (h3 : 0 ≤ q.toInt) (h4 : q.toInt < 1900000000) :
    let d' := own_sel n ((d + (1 : Int32)) + (y &&& (65535 : Int32))) d
    let q' := own_sel n ((y.toUInt32 >>> ((2 : Int32) &&& 31).toUInt32).toInt32) ((q + (1 : Int32)) + (y &&& (65535 : Int32)))
    (n = 0 → d' = d ∧ q < q') ∧ (n = 1 → ¬ d' = d) ∧ ¬ d' < d ∧ 0 ≤ d'.toInt ∧ d'.toInt ≤ d.toInt + 65536 ∧ 0 ≤ q'.toInt ∧ (q'.toInt < 1073741824 ∨ q'.toInt ≤ q.toInt + 65536) := by
  have s1 := own_step d y h1 (by omega)
  have s2 := own_step q y h3 (by omega)
  have s3 := own_shr y
  intro d' q'
  rcases hn with hn | hn
  · have ed : d' = d := own_sel0 hn
    have eq : q' = (q + (1 : Int32)) + (y &&& (65535 : Int32)) := own_sel0 hn
    rw [ed, eq]
    exact ⟨fun _ => ⟨rfl, Int32.lt_iff_toInt_lt.mpr s2.1⟩, fun z => absurd (hn.symm.trans z) (by decide), Int32.lt_irrefl, h1, by omega, by omega, Or.inr s2.2⟩
  · have ed : d' = (d + (1 : Int32)) + (y &&& (65535 : Int32)) := own_sel1 hn
    have eq : q' = ((y.toUInt32 >>> ((2 : Int32) &&& 31).toUInt32).toInt32) := own_sel1 hn
    rw [ed, eq]
    exact ⟨fun z => absurd (z.symm.trans hn) (by decide), fun _ z => by rw [z] at s1; omega, own_nlt (by omega), by omega, by omega, s3.1, Or.inl s3.2⟩
theorem ef_rm0 (m : MethodId) (x0 : Int32) (x1 : Int32) (x2 : Int32) (x3 : Int32) (x4 : Int32) : entryFrame m #[(.int x0), (.int x1), (.int x2), (.int x3), (.int x4)] maxLocals = mkF m 0 #[.val (.int x0), .val (.int x1), .val (.int x2), .val (.int x3), .val (.int x4), .unset, .unset, .unset, .unset, .unset, .unset, .unset, .unset, .unset, .unset, .unset, .unset, .unset, .unset, .unset] [] := by first | (simp [entryFrame, mkF, argsToLocals, Value.category, maxLocals]; done) | rfl
theorem pn_com_example_esteem_esteem_index_BuilderAddPinLaw : plainName "com/example/esteem/esteem/index/BuilderAddPinLaw" = true := by first | (simp [plainName, overriddenIn]; done) | decide +kernel
theorem pd___V : parseMethodDescriptor "()V" = some ⟨[], none⟩ := by decide +kernel
theorem pd__II_V : parseMethodDescriptor "(II)V" = some ⟨[.int, .int], none⟩ := by decide +kernel
theorem pd___Lcom_example_esteem_esteem_index_Postings_ : parseMethodDescriptor "()Lcom/example/esteem/esteem/index/Postings;" = some ⟨[], some (.object "com/example/esteem/esteem/index/Postings")⟩ := by decide +kernel
theorem pd__I_I : parseMethodDescriptor "(I)I" = some ⟨[.int], some .int⟩ := by decide +kernel
theorem pd__II_I : parseMethodDescriptor "(II)I" = some ⟨[.int, .int], some .int⟩ := by decide +kernel
def Q_rm0 (Z : State) (p1 : Int32) (p2 : Int32) (p3 : Int32) (p4 : Int32) (p5 : Int32) (h0 : Heap) (n0 : Nat) (v : Option Value) (h : Heap) (L : List Loc) : Prop := v = some (.int (1 : Int32)) ∧ Fr n0 L
set_option maxRecDepth 65536 in
set_option maxHeartbeats 40000000 in
theorem rm0 (l : Launch) (Z : State) (a0 : Array Value) (hw : ∀ d ∈ tables_1, d.before a0 Z = true) (ws : List Jvm.Cond) (p1 : Int32) (p2 : Int32) (p3 : Int32) (p4 : Int32) (p5 : Int32) (h0 : Heap) (n0 : Nat) (Z0 : n0 ≤ h0.size) :
    MetFree l x (head1 (Jvm.Cond.code x code maxLocals ret :: ws) room_1) (fun a U => a = #[(.int p1), (.int p2), (.int p3), (.int p4), (.int p5)] ∧ Z.Warmed39 U.vm ∧ U.heap = h0) (fun _ _ _ _ _ => True) (fun _ U o U' => ∃ v L, o = .returned v ∧ Q_rm0 Z p1 p2 p3 p4 p5 h0 n0 v U'.heap L ∧ FrameEnd U o U' L 40 192) := by
  refine MetFree.of_bodySF (plainFor_of_name pn_com_example_esteem_esteem_index_BuilderAddPinLaw) hisR ?_
  intro p e s m args below meth c s₁ Bd hml0 hP hK
  obtain ⟨rfl, hZ, hh⟩ := hP
  have hx := Bd.exec
  have hby := Bd.bytes
  have hml : c.maxLocals = 20 := hml0
  have hown : s.vm.findClass "com/example/esteem/esteem/index/BuilderAddPinLaw" = some m.cls := findClass_of_methodNamed Bd.named
  have hnm := (name_of_methodNamed Bd.named Bd.method).1
  have X0 : Stand p l e room_1 s m #[(.int p1), (.int p2), (.int p3), (.int p4), (.int p5)] below meth c s₁ [] 0 0 := Stand.of_body Bd
  have e0 : s₁.heap = h0 := by rw [← hh, Bd.state]; rfl
  have N0 := Fr.nil n0
  have pre0 : ∀ t, Steps p.tables e below (s₁.setTop (mkF m 0 #[.val (.int p1), .val (.int p2), .val (.int p3), .val (.int p4), .val (.int p5), .unset, .unset, .unset, .unset, .unset, .unset, .unset, .unset, .unset, .unset, .unset, .unset, .unset, .unset, .unset] [])) t → Steps p.tables e below (s₁.setTop (entryFrame m #[(.int p1), (.int p2), (.int p3), (.int p4), (.int p5)] maxLocals)) t := fun t kT => castTop (ef_rm0 m p1 p2 p3 p4 p5) kT
  have pre1 : ∀ t, Steps p.tables e below (s₁.setTop (mkF m 12 #[.val (.int p1), .val (.int p2), .val (.int p3), .val (.int p4), .val (.int p5), .unset, .unset, .unset, .unset, .unset, .unset, .unset, .unset, .unset, .unset, .unset, .unset, .unset, .unset, .unset] [(.int (own_nz (p5 &&& (1 : Int32))))])) t → Steps p.tables e below (s₁.setTop (entryFrame m #[(.int p1), (.int p2), (.int p3), (.int p4), (.int p5)] maxLocals)) t := fun t kT => pre0 t (by
    show Steps p.tables e below (s₁.setTop (mkF m 0 #[.val (.int p1), .val (.int p2), .val (.int p3), .val (.int p4), .val (.int p5), .unset, .unset, .unset, .unset, .unset, .unset, .unset, .unset, .unset, .unset, .unset, .unset, .unset, .unset, .unset] [])) _
    refine XS.iload X0.here hx rfl (hb hby at_0) rfl ?_
    show Steps p.tables e below (s₁.setTop (mkF m 2 #[.val (.int p1), .val (.int p2), .val (.int p3), .val (.int p4), .val (.int p5), .unset, .unset, .unset, .unset, .unset, .unset, .unset, .unset, .unset, .unset, .unset, .unset, .unset, .unset, .unset] [(.int p5)])) _
    refine XS.iconst X0.here hx rfl (hb hby at_2) ?_
    show Steps p.tables e below (s₁.setTop (mkF m 3 #[.val (.int p1), .val (.int p2), .val (.int p3), .val (.int p4), .val (.int p5), .unset, .unset, .unset, .unset, .unset, .unset, .unset, .unset, .unset, .unset, .unset, .unset, .unset, .unset, .unset] [(.int (1 : Int32)), (.int p5)])) _
    refine XS.iand X0.here hx rfl (hb hby at_3) rfl ?_
    by_cases hc4 : (p5 &&& (1 : Int32)) = (0 : Int32)
    · show Steps p.tables e below (s₁.setTop (mkF m 4 #[.val (.int p1), .val (.int p2), .val (.int p3), .val (.int p4), .val (.int p5), .unset, .unset, .unset, .unset, .unset, .unset, .unset, .unset, .unset, .unset, .unset, .unset, .unset, .unset, .unset] [(.int (p5 &&& (1 : Int32)))])) _
      refine XS.ifYes X0.here hx rfl (pc0 := 4) (pc' := 11) rfl (hb hby at_4) rfl ((if0 _ _).trans (teq hc4).1) (by decide) (by decide) ?_
      show Steps p.tables e below (s₁.setTop (mkF m 11 #[.val (.int p1), .val (.int p2), .val (.int p3), .val (.int p4), .val (.int p5), .unset, .unset, .unset, .unset, .unset, .unset, .unset, .unset, .unset, .unset, .unset, .unset, .unset, .unset, .unset] [])) _
      refine XS.iconst X0.here hx rfl (hb hby at_11) ?_
      show Steps p.tables e below (s₁.setTop (mkF m 12 #[.val (.int p1), .val (.int p2), .val (.int p3), .val (.int p4), .val (.int p5), .unset, .unset, .unset, .unset, .unset, .unset, .unset, .unset, .unset, .unset, .unset, .unset, .unset, .unset, .unset] [(.int (0 : Int32))])) _
      exact castTop (by rw [show (own_nz (p5 &&& (1 : Int32))) = (0 : Int32) from by exact (if_pos hc4).trans (rfl)]) kT
    · show Steps p.tables e below (s₁.setTop (mkF m 4 #[.val (.int p1), .val (.int p2), .val (.int p3), .val (.int p4), .val (.int p5), .unset, .unset, .unset, .unset, .unset, .unset, .unset, .unset, .unset, .unset, .unset, .unset, .unset, .unset, .unset] [(.int (p5 &&& (1 : Int32)))])) _
      refine XS.ifNo X0.here hx rfl (hb hby at_4) rfl ((if0 _ _).trans (feq hc4).1) ?_
      show Steps p.tables e below (s₁.setTop (mkF m 7 #[.val (.int p1), .val (.int p2), .val (.int p3), .val (.int p4), .val (.int p5), .unset, .unset, .unset, .unset, .unset, .unset, .unset, .unset, .unset, .unset, .unset, .unset, .unset, .unset, .unset] [])) _
      refine XS.iconst X0.here hx rfl (hb hby at_7) ?_
      show Steps p.tables e below (s₁.setTop (mkF m 8 #[.val (.int p1), .val (.int p2), .val (.int p3), .val (.int p4), .val (.int p5), .unset, .unset, .unset, .unset, .unset, .unset, .unset, .unset, .unset, .unset, .unset, .unset, .unset, .unset, .unset] [(.int (1 : Int32))])) _
      refine XS.goto X0.here hx rfl (pc0 := 8) (pc' := 12) rfl (hb hby at_8) (by decide) (by decide) ?_
      show Steps p.tables e below (s₁.setTop (mkF m 12 #[.val (.int p1), .val (.int p2), .val (.int p3), .val (.int p4), .val (.int p5), .unset, .unset, .unset, .unset, .unset, .unset, .unset, .unset, .unset, .unset, .unset, .unset, .unset, .unset, .unset] [(.int (1 : Int32))])) _
      exact castTop (by rw [show (own_nz (p5 &&& (1 : Int32))) = (1 : Int32) from by exact (if_neg hc4).trans (rfl)]) kT)
  have pre2 : ∀ t, Steps p.tables e below (s₁.setTop (mkF m 14 #[.val (.int p1), .val (.int p2), .val (.int p3), .val (.int p4), .val (.int p5), .val (.int (own_nz (p5 &&& (1 : Int32)))), .unset, .unset, .unset, .unset, .unset, .unset, .unset, .unset, .unset, .unset, .unset, .unset, .unset, .unset] [])) t → Steps p.tables e below (s₁.setTop (entryFrame m #[(.int p1), (.int p2), (.int p3), (.int p4), (.int p5)] maxLocals)) t := fun t kT => pre1 t (by
    show Steps p.tables e below (s₁.setTop (mkF m 12 #[.val (.int p1), .val (.int p2), .val (.int p3), .val (.int p4), .val (.int p5), .unset, .unset, .unset, .unset, .unset, .unset, .unset, .unset, .unset, .unset, .unset, .unset, .unset, .unset, .unset] [(.int (own_nz (p5 &&& (1 : Int32))))])) _
    refine XS.istore X0.here hx rfl (hb hby at_12) rfl (l' := #[.val (.int p1), .val (.int p2), .val (.int p3), .val (.int p4), .val (.int p5), .val (.int (own_nz (p5 &&& (1 : Int32)))), .unset, .unset, .unset, .unset, .unset, .unset, .unset, .unset, .unset, .unset, .unset, .unset, .unset, .unset]) rfl ?_
    exact kT)
  obtain ⟨n1, hn1⟩ : ∃ z, z = (own_nz (p5 &&& (1 : Int32))) := ⟨_, rfl⟩
  rw [← hn1] at pre2
  have pre3 : ∀ t, Steps p.tables e below (s₁.setTop (mkF m 26 #[.val (.int p1), .val (.int p2), .val (.int p3), .val (.int p4), .val (.int p5), .val (.int n1), .unset, .unset, .unset, .unset, .unset, .unset, .unset, .unset, .unset, .unset, .unset, .unset, .unset, .unset] [(.int (own_nz (p5 &&& (2 : Int32))))])) t → Steps p.tables e below (s₁.setTop (entryFrame m #[(.int p1), (.int p2), (.int p3), (.int p4), (.int p5)] maxLocals)) t := fun t kT => pre2 t (by
    show Steps p.tables e below (s₁.setTop (mkF m 14 #[.val (.int p1), .val (.int p2), .val (.int p3), .val (.int p4), .val (.int p5), .val (.int n1), .unset, .unset, .unset, .unset, .unset, .unset, .unset, .unset, .unset, .unset, .unset, .unset, .unset, .unset] [])) _
    refine XS.iload X0.here hx rfl (hb hby at_14) rfl ?_
    show Steps p.tables e below (s₁.setTop (mkF m 16 #[.val (.int p1), .val (.int p2), .val (.int p3), .val (.int p4), .val (.int p5), .val (.int n1), .unset, .unset, .unset, .unset, .unset, .unset, .unset, .unset, .unset, .unset, .unset, .unset, .unset, .unset] [(.int p5)])) _
    refine XS.iconst X0.here hx rfl (hb hby at_16) ?_
    show Steps p.tables e below (s₁.setTop (mkF m 17 #[.val (.int p1), .val (.int p2), .val (.int p3), .val (.int p4), .val (.int p5), .val (.int n1), .unset, .unset, .unset, .unset, .unset, .unset, .unset, .unset, .unset, .unset, .unset, .unset, .unset, .unset] [(.int (2 : Int32)), (.int p5)])) _
    refine XS.iand X0.here hx rfl (hb hby at_17) rfl ?_
    by_cases hc18 : (p5 &&& (2 : Int32)) = (0 : Int32)
    · show Steps p.tables e below (s₁.setTop (mkF m 18 #[.val (.int p1), .val (.int p2), .val (.int p3), .val (.int p4), .val (.int p5), .val (.int n1), .unset, .unset, .unset, .unset, .unset, .unset, .unset, .unset, .unset, .unset, .unset, .unset, .unset, .unset] [(.int (p5 &&& (2 : Int32)))])) _
      refine XS.ifYes X0.here hx rfl (pc0 := 18) (pc' := 25) rfl (hb hby at_18) rfl ((if0 _ _).trans (teq hc18).1) (by decide) (by decide) ?_
      show Steps p.tables e below (s₁.setTop (mkF m 25 #[.val (.int p1), .val (.int p2), .val (.int p3), .val (.int p4), .val (.int p5), .val (.int n1), .unset, .unset, .unset, .unset, .unset, .unset, .unset, .unset, .unset, .unset, .unset, .unset, .unset, .unset] [])) _
      refine XS.iconst X0.here hx rfl (hb hby at_25) ?_
      show Steps p.tables e below (s₁.setTop (mkF m 26 #[.val (.int p1), .val (.int p2), .val (.int p3), .val (.int p4), .val (.int p5), .val (.int n1), .unset, .unset, .unset, .unset, .unset, .unset, .unset, .unset, .unset, .unset, .unset, .unset, .unset, .unset] [(.int (0 : Int32))])) _
      exact castTop (by rw [show (own_nz (p5 &&& (2 : Int32))) = (0 : Int32) from by exact (if_pos hc18).trans (rfl)]) kT
    · show Steps p.tables e below (s₁.setTop (mkF m 18 #[.val (.int p1), .val (.int p2), .val (.int p3), .val (.int p4), .val (.int p5), .val (.int n1), .unset, .unset, .unset, .unset, .unset, .unset, .unset, .unset, .unset, .unset, .unset, .unset, .unset, .unset] [(.int (p5 &&& (2 : Int32)))])) _
      refine XS.ifNo X0.here hx rfl (hb hby at_18) rfl ((if0 _ _).trans (feq hc18).1) ?_
      show Steps p.tables e below (s₁.setTop (mkF m 21 #[.val (.int p1), .val (.int p2), .val (.int p3), .val (.int p4), .val (.int p5), .val (.int n1), .unset, .unset, .unset, .unset, .unset, .unset, .unset, .unset, .unset, .unset, .unset, .unset, .unset, .unset] [])) _
      refine XS.iconst X0.here hx rfl (hb hby at_21) ?_
      show Steps p.tables e below (s₁.setTop (mkF m 22 #[.val (.int p1), .val (.int p2), .val (.int p3), .val (.int p4), .val (.int p5), .val (.int n1), .unset, .unset, .unset, .unset, .unset, .unset, .unset, .unset, .unset, .unset, .unset, .unset, .unset, .unset] [(.int (1 : Int32))])) _
      refine XS.goto X0.here hx rfl (pc0 := 22) (pc' := 26) rfl (hb hby at_22) (by decide) (by decide) ?_
      show Steps p.tables e below (s₁.setTop (mkF m 26 #[.val (.int p1), .val (.int p2), .val (.int p3), .val (.int p4), .val (.int p5), .val (.int n1), .unset, .unset, .unset, .unset, .unset, .unset, .unset, .unset, .unset, .unset, .unset, .unset, .unset, .unset] [(.int (1 : Int32))])) _
      exact castTop (by rw [show (own_nz (p5 &&& (2 : Int32))) = (1 : Int32) from by exact (if_neg hc18).trans (rfl)]) kT)
  have pre4 : ∀ t, Steps p.tables e below (s₁.setTop (mkF m 28 #[.val (.int p1), .val (.int p2), .val (.int p3), .val (.int p4), .val (.int p5), .val (.int n1), .val (.int (own_nz (p5 &&& (2 : Int32)))), .unset, .unset, .unset, .unset, .unset, .unset, .unset, .unset, .unset, .unset, .unset, .unset, .unset] [])) t → Steps p.tables e below (s₁.setTop (entryFrame m #[(.int p1), (.int p2), (.int p3), (.int p4), (.int p5)] maxLocals)) t := fun t kT => pre3 t (by
    show Steps p.tables e below (s₁.setTop (mkF m 26 #[.val (.int p1), .val (.int p2), .val (.int p3), .val (.int p4), .val (.int p5), .val (.int n1), .unset, .unset, .unset, .unset, .unset, .unset, .unset, .unset, .unset, .unset, .unset, .unset, .unset, .unset] [(.int (own_nz (p5 &&& (2 : Int32))))])) _
    refine XS.istore X0.here hx rfl (hb hby at_26) rfl (l' := #[.val (.int p1), .val (.int p2), .val (.int p3), .val (.int p4), .val (.int p5), .val (.int n1), .val (.int (own_nz (p5 &&& (2 : Int32)))), .unset, .unset, .unset, .unset, .unset, .unset, .unset, .unset, .unset, .unset, .unset, .unset, .unset]) rfl ?_
    exact kT)
  obtain ⟨n2, hn2⟩ : ∃ z, z = (own_nz (p5 &&& (2 : Int32))) := ⟨_, rfl⟩
  rw [← hn2] at pre4
  have pre5 : ∀ t, Steps p.tables e below (s₁.setTop (mkF m 40 #[.val (.int p1), .val (.int p2), .val (.int p3), .val (.int p4), .val (.int p5), .val (.int n1), .val (.int n2), .val (.int (p1 &&& (1073741823 : Int32))), .val (.int (p2 &&& (1073741823 : Int32))), .unset, .unset, .unset, .unset, .unset, .unset, .unset, .unset, .unset, .unset, .unset] [])) t → Steps p.tables e below (s₁.setTop (entryFrame m #[(.int p1), (.int p2), (.int p3), (.int p4), (.int p5)] maxLocals)) t := fun t kT => pre4 t (by
    show Steps p.tables e below (s₁.setTop (mkF m 28 #[.val (.int p1), .val (.int p2), .val (.int p3), .val (.int p4), .val (.int p5), .val (.int n1), .val (.int n2), .unset, .unset, .unset, .unset, .unset, .unset, .unset, .unset, .unset, .unset, .unset, .unset, .unset] [])) _
    refine XS.iloadN X0.here hx rfl (hb hby at_28) rfl ?_
    show Steps p.tables e below (s₁.setTop (mkF m 29 #[.val (.int p1), .val (.int p2), .val (.int p3), .val (.int p4), .val (.int p5), .val (.int n1), .val (.int n2), .unset, .unset, .unset, .unset, .unset, .unset, .unset, .unset, .unset, .unset, .unset, .unset, .unset] [(.int p1)])) _
    refine X0.ldcI hx hown (mvT hZ (hw _ (List.mem_of_getElem? (i := 0) rfl))) rfl (hb hby at_29) ?_
    show Steps p.tables e below (s₁.setTop (mkF m 31 #[.val (.int p1), .val (.int p2), .val (.int p3), .val (.int p4), .val (.int p5), .val (.int n1), .val (.int n2), .unset, .unset, .unset, .unset, .unset, .unset, .unset, .unset, .unset, .unset, .unset, .unset, .unset] [(.int (1073741823 : Int32)), (.int p1)])) _
    refine XS.iand X0.here hx rfl (hb hby at_31) rfl ?_
    show Steps p.tables e below (s₁.setTop (mkF m 32 #[.val (.int p1), .val (.int p2), .val (.int p3), .val (.int p4), .val (.int p5), .val (.int n1), .val (.int n2), .unset, .unset, .unset, .unset, .unset, .unset, .unset, .unset, .unset, .unset, .unset, .unset, .unset] [(.int (p1 &&& (1073741823 : Int32)))])) _
    refine XS.istore X0.here hx rfl (hb hby at_32) rfl (l' := #[.val (.int p1), .val (.int p2), .val (.int p3), .val (.int p4), .val (.int p5), .val (.int n1), .val (.int n2), .val (.int (p1 &&& (1073741823 : Int32))), .unset, .unset, .unset, .unset, .unset, .unset, .unset, .unset, .unset, .unset, .unset, .unset]) rfl ?_
    show Steps p.tables e below (s₁.setTop (mkF m 34 #[.val (.int p1), .val (.int p2), .val (.int p3), .val (.int p4), .val (.int p5), .val (.int n1), .val (.int n2), .val (.int (p1 &&& (1073741823 : Int32))), .unset, .unset, .unset, .unset, .unset, .unset, .unset, .unset, .unset, .unset, .unset, .unset] [])) _
    refine XS.iloadN X0.here hx rfl (hb hby at_34) rfl ?_
    show Steps p.tables e below (s₁.setTop (mkF m 35 #[.val (.int p1), .val (.int p2), .val (.int p3), .val (.int p4), .val (.int p5), .val (.int n1), .val (.int n2), .val (.int (p1 &&& (1073741823 : Int32))), .unset, .unset, .unset, .unset, .unset, .unset, .unset, .unset, .unset, .unset, .unset, .unset] [(.int p2)])) _
    refine X0.ldcI hx hown (mvT hZ (hw _ (List.mem_of_getElem? (i := 0) rfl))) rfl (hb hby at_35) ?_
    show Steps p.tables e below (s₁.setTop (mkF m 37 #[.val (.int p1), .val (.int p2), .val (.int p3), .val (.int p4), .val (.int p5), .val (.int n1), .val (.int n2), .val (.int (p1 &&& (1073741823 : Int32))), .unset, .unset, .unset, .unset, .unset, .unset, .unset, .unset, .unset, .unset, .unset, .unset] [(.int (1073741823 : Int32)), (.int p2)])) _
    refine XS.iand X0.here hx rfl (hb hby at_37) rfl ?_
    show Steps p.tables e below (s₁.setTop (mkF m 38 #[.val (.int p1), .val (.int p2), .val (.int p3), .val (.int p4), .val (.int p5), .val (.int n1), .val (.int n2), .val (.int (p1 &&& (1073741823 : Int32))), .unset, .unset, .unset, .unset, .unset, .unset, .unset, .unset, .unset, .unset, .unset, .unset] [(.int (p2 &&& (1073741823 : Int32)))])) _
    refine XS.istore X0.here hx rfl (hb hby at_38) rfl (l' := #[.val (.int p1), .val (.int p2), .val (.int p3), .val (.int p4), .val (.int p5), .val (.int n1), .val (.int n2), .val (.int (p1 &&& (1073741823 : Int32))), .val (.int (p2 &&& (1073741823 : Int32))), .unset, .unset, .unset, .unset, .unset, .unset, .unset, .unset, .unset, .unset, .unset]) rfl ?_
    exact kT)
  obtain ⟨dA, hdA⟩ : ∃ z, z = (p1 &&& (1073741823 : Int32)) := ⟨_, rfl⟩
  rw [← hdA] at pre5
  obtain ⟨qA, hqA⟩ : ∃ z, z = (p2 &&& (1073741823 : Int32)) := ⟨_, rfl⟩
  rw [← hqA] at pre5
  have z1 : n1 = 0 ∨ n1 = 1 := hn1 ▸ own_nz01 _
  have z2 : n2 = 0 ∨ n2 = 1 := hn2 ▸ own_nz01 _
  have mA : 0 ≤ dA.toInt ∧ dA.toInt < 1073741824 := hdA ▸ own_mask p1
  have mQ : 0 ≤ qA.toInt ∧ qA.toInt < 1073741824 := hqA ▸ own_mask p2
  have pre6 : ∀ t, Steps p.tables e below (s₁.setTop (mkF m 59 #[.val (.int p1), .val (.int p2), .val (.int p3), .val (.int p4), .val (.int p5), .val (.int n1), .val (.int n2), .val (.int dA), .val (.int qA), .unset, .unset, .unset, .unset, .unset, .unset, .unset, .unset, .unset, .unset, .unset] [(.int (own_sel n1 ((dA + (1 : Int32)) + (p3 &&& (65535 : Int32))) dA))])) t → Steps p.tables e below (s₁.setTop (entryFrame m #[(.int p1), (.int p2), (.int p3), (.int p4), (.int p5)] maxLocals)) t := fun t kT => pre5 t (by
    show Steps p.tables e below (s₁.setTop (mkF m 40 #[.val (.int p1), .val (.int p2), .val (.int p3), .val (.int p4), .val (.int p5), .val (.int n1), .val (.int n2), .val (.int dA), .val (.int qA), .unset, .unset, .unset, .unset, .unset, .unset, .unset, .unset, .unset, .unset, .unset] [])) _
    refine XS.iload X0.here hx rfl (hb hby at_40) rfl ?_
    by_cases hc42 : n1 = (0 : Int32)
    · show Steps p.tables e below (s₁.setTop (mkF m 42 #[.val (.int p1), .val (.int p2), .val (.int p3), .val (.int p4), .val (.int p5), .val (.int n1), .val (.int n2), .val (.int dA), .val (.int qA), .unset, .unset, .unset, .unset, .unset, .unset, .unset, .unset, .unset, .unset, .unset] [(.int n1)])) _
      refine XS.ifYes X0.here hx rfl (pc0 := 42) (pc' := 57) rfl (hb hby at_42) rfl ((if0 _ _).trans (teq hc42).1) (by decide) (by decide) ?_
      show Steps p.tables e below (s₁.setTop (mkF m 57 #[.val (.int p1), .val (.int p2), .val (.int p3), .val (.int p4), .val (.int p5), .val (.int n1), .val (.int n2), .val (.int dA), .val (.int qA), .unset, .unset, .unset, .unset, .unset, .unset, .unset, .unset, .unset, .unset, .unset] [])) _
      refine XS.iload X0.here hx rfl (hb hby at_57) rfl ?_
      show Steps p.tables e below (s₁.setTop (mkF m 59 #[.val (.int p1), .val (.int p2), .val (.int p3), .val (.int p4), .val (.int p5), .val (.int n1), .val (.int n2), .val (.int dA), .val (.int qA), .unset, .unset, .unset, .unset, .unset, .unset, .unset, .unset, .unset, .unset, .unset] [(.int dA)])) _
      exact castTop (by rw [show (own_sel n1 ((dA + (1 : Int32)) + (p3 &&& (65535 : Int32))) dA) = dA from by exact (if_pos hc42).trans (rfl)]) kT
    · show Steps p.tables e below (s₁.setTop (mkF m 42 #[.val (.int p1), .val (.int p2), .val (.int p3), .val (.int p4), .val (.int p5), .val (.int n1), .val (.int n2), .val (.int dA), .val (.int qA), .unset, .unset, .unset, .unset, .unset, .unset, .unset, .unset, .unset, .unset, .unset] [(.int n1)])) _
      refine XS.ifNo X0.here hx rfl (hb hby at_42) rfl ((if0 _ _).trans (feq hc42).1) ?_
      show Steps p.tables e below (s₁.setTop (mkF m 45 #[.val (.int p1), .val (.int p2), .val (.int p3), .val (.int p4), .val (.int p5), .val (.int n1), .val (.int n2), .val (.int dA), .val (.int qA), .unset, .unset, .unset, .unset, .unset, .unset, .unset, .unset, .unset, .unset, .unset] [])) _
      refine XS.iload X0.here hx rfl (hb hby at_45) rfl ?_
      show Steps p.tables e below (s₁.setTop (mkF m 47 #[.val (.int p1), .val (.int p2), .val (.int p3), .val (.int p4), .val (.int p5), .val (.int n1), .val (.int n2), .val (.int dA), .val (.int qA), .unset, .unset, .unset, .unset, .unset, .unset, .unset, .unset, .unset, .unset, .unset] [(.int dA)])) _
      refine XS.iconst X0.here hx rfl (hb hby at_47) ?_
      show Steps p.tables e below (s₁.setTop (mkF m 48 #[.val (.int p1), .val (.int p2), .val (.int p3), .val (.int p4), .val (.int p5), .val (.int n1), .val (.int n2), .val (.int dA), .val (.int qA), .unset, .unset, .unset, .unset, .unset, .unset, .unset, .unset, .unset, .unset, .unset] [(.int (1 : Int32)), (.int dA)])) _
      refine XS.iadd X0.here hx rfl (hb hby at_48) rfl ?_
      show Steps p.tables e below (s₁.setTop (mkF m 49 #[.val (.int p1), .val (.int p2), .val (.int p3), .val (.int p4), .val (.int p5), .val (.int n1), .val (.int n2), .val (.int dA), .val (.int qA), .unset, .unset, .unset, .unset, .unset, .unset, .unset, .unset, .unset, .unset, .unset] [(.int (dA + (1 : Int32)))])) _
      refine XS.iloadN X0.here hx rfl (hb hby at_49) rfl ?_
      show Steps p.tables e below (s₁.setTop (mkF m 50 #[.val (.int p1), .val (.int p2), .val (.int p3), .val (.int p4), .val (.int p5), .val (.int n1), .val (.int n2), .val (.int dA), .val (.int qA), .unset, .unset, .unset, .unset, .unset, .unset, .unset, .unset, .unset, .unset, .unset] [(.int p3), (.int (dA + (1 : Int32)))])) _
      refine X0.ldcI hx hown (mvT hZ (hw _ (List.mem_of_getElem? (i := 1) rfl))) rfl (hb hby at_50) ?_
      show Steps p.tables e below (s₁.setTop (mkF m 52 #[.val (.int p1), .val (.int p2), .val (.int p3), .val (.int p4), .val (.int p5), .val (.int n1), .val (.int n2), .val (.int dA), .val (.int qA), .unset, .unset, .unset, .unset, .unset, .unset, .unset, .unset, .unset, .unset, .unset] [(.int (65535 : Int32)), (.int p3), (.int (dA + (1 : Int32)))])) _
      refine XS.iand X0.here hx rfl (hb hby at_52) rfl ?_
      show Steps p.tables e below (s₁.setTop (mkF m 53 #[.val (.int p1), .val (.int p2), .val (.int p3), .val (.int p4), .val (.int p5), .val (.int n1), .val (.int n2), .val (.int dA), .val (.int qA), .unset, .unset, .unset, .unset, .unset, .unset, .unset, .unset, .unset, .unset, .unset] [(.int (p3 &&& (65535 : Int32))), (.int (dA + (1 : Int32)))])) _
      refine XS.iadd X0.here hx rfl (hb hby at_53) rfl ?_
      show Steps p.tables e below (s₁.setTop (mkF m 54 #[.val (.int p1), .val (.int p2), .val (.int p3), .val (.int p4), .val (.int p5), .val (.int n1), .val (.int n2), .val (.int dA), .val (.int qA), .unset, .unset, .unset, .unset, .unset, .unset, .unset, .unset, .unset, .unset, .unset] [(.int ((dA + (1 : Int32)) + (p3 &&& (65535 : Int32))))])) _
      refine XS.goto X0.here hx rfl (pc0 := 54) (pc' := 59) rfl (hb hby at_54) (by decide) (by decide) ?_
      show Steps p.tables e below (s₁.setTop (mkF m 59 #[.val (.int p1), .val (.int p2), .val (.int p3), .val (.int p4), .val (.int p5), .val (.int n1), .val (.int n2), .val (.int dA), .val (.int qA), .unset, .unset, .unset, .unset, .unset, .unset, .unset, .unset, .unset, .unset, .unset] [(.int ((dA + (1 : Int32)) + (p3 &&& (65535 : Int32))))])) _
      exact castTop (by rw [show (own_sel n1 ((dA + (1 : Int32)) + (p3 &&& (65535 : Int32))) dA) = ((dA + (1 : Int32)) + (p3 &&& (65535 : Int32))) from by exact (if_neg hc42).trans (rfl)]) kT)
  have pre7 : ∀ t, Steps p.tables e below (s₁.setTop (mkF m 61 #[.val (.int p1), .val (.int p2), .val (.int p3), .val (.int p4), .val (.int p5), .val (.int n1), .val (.int n2), .val (.int dA), .val (.int qA), .val (.int (own_sel n1 ((dA + (1 : Int32)) + (p3 &&& (65535 : Int32))) dA)), .unset, .unset, .unset, .unset, .unset, .unset, .unset, .unset, .unset, .unset] [])) t → Steps p.tables e below (s₁.setTop (entryFrame m #[(.int p1), (.int p2), (.int p3), (.int p4), (.int p5)] maxLocals)) t := fun t kT => pre6 t (by
    show Steps p.tables e below (s₁.setTop (mkF m 59 #[.val (.int p1), .val (.int p2), .val (.int p3), .val (.int p4), .val (.int p5), .val (.int n1), .val (.int n2), .val (.int dA), .val (.int qA), .unset, .unset, .unset, .unset, .unset, .unset, .unset, .unset, .unset, .unset, .unset] [(.int (own_sel n1 ((dA + (1 : Int32)) + (p3 &&& (65535 : Int32))) dA))])) _
    refine XS.istore X0.here hx rfl (hb hby at_59) rfl (l' := #[.val (.int p1), .val (.int p2), .val (.int p3), .val (.int p4), .val (.int p5), .val (.int n1), .val (.int n2), .val (.int dA), .val (.int qA), .val (.int (own_sel n1 ((dA + (1 : Int32)) + (p3 &&& (65535 : Int32))) dA)), .unset, .unset, .unset, .unset, .unset, .unset, .unset, .unset, .unset, .unset]) rfl ?_
    exact kT)
  obtain ⟨dB, hdB⟩ : ∃ z, z = (own_sel n1 ((dA + (1 : Int32)) + (p3 &&& (65535 : Int32))) dA) := ⟨_, rfl⟩
  rw [← hdB] at pre7
  have pre8 : ∀ t, Steps p.tables e below (s₁.setTop (mkF m 81 #[.val (.int p1), .val (.int p2), .val (.int p3), .val (.int p4), .val (.int p5), .val (.int n1), .val (.int n2), .val (.int dA), .val (.int qA), .val (.int dB), .unset, .unset, .unset, .unset, .unset, .unset, .unset, .unset, .unset, .unset] [(.int (own_sel n1 ((p3.toUInt32 >>> ((2 : Int32) &&& 31).toUInt32).toInt32) ((qA + (1 : Int32)) + (p3 &&& (65535 : Int32)))))])) t → Steps p.tables e below (s₁.setTop (entryFrame m #[(.int p1), (.int p2), (.int p3), (.int p4), (.int p5)] maxLocals)) t := fun t kT => pre7 t (by
    show Steps p.tables e below (s₁.setTop (mkF m 61 #[.val (.int p1), .val (.int p2), .val (.int p3), .val (.int p4), .val (.int p5), .val (.int n1), .val (.int n2), .val (.int dA), .val (.int qA), .val (.int dB), .unset, .unset, .unset, .unset, .unset, .unset, .unset, .unset, .unset, .unset] [])) _
    refine XS.iload X0.here hx rfl (hb hby at_61) rfl ?_
    by_cases hc63 : n1 = (0 : Int32)
    · show Steps p.tables e below (s₁.setTop (mkF m 63 #[.val (.int p1), .val (.int p2), .val (.int p3), .val (.int p4), .val (.int p5), .val (.int n1), .val (.int n2), .val (.int dA), .val (.int qA), .val (.int dB), .unset, .unset, .unset, .unset, .unset, .unset, .unset, .unset, .unset, .unset] [(.int n1)])) _
      refine XS.ifYes X0.here hx rfl (pc0 := 63) (pc' := 72) rfl (hb hby at_63) rfl ((if0 _ _).trans (teq hc63).1) (by decide) (by decide) ?_
      show Steps p.tables e below (s₁.setTop (mkF m 72 #[.val (.int p1), .val (.int p2), .val (.int p3), .val (.int p4), .val (.int p5), .val (.int n1), .val (.int n2), .val (.int dA), .val (.int qA), .val (.int dB), .unset, .unset, .unset, .unset, .unset, .unset, .unset, .unset, .unset, .unset] [])) _
      refine XS.iload X0.here hx rfl (hb hby at_72) rfl ?_
      show Steps p.tables e below (s₁.setTop (mkF m 74 #[.val (.int p1), .val (.int p2), .val (.int p3), .val (.int p4), .val (.int p5), .val (.int n1), .val (.int n2), .val (.int dA), .val (.int qA), .val (.int dB), .unset, .unset, .unset, .unset, .unset, .unset, .unset, .unset, .unset, .unset] [(.int qA)])) _
      refine XS.iconst X0.here hx rfl (hb hby at_74) ?_
      show Steps p.tables e below (s₁.setTop (mkF m 75 #[.val (.int p1), .val (.int p2), .val (.int p3), .val (.int p4), .val (.int p5), .val (.int n1), .val (.int n2), .val (.int dA), .val (.int qA), .val (.int dB), .unset, .unset, .unset, .unset, .unset, .unset, .unset, .unset, .unset, .unset] [(.int (1 : Int32)), (.int qA)])) _
      refine XS.iadd X0.here hx rfl (hb hby at_75) rfl ?_
      show Steps p.tables e below (s₁.setTop (mkF m 76 #[.val (.int p1), .val (.int p2), .val (.int p3), .val (.int p4), .val (.int p5), .val (.int n1), .val (.int n2), .val (.int dA), .val (.int qA), .val (.int dB), .unset, .unset, .unset, .unset, .unset, .unset, .unset, .unset, .unset, .unset] [(.int (qA + (1 : Int32)))])) _
      refine XS.iloadN X0.here hx rfl (hb hby at_76) rfl ?_
      show Steps p.tables e below (s₁.setTop (mkF m 77 #[.val (.int p1), .val (.int p2), .val (.int p3), .val (.int p4), .val (.int p5), .val (.int n1), .val (.int n2), .val (.int dA), .val (.int qA), .val (.int dB), .unset, .unset, .unset, .unset, .unset, .unset, .unset, .unset, .unset, .unset] [(.int p3), (.int (qA + (1 : Int32)))])) _
      refine X0.ldcI hx hown (mvT hZ (hw _ (List.mem_of_getElem? (i := 1) rfl))) rfl (hb hby at_77) ?_
      show Steps p.tables e below (s₁.setTop (mkF m 79 #[.val (.int p1), .val (.int p2), .val (.int p3), .val (.int p4), .val (.int p5), .val (.int n1), .val (.int n2), .val (.int dA), .val (.int qA), .val (.int dB), .unset, .unset, .unset, .unset, .unset, .unset, .unset, .unset, .unset, .unset] [(.int (65535 : Int32)), (.int p3), (.int (qA + (1 : Int32)))])) _
      refine XS.iand X0.here hx rfl (hb hby at_79) rfl ?_
      show Steps p.tables e below (s₁.setTop (mkF m 80 #[.val (.int p1), .val (.int p2), .val (.int p3), .val (.int p4), .val (.int p5), .val (.int n1), .val (.int n2), .val (.int dA), .val (.int qA), .val (.int dB), .unset, .unset, .unset, .unset, .unset, .unset, .unset, .unset, .unset, .unset] [(.int (p3 &&& (65535 : Int32))), (.int (qA + (1 : Int32)))])) _
      refine XS.iadd X0.here hx rfl (hb hby at_80) rfl ?_
      show Steps p.tables e below (s₁.setTop (mkF m 81 #[.val (.int p1), .val (.int p2), .val (.int p3), .val (.int p4), .val (.int p5), .val (.int n1), .val (.int n2), .val (.int dA), .val (.int qA), .val (.int dB), .unset, .unset, .unset, .unset, .unset, .unset, .unset, .unset, .unset, .unset] [(.int ((qA + (1 : Int32)) + (p3 &&& (65535 : Int32))))])) _
      exact castTop (by rw [show (own_sel n1 ((p3.toUInt32 >>> ((2 : Int32) &&& 31).toUInt32).toInt32) ((qA + (1 : Int32)) + (p3 &&& (65535 : Int32)))) = ((qA + (1 : Int32)) + (p3 &&& (65535 : Int32))) from by exact (if_pos hc63).trans (rfl)]) kT
    · show Steps p.tables e below (s₁.setTop (mkF m 63 #[.val (.int p1), .val (.int p2), .val (.int p3), .val (.int p4), .val (.int p5), .val (.int n1), .val (.int n2), .val (.int dA), .val (.int qA), .val (.int dB), .unset, .unset, .unset, .unset, .unset, .unset, .unset, .unset, .unset, .unset] [(.int n1)])) _
      refine XS.ifNo X0.here hx rfl (hb hby at_63) rfl ((if0 _ _).trans (feq hc63).1) ?_
      show Steps p.tables e below (s₁.setTop (mkF m 66 #[.val (.int p1), .val (.int p2), .val (.int p3), .val (.int p4), .val (.int p5), .val (.int n1), .val (.int n2), .val (.int dA), .val (.int qA), .val (.int dB), .unset, .unset, .unset, .unset, .unset, .unset, .unset, .unset, .unset, .unset] [])) _
      refine XS.iloadN X0.here hx rfl (hb hby at_66) rfl ?_
      show Steps p.tables e below (s₁.setTop (mkF m 67 #[.val (.int p1), .val (.int p2), .val (.int p3), .val (.int p4), .val (.int p5), .val (.int n1), .val (.int n2), .val (.int dA), .val (.int qA), .val (.int dB), .unset, .unset, .unset, .unset, .unset, .unset, .unset, .unset, .unset, .unset] [(.int p3)])) _
      refine XS.iconst X0.here hx rfl (hb hby at_67) ?_
      show Steps p.tables e below (s₁.setTop (mkF m 68 #[.val (.int p1), .val (.int p2), .val (.int p3), .val (.int p4), .val (.int p5), .val (.int n1), .val (.int n2), .val (.int dA), .val (.int qA), .val (.int dB), .unset, .unset, .unset, .unset, .unset, .unset, .unset, .unset, .unset, .unset] [(.int (2 : Int32)), (.int p3)])) _
      refine XS.iushr X0.here hx rfl (hb hby at_68) rfl ?_
      show Steps p.tables e below (s₁.setTop (mkF m 69 #[.val (.int p1), .val (.int p2), .val (.int p3), .val (.int p4), .val (.int p5), .val (.int n1), .val (.int n2), .val (.int dA), .val (.int qA), .val (.int dB), .unset, .unset, .unset, .unset, .unset, .unset, .unset, .unset, .unset, .unset] [(.int ((p3.toUInt32 >>> ((2 : Int32) &&& 31).toUInt32).toInt32))])) _
      refine XS.goto X0.here hx rfl (pc0 := 69) (pc' := 81) rfl (hb hby at_69) (by decide) (by decide) ?_
      show Steps p.tables e below (s₁.setTop (mkF m 81 #[.val (.int p1), .val (.int p2), .val (.int p3), .val (.int p4), .val (.int p5), .val (.int n1), .val (.int n2), .val (.int dA), .val (.int qA), .val (.int dB), .unset, .unset, .unset, .unset, .unset, .unset, .unset, .unset, .unset, .unset] [(.int ((p3.toUInt32 >>> ((2 : Int32) &&& 31).toUInt32).toInt32))])) _
      exact castTop (by rw [show (own_sel n1 ((p3.toUInt32 >>> ((2 : Int32) &&& 31).toUInt32).toInt32) ((qA + (1 : Int32)) + (p3 &&& (65535 : Int32)))) = ((p3.toUInt32 >>> ((2 : Int32) &&& 31).toUInt32).toInt32) from by exact (if_neg hc63).trans (rfl)]) kT)
  have pre9 : ∀ t, Steps p.tables e below (s₁.setTop (mkF m 83 #[.val (.int p1), .val (.int p2), .val (.int p3), .val (.int p4), .val (.int p5), .val (.int n1), .val (.int n2), .val (.int dA), .val (.int qA), .val (.int dB), .val (.int (own_sel n1 ((p3.toUInt32 >>> ((2 : Int32) &&& 31).toUInt32).toInt32) ((qA + (1 : Int32)) + (p3 &&& (65535 : Int32))))), .unset, .unset, .unset, .unset, .unset, .unset, .unset, .unset, .unset] [])) t → Steps p.tables e below (s₁.setTop (entryFrame m #[(.int p1), (.int p2), (.int p3), (.int p4), (.int p5)] maxLocals)) t := fun t kT => pre8 t (by
    show Steps p.tables e below (s₁.setTop (mkF m 81 #[.val (.int p1), .val (.int p2), .val (.int p3), .val (.int p4), .val (.int p5), .val (.int n1), .val (.int n2), .val (.int dA), .val (.int qA), .val (.int dB), .unset, .unset, .unset, .unset, .unset, .unset, .unset, .unset, .unset, .unset] [(.int (own_sel n1 ((p3.toUInt32 >>> ((2 : Int32) &&& 31).toUInt32).toInt32) ((qA + (1 : Int32)) + (p3 &&& (65535 : Int32)))))])) _
    refine XS.istore X0.here hx rfl (hb hby at_81) rfl (l' := #[.val (.int p1), .val (.int p2), .val (.int p3), .val (.int p4), .val (.int p5), .val (.int n1), .val (.int n2), .val (.int dA), .val (.int qA), .val (.int dB), .val (.int (own_sel n1 ((p3.toUInt32 >>> ((2 : Int32) &&& 31).toUInt32).toInt32) ((qA + (1 : Int32)) + (p3 &&& (65535 : Int32))))), .unset, .unset, .unset, .unset, .unset, .unset, .unset, .unset, .unset]) rfl ?_
    exact kT)
  obtain ⟨qB, hqB⟩ : ∃ z, z = (own_sel n1 ((p3.toUInt32 >>> ((2 : Int32) &&& 31).toUInt32).toInt32) ((qA + (1 : Int32)) + (p3 &&& (65535 : Int32)))) := ⟨_, rfl⟩
  rw [← hqB] at pre9
  have fB := own_next dA qA p3 n1 z1 mA.1 (by omega) mQ.1 (by omega)
  have fB : (n1 = 0 → dB = dA ∧ qA < qB) ∧ (n1 = 1 → ¬ dB = dA) ∧ ¬ dB < dA ∧ 0 ≤ dB.toInt ∧ dB.toInt ≤ dA.toInt + 65536 ∧ 0 ≤ qB.toInt ∧ (qB.toInt < 1073741824 ∨ qB.toInt ≤ qA.toInt + 65536) := by rw [hdB, hqB]; exact fB
  have pre10 : ∀ t, Steps p.tables e below (s₁.setTop (mkF m 102 #[.val (.int p1), .val (.int p2), .val (.int p3), .val (.int p4), .val (.int p5), .val (.int n1), .val (.int n2), .val (.int dA), .val (.int qA), .val (.int dB), .val (.int qB), .unset, .unset, .unset, .unset, .unset, .unset, .unset, .unset, .unset] [(.int (own_sel n2 ((dB + (1 : Int32)) + (p4 &&& (65535 : Int32))) dB))])) t → Steps p.tables e below (s₁.setTop (entryFrame m #[(.int p1), (.int p2), (.int p3), (.int p4), (.int p5)] maxLocals)) t := fun t kT => pre9 t (by
    show Steps p.tables e below (s₁.setTop (mkF m 83 #[.val (.int p1), .val (.int p2), .val (.int p3), .val (.int p4), .val (.int p5), .val (.int n1), .val (.int n2), .val (.int dA), .val (.int qA), .val (.int dB), .val (.int qB), .unset, .unset, .unset, .unset, .unset, .unset, .unset, .unset, .unset] [])) _
    refine XS.iload X0.here hx rfl (hb hby at_83) rfl ?_
    by_cases hc85 : n2 = (0 : Int32)
    · show Steps p.tables e below (s₁.setTop (mkF m 85 #[.val (.int p1), .val (.int p2), .val (.int p3), .val (.int p4), .val (.int p5), .val (.int n1), .val (.int n2), .val (.int dA), .val (.int qA), .val (.int dB), .val (.int qB), .unset, .unset, .unset, .unset, .unset, .unset, .unset, .unset, .unset] [(.int n2)])) _
      refine XS.ifYes X0.here hx rfl (pc0 := 85) (pc' := 100) rfl (hb hby at_85) rfl ((if0 _ _).trans (teq hc85).1) (by decide) (by decide) ?_
      show Steps p.tables e below (s₁.setTop (mkF m 100 #[.val (.int p1), .val (.int p2), .val (.int p3), .val (.int p4), .val (.int p5), .val (.int n1), .val (.int n2), .val (.int dA), .val (.int qA), .val (.int dB), .val (.int qB), .unset, .unset, .unset, .unset, .unset, .unset, .unset, .unset, .unset] [])) _
      refine XS.iload X0.here hx rfl (hb hby at_100) rfl ?_
      show Steps p.tables e below (s₁.setTop (mkF m 102 #[.val (.int p1), .val (.int p2), .val (.int p3), .val (.int p4), .val (.int p5), .val (.int n1), .val (.int n2), .val (.int dA), .val (.int qA), .val (.int dB), .val (.int qB), .unset, .unset, .unset, .unset, .unset, .unset, .unset, .unset, .unset] [(.int dB)])) _
      exact castTop (by rw [show (own_sel n2 ((dB + (1 : Int32)) + (p4 &&& (65535 : Int32))) dB) = dB from by exact (if_pos hc85).trans (rfl)]) kT
    · show Steps p.tables e below (s₁.setTop (mkF m 85 #[.val (.int p1), .val (.int p2), .val (.int p3), .val (.int p4), .val (.int p5), .val (.int n1), .val (.int n2), .val (.int dA), .val (.int qA), .val (.int dB), .val (.int qB), .unset, .unset, .unset, .unset, .unset, .unset, .unset, .unset, .unset] [(.int n2)])) _
      refine XS.ifNo X0.here hx rfl (hb hby at_85) rfl ((if0 _ _).trans (feq hc85).1) ?_
      show Steps p.tables e below (s₁.setTop (mkF m 88 #[.val (.int p1), .val (.int p2), .val (.int p3), .val (.int p4), .val (.int p5), .val (.int n1), .val (.int n2), .val (.int dA), .val (.int qA), .val (.int dB), .val (.int qB), .unset, .unset, .unset, .unset, .unset, .unset, .unset, .unset, .unset] [])) _
      refine XS.iload X0.here hx rfl (hb hby at_88) rfl ?_
      show Steps p.tables e below (s₁.setTop (mkF m 90 #[.val (.int p1), .val (.int p2), .val (.int p3), .val (.int p4), .val (.int p5), .val (.int n1), .val (.int n2), .val (.int dA), .val (.int qA), .val (.int dB), .val (.int qB), .unset, .unset, .unset, .unset, .unset, .unset, .unset, .unset, .unset] [(.int dB)])) _
      refine XS.iconst X0.here hx rfl (hb hby at_90) ?_
      show Steps p.tables e below (s₁.setTop (mkF m 91 #[.val (.int p1), .val (.int p2), .val (.int p3), .val (.int p4), .val (.int p5), .val (.int n1), .val (.int n2), .val (.int dA), .val (.int qA), .val (.int dB), .val (.int qB), .unset, .unset, .unset, .unset, .unset, .unset, .unset, .unset, .unset] [(.int (1 : Int32)), (.int dB)])) _
      refine XS.iadd X0.here hx rfl (hb hby at_91) rfl ?_
      show Steps p.tables e below (s₁.setTop (mkF m 92 #[.val (.int p1), .val (.int p2), .val (.int p3), .val (.int p4), .val (.int p5), .val (.int n1), .val (.int n2), .val (.int dA), .val (.int qA), .val (.int dB), .val (.int qB), .unset, .unset, .unset, .unset, .unset, .unset, .unset, .unset, .unset] [(.int (dB + (1 : Int32)))])) _
      refine XS.iloadN X0.here hx rfl (hb hby at_92) rfl ?_
      show Steps p.tables e below (s₁.setTop (mkF m 93 #[.val (.int p1), .val (.int p2), .val (.int p3), .val (.int p4), .val (.int p5), .val (.int n1), .val (.int n2), .val (.int dA), .val (.int qA), .val (.int dB), .val (.int qB), .unset, .unset, .unset, .unset, .unset, .unset, .unset, .unset, .unset] [(.int p4), (.int (dB + (1 : Int32)))])) _
      refine X0.ldcI hx hown (mvT hZ (hw _ (List.mem_of_getElem? (i := 1) rfl))) rfl (hb hby at_93) ?_
      show Steps p.tables e below (s₁.setTop (mkF m 95 #[.val (.int p1), .val (.int p2), .val (.int p3), .val (.int p4), .val (.int p5), .val (.int n1), .val (.int n2), .val (.int dA), .val (.int qA), .val (.int dB), .val (.int qB), .unset, .unset, .unset, .unset, .unset, .unset, .unset, .unset, .unset] [(.int (65535 : Int32)), (.int p4), (.int (dB + (1 : Int32)))])) _
      refine XS.iand X0.here hx rfl (hb hby at_95) rfl ?_
      show Steps p.tables e below (s₁.setTop (mkF m 96 #[.val (.int p1), .val (.int p2), .val (.int p3), .val (.int p4), .val (.int p5), .val (.int n1), .val (.int n2), .val (.int dA), .val (.int qA), .val (.int dB), .val (.int qB), .unset, .unset, .unset, .unset, .unset, .unset, .unset, .unset, .unset] [(.int (p4 &&& (65535 : Int32))), (.int (dB + (1 : Int32)))])) _
      refine XS.iadd X0.here hx rfl (hb hby at_96) rfl ?_
      show Steps p.tables e below (s₁.setTop (mkF m 97 #[.val (.int p1), .val (.int p2), .val (.int p3), .val (.int p4), .val (.int p5), .val (.int n1), .val (.int n2), .val (.int dA), .val (.int qA), .val (.int dB), .val (.int qB), .unset, .unset, .unset, .unset, .unset, .unset, .unset, .unset, .unset] [(.int ((dB + (1 : Int32)) + (p4 &&& (65535 : Int32))))])) _
      refine XS.goto X0.here hx rfl (pc0 := 97) (pc' := 102) rfl (hb hby at_97) (by decide) (by decide) ?_
      show Steps p.tables e below (s₁.setTop (mkF m 102 #[.val (.int p1), .val (.int p2), .val (.int p3), .val (.int p4), .val (.int p5), .val (.int n1), .val (.int n2), .val (.int dA), .val (.int qA), .val (.int dB), .val (.int qB), .unset, .unset, .unset, .unset, .unset, .unset, .unset, .unset, .unset] [(.int ((dB + (1 : Int32)) + (p4 &&& (65535 : Int32))))])) _
      exact castTop (by rw [show (own_sel n2 ((dB + (1 : Int32)) + (p4 &&& (65535 : Int32))) dB) = ((dB + (1 : Int32)) + (p4 &&& (65535 : Int32))) from by exact (if_neg hc85).trans (rfl)]) kT)
  have pre11 : ∀ t, Steps p.tables e below (s₁.setTop (mkF m 104 #[.val (.int p1), .val (.int p2), .val (.int p3), .val (.int p4), .val (.int p5), .val (.int n1), .val (.int n2), .val (.int dA), .val (.int qA), .val (.int dB), .val (.int qB), .val (.int (own_sel n2 ((dB + (1 : Int32)) + (p4 &&& (65535 : Int32))) dB)), .unset, .unset, .unset, .unset, .unset, .unset, .unset, .unset] [])) t → Steps p.tables e below (s₁.setTop (entryFrame m #[(.int p1), (.int p2), (.int p3), (.int p4), (.int p5)] maxLocals)) t := fun t kT => pre10 t (by
    show Steps p.tables e below (s₁.setTop (mkF m 102 #[.val (.int p1), .val (.int p2), .val (.int p3), .val (.int p4), .val (.int p5), .val (.int n1), .val (.int n2), .val (.int dA), .val (.int qA), .val (.int dB), .val (.int qB), .unset, .unset, .unset, .unset, .unset, .unset, .unset, .unset, .unset] [(.int (own_sel n2 ((dB + (1 : Int32)) + (p4 &&& (65535 : Int32))) dB))])) _
    refine XS.istore X0.here hx rfl (hb hby at_102) rfl (l' := #[.val (.int p1), .val (.int p2), .val (.int p3), .val (.int p4), .val (.int p5), .val (.int n1), .val (.int n2), .val (.int dA), .val (.int qA), .val (.int dB), .val (.int qB), .val (.int (own_sel n2 ((dB + (1 : Int32)) + (p4 &&& (65535 : Int32))) dB)), .unset, .unset, .unset, .unset, .unset, .unset, .unset, .unset]) rfl ?_
    exact kT)
  obtain ⟨dC, hdC⟩ : ∃ z, z = (own_sel n2 ((dB + (1 : Int32)) + (p4 &&& (65535 : Int32))) dB) := ⟨_, rfl⟩
  rw [← hdC] at pre11
  have pre12 : ∀ t, Steps p.tables e below (s₁.setTop (mkF m 124 #[.val (.int p1), .val (.int p2), .val (.int p3), .val (.int p4), .val (.int p5), .val (.int n1), .val (.int n2), .val (.int dA), .val (.int qA), .val (.int dB), .val (.int qB), .val (.int dC), .unset, .unset, .unset, .unset, .unset, .unset, .unset, .unset] [(.int (own_sel n2 ((p4.toUInt32 >>> ((2 : Int32) &&& 31).toUInt32).toInt32) ((qB + (1 : Int32)) + (p4 &&& (65535 : Int32)))))])) t → Steps p.tables e below (s₁.setTop (entryFrame m #[(.int p1), (.int p2), (.int p3), (.int p4), (.int p5)] maxLocals)) t := fun t kT => pre11 t (by
    show Steps p.tables e below (s₁.setTop (mkF m 104 #[.val (.int p1), .val (.int p2), .val (.int p3), .val (.int p4), .val (.int p5), .val (.int n1), .val (.int n2), .val (.int dA), .val (.int qA), .val (.int dB), .val (.int qB), .val (.int dC), .unset, .unset, .unset, .unset, .unset, .unset, .unset, .unset] [])) _
    refine XS.iload X0.here hx rfl (hb hby at_104) rfl ?_
    by_cases hc106 : n2 = (0 : Int32)
    · show Steps p.tables e below (s₁.setTop (mkF m 106 #[.val (.int p1), .val (.int p2), .val (.int p3), .val (.int p4), .val (.int p5), .val (.int n1), .val (.int n2), .val (.int dA), .val (.int qA), .val (.int dB), .val (.int qB), .val (.int dC), .unset, .unset, .unset, .unset, .unset, .unset, .unset, .unset] [(.int n2)])) _
      refine XS.ifYes X0.here hx rfl (pc0 := 106) (pc' := 115) rfl (hb hby at_106) rfl ((if0 _ _).trans (teq hc106).1) (by decide) (by decide) ?_
      show Steps p.tables e below (s₁.setTop (mkF m 115 #[.val (.int p1), .val (.int p2), .val (.int p3), .val (.int p4), .val (.int p5), .val (.int n1), .val (.int n2), .val (.int dA), .val (.int qA), .val (.int dB), .val (.int qB), .val (.int dC), .unset, .unset, .unset, .unset, .unset, .unset, .unset, .unset] [])) _
      refine XS.iload X0.here hx rfl (hb hby at_115) rfl ?_
      show Steps p.tables e below (s₁.setTop (mkF m 117 #[.val (.int p1), .val (.int p2), .val (.int p3), .val (.int p4), .val (.int p5), .val (.int n1), .val (.int n2), .val (.int dA), .val (.int qA), .val (.int dB), .val (.int qB), .val (.int dC), .unset, .unset, .unset, .unset, .unset, .unset, .unset, .unset] [(.int qB)])) _
      refine XS.iconst X0.here hx rfl (hb hby at_117) ?_
      show Steps p.tables e below (s₁.setTop (mkF m 118 #[.val (.int p1), .val (.int p2), .val (.int p3), .val (.int p4), .val (.int p5), .val (.int n1), .val (.int n2), .val (.int dA), .val (.int qA), .val (.int dB), .val (.int qB), .val (.int dC), .unset, .unset, .unset, .unset, .unset, .unset, .unset, .unset] [(.int (1 : Int32)), (.int qB)])) _
      refine XS.iadd X0.here hx rfl (hb hby at_118) rfl ?_
      show Steps p.tables e below (s₁.setTop (mkF m 119 #[.val (.int p1), .val (.int p2), .val (.int p3), .val (.int p4), .val (.int p5), .val (.int n1), .val (.int n2), .val (.int dA), .val (.int qA), .val (.int dB), .val (.int qB), .val (.int dC), .unset, .unset, .unset, .unset, .unset, .unset, .unset, .unset] [(.int (qB + (1 : Int32)))])) _
      refine XS.iloadN X0.here hx rfl (hb hby at_119) rfl ?_
      show Steps p.tables e below (s₁.setTop (mkF m 120 #[.val (.int p1), .val (.int p2), .val (.int p3), .val (.int p4), .val (.int p5), .val (.int n1), .val (.int n2), .val (.int dA), .val (.int qA), .val (.int dB), .val (.int qB), .val (.int dC), .unset, .unset, .unset, .unset, .unset, .unset, .unset, .unset] [(.int p4), (.int (qB + (1 : Int32)))])) _
      refine X0.ldcI hx hown (mvT hZ (hw _ (List.mem_of_getElem? (i := 1) rfl))) rfl (hb hby at_120) ?_
      show Steps p.tables e below (s₁.setTop (mkF m 122 #[.val (.int p1), .val (.int p2), .val (.int p3), .val (.int p4), .val (.int p5), .val (.int n1), .val (.int n2), .val (.int dA), .val (.int qA), .val (.int dB), .val (.int qB), .val (.int dC), .unset, .unset, .unset, .unset, .unset, .unset, .unset, .unset] [(.int (65535 : Int32)), (.int p4), (.int (qB + (1 : Int32)))])) _
      refine XS.iand X0.here hx rfl (hb hby at_122) rfl ?_
      show Steps p.tables e below (s₁.setTop (mkF m 123 #[.val (.int p1), .val (.int p2), .val (.int p3), .val (.int p4), .val (.int p5), .val (.int n1), .val (.int n2), .val (.int dA), .val (.int qA), .val (.int dB), .val (.int qB), .val (.int dC), .unset, .unset, .unset, .unset, .unset, .unset, .unset, .unset] [(.int (p4 &&& (65535 : Int32))), (.int (qB + (1 : Int32)))])) _
      refine XS.iadd X0.here hx rfl (hb hby at_123) rfl ?_
      show Steps p.tables e below (s₁.setTop (mkF m 124 #[.val (.int p1), .val (.int p2), .val (.int p3), .val (.int p4), .val (.int p5), .val (.int n1), .val (.int n2), .val (.int dA), .val (.int qA), .val (.int dB), .val (.int qB), .val (.int dC), .unset, .unset, .unset, .unset, .unset, .unset, .unset, .unset] [(.int ((qB + (1 : Int32)) + (p4 &&& (65535 : Int32))))])) _
      exact castTop (by rw [show (own_sel n2 ((p4.toUInt32 >>> ((2 : Int32) &&& 31).toUInt32).toInt32) ((qB + (1 : Int32)) + (p4 &&& (65535 : Int32)))) = ((qB + (1 : Int32)) + (p4 &&& (65535 : Int32))) from by exact (if_pos hc106).trans (rfl)]) kT
    · show Steps p.tables e below (s₁.setTop (mkF m 106 #[.val (.int p1), .val (.int p2), .val (.int p3), .val (.int p4), .val (.int p5), .val (.int n1), .val (.int n2), .val (.int dA), .val (.int qA), .val (.int dB), .val (.int qB), .val (.int dC), .unset, .unset, .unset, .unset, .unset, .unset, .unset, .unset] [(.int n2)])) _
      refine XS.ifNo X0.here hx rfl (hb hby at_106) rfl ((if0 _ _).trans (feq hc106).1) ?_
      show Steps p.tables e below (s₁.setTop (mkF m 109 #[.val (.int p1), .val (.int p2), .val (.int p3), .val (.int p4), .val (.int p5), .val (.int n1), .val (.int n2), .val (.int dA), .val (.int qA), .val (.int dB), .val (.int qB), .val (.int dC), .unset, .unset, .unset, .unset, .unset, .unset, .unset, .unset] [])) _
      refine XS.iloadN X0.here hx rfl (hb hby at_109) rfl ?_
      show Steps p.tables e below (s₁.setTop (mkF m 110 #[.val (.int p1), .val (.int p2), .val (.int p3), .val (.int p4), .val (.int p5), .val (.int n1), .val (.int n2), .val (.int dA), .val (.int qA), .val (.int dB), .val (.int qB), .val (.int dC), .unset, .unset, .unset, .unset, .unset, .unset, .unset, .unset] [(.int p4)])) _
      refine XS.iconst X0.here hx rfl (hb hby at_110) ?_
      show Steps p.tables e below (s₁.setTop (mkF m 111 #[.val (.int p1), .val (.int p2), .val (.int p3), .val (.int p4), .val (.int p5), .val (.int n1), .val (.int n2), .val (.int dA), .val (.int qA), .val (.int dB), .val (.int qB), .val (.int dC), .unset, .unset, .unset, .unset, .unset, .unset, .unset, .unset] [(.int (2 : Int32)), (.int p4)])) _
      refine XS.iushr X0.here hx rfl (hb hby at_111) rfl ?_
      show Steps p.tables e below (s₁.setTop (mkF m 112 #[.val (.int p1), .val (.int p2), .val (.int p3), .val (.int p4), .val (.int p5), .val (.int n1), .val (.int n2), .val (.int dA), .val (.int qA), .val (.int dB), .val (.int qB), .val (.int dC), .unset, .unset, .unset, .unset, .unset, .unset, .unset, .unset] [(.int ((p4.toUInt32 >>> ((2 : Int32) &&& 31).toUInt32).toInt32))])) _
      refine XS.goto X0.here hx rfl (pc0 := 112) (pc' := 124) rfl (hb hby at_112) (by decide) (by decide) ?_
      show Steps p.tables e below (s₁.setTop (mkF m 124 #[.val (.int p1), .val (.int p2), .val (.int p3), .val (.int p4), .val (.int p5), .val (.int n1), .val (.int n2), .val (.int dA), .val (.int qA), .val (.int dB), .val (.int qB), .val (.int dC), .unset, .unset, .unset, .unset, .unset, .unset, .unset, .unset] [(.int ((p4.toUInt32 >>> ((2 : Int32) &&& 31).toUInt32).toInt32))])) _
      exact castTop (by rw [show (own_sel n2 ((p4.toUInt32 >>> ((2 : Int32) &&& 31).toUInt32).toInt32) ((qB + (1 : Int32)) + (p4 &&& (65535 : Int32)))) = ((p4.toUInt32 >>> ((2 : Int32) &&& 31).toUInt32).toInt32) from by exact (if_neg hc106).trans (rfl)]) kT)
  have pre13 : ∀ t, Steps p.tables e below (s₁.setTop (mkF m 126 #[.val (.int p1), .val (.int p2), .val (.int p3), .val (.int p4), .val (.int p5), .val (.int n1), .val (.int n2), .val (.int dA), .val (.int qA), .val (.int dB), .val (.int qB), .val (.int dC), .val (.int (own_sel n2 ((p4.toUInt32 >>> ((2 : Int32) &&& 31).toUInt32).toInt32) ((qB + (1 : Int32)) + (p4 &&& (65535 : Int32))))), .unset, .unset, .unset, .unset, .unset, .unset, .unset] [])) t → Steps p.tables e below (s₁.setTop (entryFrame m #[(.int p1), (.int p2), (.int p3), (.int p4), (.int p5)] maxLocals)) t := fun t kT => pre12 t (by
    show Steps p.tables e below (s₁.setTop (mkF m 124 #[.val (.int p1), .val (.int p2), .val (.int p3), .val (.int p4), .val (.int p5), .val (.int n1), .val (.int n2), .val (.int dA), .val (.int qA), .val (.int dB), .val (.int qB), .val (.int dC), .unset, .unset, .unset, .unset, .unset, .unset, .unset, .unset] [(.int (own_sel n2 ((p4.toUInt32 >>> ((2 : Int32) &&& 31).toUInt32).toInt32) ((qB + (1 : Int32)) + (p4 &&& (65535 : Int32)))))])) _
    refine XS.istore X0.here hx rfl (hb hby at_124) rfl (l' := #[.val (.int p1), .val (.int p2), .val (.int p3), .val (.int p4), .val (.int p5), .val (.int n1), .val (.int n2), .val (.int dA), .val (.int qA), .val (.int dB), .val (.int qB), .val (.int dC), .val (.int (own_sel n2 ((p4.toUInt32 >>> ((2 : Int32) &&& 31).toUInt32).toInt32) ((qB + (1 : Int32)) + (p4 &&& (65535 : Int32))))), .unset, .unset, .unset, .unset, .unset, .unset, .unset]) rfl ?_
    exact kT)
  obtain ⟨qC, hqC⟩ : ∃ z, z = (own_sel n2 ((p4.toUInt32 >>> ((2 : Int32) &&& 31).toUInt32).toInt32) ((qB + (1 : Int32)) + (p4 &&& (65535 : Int32)))) := ⟨_, rfl⟩
  rw [← hqC] at pre13
  have fC := own_next dB qB p4 n2 z2 fB.2.2.2.1 (by omega) fB.2.2.2.2.2.1 (by omega)
  have fC : (n2 = 0 → dC = dB ∧ qB < qC) ∧ (n2 = 1 → ¬ dC = dB) ∧ ¬ dC < dB ∧ 0 ≤ dC.toInt ∧ dC.toInt ≤ dB.toInt + 65536 ∧ 0 ≤ qC.toInt ∧ (qC.toInt < 1073741824 ∨ qC.toInt ≤ qB.toInt + 65536) := by rw [hdC, hqC]; exact fC
  have pre14 : ∀ t, Steps p.tables e below (s₁.setTop (mkF m 126 #[.val (.int p1), .val (.int p2), .val (.int p3), .val (.int p4), .val (.int p5), .val (.int n1), .val (.int n2), .val (.int dA), .val (.int qA), .val (.int dB), .val (.int qB), .val (.int dC), .val (.int qC), .unset, .unset, .unset, .unset, .unset, .unset, .unset] [])) t → Steps p.tables e below (s₁.setTop (entryFrame m #[(.int p1), (.int p2), (.int p3), (.int p4), (.int p5)] maxLocals)) t := fun t kT => pre13 t (by
    exact kT)
  obtain ⟨T15, h15, X15, e15, E15, A15, D15, -, st15⟩ := newO X0 hx hZ hown (hw _ (List.mem_of_getElem? (i := 2) rfl)) (hw _ (List.mem_of_getElem? (i := 3) rfl)) (hw _ (List.mem_of_getElem? (i := 4) rfl)) e0 (g := (mkF m 126 #[.val (.int p1), .val (.int p2), .val (.int p3), .val (.int p4), .val (.int p5), .val (.int n1), .val (.int n2), .val (.int dA), .val (.int qA), .val (.int dB), .val (.int qB), .val (.int dC), .val (.int qC), .unset, .unset, .unset, .unset, .unset, .unset, .unset] [])) rfl (hb hby at_126) (by decide) (by decide)
  obtain ⟨b1, g15⟩ : ∃ z, z = h0.size := ⟨_, rfl⟩
  rw [← g15] at A15 D15 st15
  have pre16 : ∀ t, Steps p.tables e below (T15.setTop (mkF m 129 #[.val (.int p1), .val (.int p2), .val (.int p3), .val (.int p4), .val (.int p5), .val (.int n1), .val (.int n2), .val (.int dA), .val (.int qA), .val (.int dB), .val (.int qB), .val (.int dC), .val (.int qC), .unset, .unset, .unset, .unset, .unset, .unset, .unset] [(.ref b1)])) t → Steps p.tables e below (s₁.setTop (entryFrame m #[(.int p1), (.int p2), (.int p3), (.int p4), (.int p5)] maxLocals)) t := fun t kT => pre14 t (st15 t kT)
  have g_b1 : n0 ≤ b1 := Nat.le_trans Z0 (Nat.le_of_eq g15.symm)
  have sz15 : n0 ≤ h15.size := Nat.le_trans Z0 E15.1
  have F_b1_docs : Fld Z h15 b1 "com/example/esteem/esteem/index/Postings$Builder" "docs" "[I" .null := D15 (Or.inl (hw _ (List.mem_of_getElem? (i := 13) rfl))) (ty := (.array .int)) (by decide)
  have F_b1_starts : Fld Z h15 b1 "com/example/esteem/esteem/index/Postings$Builder" "starts" "[I" .null := D15 (Or.inl (hw _ (List.mem_of_getElem? (i := 15) rfl))) (ty := (.array .int)) (by decide)
  have F_b1_positions : Fld Z h15 b1 "com/example/esteem/esteem/index/Postings$Builder" "positions" "[I" .null := D15 (Or.inl (hw _ (List.mem_of_getElem? (i := 17) rfl))) (ty := (.array .int)) (by decide)
  have F_b1_docCount : Fld Z h15 b1 "com/example/esteem/esteem/index/Postings$Builder" "docCount" "I" (.int (0 : Int32)) := D15 (Or.inl (hw _ (List.mem_of_getElem? (i := 24) rfl))) (ty := .int) (by decide)
  have F_b1_positionCount : Fld Z h15 b1 "com/example/esteem/esteem/index/Postings$Builder" "positionCount" "I" (.int (0 : Int32)) := D15 (Or.inl (hw _ (List.mem_of_getElem? (i := 26) rfl))) (ty := .int) (by decide)
  have pre17 : ∀ t, Steps p.tables e below (T15.setTop (mkF m 130 #[.val (.int p1), .val (.int p2), .val (.int p3), .val (.int p4), .val (.int p5), .val (.int n1), .val (.int n2), .val (.int dA), .val (.int qA), .val (.int dB), .val (.int qB), .val (.int dC), .val (.int qC), .unset, .unset, .unset, .unset, .unset, .unset, .unset] [(.ref b1), (.ref b1)])) t → Steps p.tables e below (s₁.setTop (entryFrame m #[(.int p1), (.int p2), (.int p3), (.int p4), (.int p5)] maxLocals)) t := fun t kT => pre16 t (by
    show Steps p.tables e below (T15.setTop (mkF m 129 #[.val (.int p1), .val (.int p2), .val (.int p3), .val (.int p4), .val (.int p5), .val (.int n1), .val (.int n2), .val (.int dA), .val (.int qA), .val (.int dB), .val (.int qB), .val (.int dC), .val (.int qC), .unset, .unset, .unset, .unset, .unset, .unset, .unset] [(.ref b1)])) _
    refine XS.dup X15.here hx rfl (hb hby at_129) rfl rfl ?_
    exact kT)
  obtain ⟨_, _, ⟨T18, L18, k18, n18⟩, -, X18, ⟨Lc18, hQ18, l18, y18, z18⟩, st18⟩ := X15.specialBack hx (y := (⟨"com/example/esteem/esteem/index/Postings$Builder", "<init>", "()V"⟩ : MethodName)) rfl hown (mvT hZ (hw _ (List.mem_of_getElem? (i := 5) rfl))) (mvT hZ (hw _ (List.mem_of_getElem? (i := 6) rfl))) (mvT hZ (hw _ (List.mem_of_getElem? (i := 7) rfl))) (by decide) (backOf (W := 1) (rmBI l Z a0 hw [] b1 h15 n0 sz15 F_b1_docs F_b1_starts F_b1_positions F_b1_docCount F_b1_positionCount A15 g_b1) hZ (hw _ (List.mem_of_getElem? (i := 7) rfl)) (hw _ (List.mem_of_getElem? (i := 4) rfl)) (by decide) (by decide)) (g := (mkF m 130 #[.val (.int p1), .val (.int p2), .val (.int p3), .val (.int p4), .val (.int p5), .val (.int n1), .val (.int n2), .val (.int dA), .val (.int qA), .val (.int dB), .val (.int qB), .val (.int dC), .val (.int qC), .unset, .unset, .unset, .unset, .unset, .unset, .unset] [(.ref b1), (.ref b1)])) rfl (by rw [hml]; rfl) (Steps.refl _) (a := b1) (argsL := []) (rest := [(.ref b1)]) (lenOf pd___V rfl) rfl (by show 2 * 0 + _ ≤ _; exact Nat.le_of_eq rfl) (hb hby at_130) (fun _ _ => ⟨rfl, e15, (by decide : 0 + 1 + 3 ≤ _), (by decide : 0 + 5 + 4 ≤ _)⟩)
  dsimp only [Pt.U, Pt.locs, Pt.cells, Pt.slots] at X18 l18 y18 z18 st18 hQ18
  have X18 := own_st X18 (y18.trans (show _ = 4 from rfl)) (z18.trans (show _ = 9 from rfl))
  obtain ⟨rfl, N18q, ky0, dd0, ds0, dp0, B0⟩ := hQ18
  have N18 := own_fr l18 N0 N18q
  have pre19 : ∀ t, Steps p.tables e below (T18.setTop (mkF m 133 #[.val (.int p1), .val (.int p2), .val (.int p3), .val (.int p4), .val (.int p5), .val (.int n1), .val (.int n2), .val (.int dA), .val (.int qA), .val (.int dB), .val (.int qB), .val (.int dC), .val (.int qC), .unset, .unset, .unset, .unset, .unset, .unset, .unset] [(.ref b1)])) t → Steps p.tables e below (s₁.setTop (entryFrame m #[(.int p1), (.int p2), (.int p3), (.int p4), (.int p5)] maxLocals)) t := fun t kT => pre17 t (st18.trans kT)
  have A15_e18 : Exa Z T18.heap b1 "com/example/esteem/esteem/index/Postings$Builder" := A15.keep ky0
  have sz18 : n0 ≤ T18.heap.size := Nat.le_trans sz15 ky0.1
  have pre20 : ∀ t, Steps p.tables e below (T18.setTop (mkF m 141 #[.val (.int p1), .val (.int p2), .val (.int p3), .val (.int p4), .val (.int p5), .val (.int n1), .val (.int n2), .val (.int dA), .val (.int qA), .val (.int dB), .val (.int qB), .val (.int dC), .val (.int qC), .val (.ref b1), .unset, .unset, .unset, .unset, .unset, .unset] [(.int qA), (.int dA), (.ref b1)])) t → Steps p.tables e below (s₁.setTop (entryFrame m #[(.int p1), (.int p2), (.int p3), (.int p4), (.int p5)] maxLocals)) t := fun t kT => pre19 t (by
    show Steps p.tables e below (T18.setTop (mkF m 133 #[.val (.int p1), .val (.int p2), .val (.int p3), .val (.int p4), .val (.int p5), .val (.int n1), .val (.int n2), .val (.int dA), .val (.int qA), .val (.int dB), .val (.int qB), .val (.int dC), .val (.int qC), .unset, .unset, .unset, .unset, .unset, .unset, .unset] [(.ref b1)])) _
    refine XS.astore X18.here hx rfl (hb hby at_133) rfl rfl (l' := #[.val (.int p1), .val (.int p2), .val (.int p3), .val (.int p4), .val (.int p5), .val (.int n1), .val (.int n2), .val (.int dA), .val (.int qA), .val (.int dB), .val (.int qB), .val (.int dC), .val (.int qC), .val (.ref b1), .unset, .unset, .unset, .unset, .unset, .unset]) rfl ?_
    show Steps p.tables e below (T18.setTop (mkF m 135 #[.val (.int p1), .val (.int p2), .val (.int p3), .val (.int p4), .val (.int p5), .val (.int n1), .val (.int n2), .val (.int dA), .val (.int qA), .val (.int dB), .val (.int qB), .val (.int dC), .val (.int qC), .val (.ref b1), .unset, .unset, .unset, .unset, .unset, .unset] [])) _
    refine XS.aload X18.here hx rfl (hb hby at_135) rfl rfl ?_
    show Steps p.tables e below (T18.setTop (mkF m 137 #[.val (.int p1), .val (.int p2), .val (.int p3), .val (.int p4), .val (.int p5), .val (.int n1), .val (.int n2), .val (.int dA), .val (.int qA), .val (.int dB), .val (.int qB), .val (.int dC), .val (.int qC), .val (.ref b1), .unset, .unset, .unset, .unset, .unset, .unset] [(.ref b1)])) _
    refine XS.iload X18.here hx rfl (hb hby at_137) rfl ?_
    show Steps p.tables e below (T18.setTop (mkF m 139 #[.val (.int p1), .val (.int p2), .val (.int p3), .val (.int p4), .val (.int p5), .val (.int n1), .val (.int n2), .val (.int dA), .val (.int qA), .val (.int dB), .val (.int qB), .val (.int dC), .val (.int qC), .val (.ref b1), .unset, .unset, .unset, .unset, .unset, .unset] [(.int dA), (.ref b1)])) _
    refine XS.iload X18.here hx rfl (hb hby at_139) rfl ?_
    exact kT)
  obtain ⟨cI21, kI21, q21a, q21b, q21c⟩ := isOf hZ rfl B0.1.2.2.2.2.2
  have pre22 : ∀ t, Steps p.tables e below (T18.setTop (mkF m 141 #[.val (.int p1), .val (.int p2), .val (.int p3), .val (.int p4), .val (.int p5), .val (.int n1), .val (.int n2), .val (.int dA), .val (.int qA), .val (.int dB), .val (.int qB), .val (.int dC), .val (.int qC), .val (.ref b1), .unset, .unset, .unset, .unset, .unset, .unset] [(.int qA), (.int dA), (.ref b1)])) t → Steps p.tables e below (s₁.setTop (entryFrame m #[(.int p1), (.int p2), (.int p3), (.int p4), (.int p5)] maxLocals)) t := fun t kT => pre20 t (by
    exact kT)
  obtain ⟨_, _, ⟨T23, L23, k23, n23⟩, -, X23, ⟨Lc23, hQ23, l23, y23, z23⟩, st23⟩ := X18.virtualBack hx (y := (⟨"com/example/esteem/esteem/index/Postings$Builder", "add", "(II)V"⟩ : MethodName)) (z := (⟨"com/example/esteem/esteem/index/Postings$Builder", "add", "(II)V"⟩ : MethodName)) hown (mvT hZ (hw _ (List.mem_of_getElem? (i := 18) rfl))) (mvT hZ (hw _ (List.mem_of_getElem? (i := 19) rfl))) (notFace_of_selects (args := #[]) (mvT hZ (hw _ (List.mem_of_getElem? (i := 21) rfl)))) (mvT hZ (hw _ (List.mem_of_getElem? (i := 21) rfl))) (mvT hZ (hw _ (List.mem_of_getElem? (i := 20) rfl))) (by decide) (backOf (W := 0) (rmA l Z a0 hw [] b1 dA qA dd0 ds0 dp0 1 2 1 0 0 (fun _ => (0 : Int32)) (fun _ => (0 : Int32)) (fun _ => (0 : Int32)) T18.heap n0 sz18 B0 (by decide) (by decide) (Or.inl rfl) (own_nlt (by show ¬ dA.toInt < -1; omega)) (own_nlt0 mQ.1) (fun z => absurd (congrArg Int32.toInt z) (by show ¬ dA.toInt = -1; omega))) hZ (hw _ (List.mem_of_getElem? (i := 22) rfl)) (hw _ (List.mem_of_getElem? (i := 4) rfl)) (by decide) (by decide)) q21a q21c (g := (mkF m 141 #[.val (.int p1), .val (.int p2), .val (.int p3), .val (.int p4), .val (.int p5), .val (.int n1), .val (.int n2), .val (.int dA), .val (.int qA), .val (.int dB), .val (.int qB), .val (.int dC), .val (.int qC), .val (.ref b1), .unset, .unset, .unset, .unset, .unset, .unset] [(.int qA), (.int dA), (.ref b1)])) rfl (by rw [hml]; rfl) (Steps.refl _) (argsL := [(.int dA), (.int qA)]) (rest := []) (lenOf pd__II_V rfl) rfl (by show 2 * 0 + _ ≤ _; exact Nat.le_of_eq rfl) (hb hby at_141) (fun _ _ => ⟨rfl, rfl, (by decide : 4 + 3 ≤ _), (by decide : 9 + 13 ≤ _)⟩)
  dsimp only [Pt.U, Pt.locs, Pt.cells, Pt.slots] at X23 l23 y23 z23 st23 hQ23
  have X23 := own_st X23 (y23.trans (show _ = 7 from rfl)) (z23.trans (show _ = 22 from rfl))
  obtain ⟨rfl, N23q, ky1, dd1, ds1, dp1, dl1, sl1, pl1, B1⟩ := hQ23
  have N23 := own_fr l23 N18 N23q
  have pre24 : ∀ t, Steps p.tables e below (T23.setTop (mkF m 144 #[.val (.int p1), .val (.int p2), .val (.int p3), .val (.int p4), .val (.int p5), .val (.int n1), .val (.int n2), .val (.int dA), .val (.int qA), .val (.int dB), .val (.int qB), .val (.int dC), .val (.int qC), .val (.ref b1), .unset, .unset, .unset, .unset, .unset, .unset] [])) t → Steps p.tables e below (s₁.setTop (entryFrame m #[(.int p1), (.int p2), (.int p3), (.int p4), (.int p5)] maxLocals)) t := fun t kT => pre22 t (st23.trans kT)
  have sz23 : n0 ≤ T23.heap.size := Nat.le_trans sz18 ky1.1
  have nA : ¬ dA = own_last 0 (fun _ => (0 : Int32)) := fun z => absurd (congrArg Int32.toInt z) (by show ¬ dA.toInt = -1; omega)
  obtain ⟨df1, hdf1⟩ : ∃ z, z = own_updI (fun _ => (0 : Int32)) 0 dA := ⟨_, rfl⟩
  obtain ⟨sf1, hsf1⟩ : ∃ z, z = own_updI (own_updI (fun _ => (0 : Int32)) 0 (Int32.ofNat 0)) (0 + 1) (Int32.ofNat (0 + 1)) := ⟨_, rfl⟩
  obtain ⟨pf1, hpf1⟩ : ∃ z, z = own_updI (fun _ => (0 : Int32)) 0 qA := ⟨_, rfl⟩
  rw [show own_ndc 0 (fun _ => (0 : Int32)) dA = 1 from if_neg nA, show own_ndf 0 (fun _ => (0 : Int32)) dA = df1 from (if_neg nA).trans hdf1.symm, show own_nsf 0 0 (fun _ => (0 : Int32)) (fun _ => (0 : Int32)) dA = sf1 from (if_neg nA).trans hsf1.symm, ← hpf1] at B1
  have l1 : own_last 1 df1 = dA := by rw [hdf1]; rfl
  have p10 : pf1 0 = qA := by rw [hpf1]; rfl
  have pre25 : ∀ t, Steps p.tables e below (T23.setTop (mkF m 150 #[.val (.int p1), .val (.int p2), .val (.int p3), .val (.int p4), .val (.int p5), .val (.int n1), .val (.int n2), .val (.int dA), .val (.int qA), .val (.int dB), .val (.int qB), .val (.int dC), .val (.int qC), .val (.ref b1), .unset, .unset, .unset, .unset, .unset, .unset] [(.int qB), (.int dB), (.ref b1)])) t → Steps p.tables e below (s₁.setTop (entryFrame m #[(.int p1), (.int p2), (.int p3), (.int p4), (.int p5)] maxLocals)) t := fun t kT => pre24 t (by
    show Steps p.tables e below (T23.setTop (mkF m 144 #[.val (.int p1), .val (.int p2), .val (.int p3), .val (.int p4), .val (.int p5), .val (.int n1), .val (.int n2), .val (.int dA), .val (.int qA), .val (.int dB), .val (.int qB), .val (.int dC), .val (.int qC), .val (.ref b1), .unset, .unset, .unset, .unset, .unset, .unset] [])) _
    refine XS.aload X23.here hx rfl (hb hby at_144) rfl rfl ?_
    show Steps p.tables e below (T23.setTop (mkF m 146 #[.val (.int p1), .val (.int p2), .val (.int p3), .val (.int p4), .val (.int p5), .val (.int n1), .val (.int n2), .val (.int dA), .val (.int qA), .val (.int dB), .val (.int qB), .val (.int dC), .val (.int qC), .val (.ref b1), .unset, .unset, .unset, .unset, .unset, .unset] [(.ref b1)])) _
    refine XS.iload X23.here hx rfl (hb hby at_146) rfl ?_
    show Steps p.tables e below (T23.setTop (mkF m 148 #[.val (.int p1), .val (.int p2), .val (.int p3), .val (.int p4), .val (.int p5), .val (.int n1), .val (.int n2), .val (.int dA), .val (.int qA), .val (.int dB), .val (.int qB), .val (.int dC), .val (.int qC), .val (.ref b1), .unset, .unset, .unset, .unset, .unset, .unset] [(.int dB), (.ref b1)])) _
    refine XS.iload X23.here hx rfl (hb hby at_148) rfl ?_
    exact kT)
  obtain ⟨cI26, kI26, q26a, q26b, q26c⟩ := isOf hZ rfl B1.1.2.2.2.2.2
  have pre27 : ∀ t, Steps p.tables e below (T23.setTop (mkF m 150 #[.val (.int p1), .val (.int p2), .val (.int p3), .val (.int p4), .val (.int p5), .val (.int n1), .val (.int n2), .val (.int dA), .val (.int qA), .val (.int dB), .val (.int qB), .val (.int dC), .val (.int qC), .val (.ref b1), .unset, .unset, .unset, .unset, .unset, .unset] [(.int qB), (.int dB), (.ref b1)])) t → Steps p.tables e below (s₁.setTop (entryFrame m #[(.int p1), (.int p2), (.int p3), (.int p4), (.int p5)] maxLocals)) t := fun t kT => pre25 t (by
    exact kT)
  obtain ⟨_, _, ⟨T28, L28, k28, n28⟩, -, X28, ⟨Lc28, hQ28, l28, y28, z28⟩, st28⟩ := X23.virtualBack hx (y := (⟨"com/example/esteem/esteem/index/Postings$Builder", "add", "(II)V"⟩ : MethodName)) (z := (⟨"com/example/esteem/esteem/index/Postings$Builder", "add", "(II)V"⟩ : MethodName)) hown (mvT hZ (hw _ (List.mem_of_getElem? (i := 18) rfl))) (mvT hZ (hw _ (List.mem_of_getElem? (i := 19) rfl))) (notFace_of_selects (args := #[]) (mvT hZ (hw _ (List.mem_of_getElem? (i := 21) rfl)))) (mvT hZ (hw _ (List.mem_of_getElem? (i := 21) rfl))) (mvT hZ (hw _ (List.mem_of_getElem? (i := 20) rfl))) (by decide) (backOf (W := 0) (rmA l Z a0 hw [] b1 dB qB dd1 ds1 dp1 dl1 sl1 pl1 1 (0 + 1) df1 sf1 pf1 T23.heap n0 sz23 B1 (by decide) (by decide) (Or.inr (by decide)) (by rw [l1]; exact fB.2.2.1) (own_nlt0 fB.2.2.2.2.2.1) (fun z => ⟨by decide, by show pf1 0 < qB; rw [p10]; rw [l1] at z; exact (z1.elim (fun q => (fB.1 q).2) (fun q => absurd z (fB.2.1 q)))⟩)) hZ (hw _ (List.mem_of_getElem? (i := 22) rfl)) (hw _ (List.mem_of_getElem? (i := 4) rfl)) (by decide) (by decide)) q26a q26c (g := (mkF m 150 #[.val (.int p1), .val (.int p2), .val (.int p3), .val (.int p4), .val (.int p5), .val (.int n1), .val (.int n2), .val (.int dA), .val (.int qA), .val (.int dB), .val (.int qB), .val (.int dC), .val (.int qC), .val (.ref b1), .unset, .unset, .unset, .unset, .unset, .unset] [(.int qB), (.int dB), (.ref b1)])) rfl (by rw [hml]; rfl) (Steps.refl _) (argsL := [(.int dB), (.int qB)]) (rest := []) (lenOf pd__II_V rfl) rfl (by show 2 * 0 + _ ≤ _; exact Nat.le_of_eq rfl) (hb hby at_150) (fun _ _ => ⟨rfl, rfl, (by decide : 7 + 3 ≤ _), (by decide : 22 + 13 ≤ _)⟩)
  dsimp only [Pt.U, Pt.locs, Pt.cells, Pt.slots] at X28 l28 y28 z28 st28 hQ28
  have X28 := own_st X28 (y28.trans (show _ = 10 from rfl)) (z28.trans (show _ = 35 from rfl))
  obtain ⟨rfl, N28q, ky2, dd2, ds2, dp2, dl2, sl2, pl2, B2⟩ := hQ28
  have N28 := own_fr l28 N23 N28q
  have pre29 : ∀ t, Steps p.tables e below (T28.setTop (mkF m 153 #[.val (.int p1), .val (.int p2), .val (.int p3), .val (.int p4), .val (.int p5), .val (.int n1), .val (.int n2), .val (.int dA), .val (.int qA), .val (.int dB), .val (.int qB), .val (.int dC), .val (.int qC), .val (.ref b1), .unset, .unset, .unset, .unset, .unset, .unset] [])) t → Steps p.tables e below (s₁.setTop (entryFrame m #[(.int p1), (.int p2), (.int p3), (.int p4), (.int p5)] maxLocals)) t := fun t kT => pre27 t (st28.trans kT)
  have sz28 : n0 ≤ T28.heap.size := Nat.le_trans sz23 ky2.1
  obtain ⟨dc2, hdc2⟩ : ∃ z, z = own_ndc 1 df1 dB := ⟨_, rfl⟩
  obtain ⟨df2, hdf2⟩ : ∃ z, z = own_ndf 1 df1 dB := ⟨_, rfl⟩
  obtain ⟨sf2, hsf2⟩ : ∃ z, z = own_nsf 1 (0 + 1) df1 sf1 dB := ⟨_, rfl⟩
  obtain ⟨pf2, hpf2⟩ : ∃ z, z = own_updI pf1 (0 + 1) qB := ⟨_, rfl⟩
  rw [← hdc2, ← hdf2, ← hsf2, ← hpf2] at B2
  have H2 : (n1 = 0 ∧ dc2 = 1 ∧ df2 = df1 ∧ sf2 = own_updI sf1 1 (Int32.ofNat 2)) ∨ (n1 = 1 ∧ dc2 = 2 ∧ df2 = own_updI df1 1 dB ∧ sf2 = own_updI (own_updI sf1 1 (Int32.ofNat 1)) 2 (Int32.ofNat 2)) := by
    rcases z1 with q | q
    · have y : dB = own_last 1 df1 := by rw [l1]; exact (fB.1 q).1
      exact Or.inl ⟨q, hdc2.trans (if_pos y), hdf2.trans (if_pos y), hsf2.trans (if_pos y)⟩
    · have y : ¬ dB = own_last 1 df1 := by rw [l1]; exact fB.2.1 q
      exact Or.inr ⟨q, hdc2.trans (if_neg y), hdf2.trans (if_neg y), hsf2.trans (if_neg y)⟩
  have l2 : own_last dc2 df2 = dB := by
    rcases H2 with ⟨q, a, b, _⟩ | ⟨q, a, b, _⟩
    · rw [a, b, l1]; exact (fB.1 q).1.symm
    · rw [a, b]; rfl
  have p21 : pf2 1 = qB := by rw [hpf2]; rfl
  have dc2' : dc2 ≤ 2 ∧ dc2 ≠ 0 := by rcases H2 with ⟨_, a, _⟩ | ⟨_, a, _⟩ <;> omega
  have pre30 : ∀ t, Steps p.tables e below (T28.setTop (mkF m 159 #[.val (.int p1), .val (.int p2), .val (.int p3), .val (.int p4), .val (.int p5), .val (.int n1), .val (.int n2), .val (.int dA), .val (.int qA), .val (.int dB), .val (.int qB), .val (.int dC), .val (.int qC), .val (.ref b1), .unset, .unset, .unset, .unset, .unset, .unset] [(.int qC), (.int dC), (.ref b1)])) t → Steps p.tables e below (s₁.setTop (entryFrame m #[(.int p1), (.int p2), (.int p3), (.int p4), (.int p5)] maxLocals)) t := fun t kT => pre29 t (by
    show Steps p.tables e below (T28.setTop (mkF m 153 #[.val (.int p1), .val (.int p2), .val (.int p3), .val (.int p4), .val (.int p5), .val (.int n1), .val (.int n2), .val (.int dA), .val (.int qA), .val (.int dB), .val (.int qB), .val (.int dC), .val (.int qC), .val (.ref b1), .unset, .unset, .unset, .unset, .unset, .unset] [])) _
    refine XS.aload X28.here hx rfl (hb hby at_153) rfl rfl ?_
    show Steps p.tables e below (T28.setTop (mkF m 155 #[.val (.int p1), .val (.int p2), .val (.int p3), .val (.int p4), .val (.int p5), .val (.int n1), .val (.int n2), .val (.int dA), .val (.int qA), .val (.int dB), .val (.int qB), .val (.int dC), .val (.int qC), .val (.ref b1), .unset, .unset, .unset, .unset, .unset, .unset] [(.ref b1)])) _
    refine XS.iload X28.here hx rfl (hb hby at_155) rfl ?_
    show Steps p.tables e below (T28.setTop (mkF m 157 #[.val (.int p1), .val (.int p2), .val (.int p3), .val (.int p4), .val (.int p5), .val (.int n1), .val (.int n2), .val (.int dA), .val (.int qA), .val (.int dB), .val (.int qB), .val (.int dC), .val (.int qC), .val (.ref b1), .unset, .unset, .unset, .unset, .unset, .unset] [(.int dC), (.ref b1)])) _
    refine XS.iload X28.here hx rfl (hb hby at_157) rfl ?_
    exact kT)
  obtain ⟨cI31, kI31, q31a, q31b, q31c⟩ := isOf hZ rfl B2.1.2.2.2.2.2
  have pre32 : ∀ t, Steps p.tables e below (T28.setTop (mkF m 159 #[.val (.int p1), .val (.int p2), .val (.int p3), .val (.int p4), .val (.int p5), .val (.int n1), .val (.int n2), .val (.int dA), .val (.int qA), .val (.int dB), .val (.int qB), .val (.int dC), .val (.int qC), .val (.ref b1), .unset, .unset, .unset, .unset, .unset, .unset] [(.int qC), (.int dC), (.ref b1)])) t → Steps p.tables e below (s₁.setTop (entryFrame m #[(.int p1), (.int p2), (.int p3), (.int p4), (.int p5)] maxLocals)) t := fun t kT => pre30 t (by
    exact kT)
  obtain ⟨_, _, ⟨T33, L33, k33, n33⟩, -, X33, ⟨Lc33, hQ33, l33, y33, z33⟩, st33⟩ := X28.virtualBack hx (y := (⟨"com/example/esteem/esteem/index/Postings$Builder", "add", "(II)V"⟩ : MethodName)) (z := (⟨"com/example/esteem/esteem/index/Postings$Builder", "add", "(II)V"⟩ : MethodName)) hown (mvT hZ (hw _ (List.mem_of_getElem? (i := 18) rfl))) (mvT hZ (hw _ (List.mem_of_getElem? (i := 19) rfl))) (notFace_of_selects (args := #[]) (mvT hZ (hw _ (List.mem_of_getElem? (i := 21) rfl)))) (mvT hZ (hw _ (List.mem_of_getElem? (i := 21) rfl))) (mvT hZ (hw _ (List.mem_of_getElem? (i := 20) rfl))) (by decide) (backOf (W := 0) (rmA l Z a0 hw [] b1 dC qC dd2 ds2 dp2 dl2 sl2 pl2 dc2 (0 + 1 + 1) df2 sf2 pf2 T28.heap n0 sz28 B2 dc2'.1 (by decide) (Or.inr (by decide)) (by rw [l2]; exact fC.2.2.1) (own_nlt0 fC.2.2.2.2.2.1) (fun z => ⟨dc2'.2, by show pf2 1 < qC; rw [p21]; rw [l2] at z; exact (z2.elim (fun q => (fC.1 q).2) (fun q => absurd z (fC.2.1 q)))⟩)) hZ (hw _ (List.mem_of_getElem? (i := 22) rfl)) (hw _ (List.mem_of_getElem? (i := 4) rfl)) (by decide) (by decide)) q31a q31c (g := (mkF m 159 #[.val (.int p1), .val (.int p2), .val (.int p3), .val (.int p4), .val (.int p5), .val (.int n1), .val (.int n2), .val (.int dA), .val (.int qA), .val (.int dB), .val (.int qB), .val (.int dC), .val (.int qC), .val (.ref b1), .unset, .unset, .unset, .unset, .unset, .unset] [(.int qC), (.int dC), (.ref b1)])) rfl (by rw [hml]; rfl) (Steps.refl _) (argsL := [(.int dC), (.int qC)]) (rest := []) (lenOf pd__II_V rfl) rfl (by show 2 * 0 + _ ≤ _; exact Nat.le_of_eq rfl) (hb hby at_159) (fun _ _ => ⟨rfl, rfl, (by decide : 10 + 3 ≤ _), (by decide : 35 + 13 ≤ _)⟩)
  dsimp only [Pt.U, Pt.locs, Pt.cells, Pt.slots] at X33 l33 y33 z33 st33 hQ33
  have X33 := own_st X33 (y33.trans (show _ = 13 from rfl)) (z33.trans (show _ = 48 from rfl))
  obtain ⟨rfl, N33q, ky3, dd3, ds3, dp3, dl3, sl3, pl3, B3⟩ := hQ33
  have N33 := own_fr l33 N28 N33q
  have pre34 : ∀ t, Steps p.tables e below (T33.setTop (mkF m 162 #[.val (.int p1), .val (.int p2), .val (.int p3), .val (.int p4), .val (.int p5), .val (.int n1), .val (.int n2), .val (.int dA), .val (.int qA), .val (.int dB), .val (.int qB), .val (.int dC), .val (.int qC), .val (.ref b1), .unset, .unset, .unset, .unset, .unset, .unset] [])) t → Steps p.tables e below (s₁.setTop (entryFrame m #[(.int p1), (.int p2), (.int p3), (.int p4), (.int p5)] maxLocals)) t := fun t kT => pre32 t (st33.trans kT)
  have sz33 : n0 ≤ T33.heap.size := Nat.le_trans sz28 ky3.1
  obtain ⟨dc3, hdc3⟩ : ∃ z, z = own_ndc dc2 df2 dC := ⟨_, rfl⟩
  obtain ⟨df3, hdf3⟩ : ∃ z, z = own_ndf dc2 df2 dC := ⟨_, rfl⟩
  obtain ⟨sf3, hsf3⟩ : ∃ z, z = own_nsf dc2 (0 + 1 + 1) df2 sf2 dC := ⟨_, rfl⟩
  obtain ⟨pf3, hpf3⟩ : ∃ z, z = own_updI pf2 (0 + 1 + 1) qC := ⟨_, rfl⟩
  rw [← hdc3, ← hdf3, ← hsf3, ← hpf3] at B3
  have H3 : (n2 = 0 ∧ dc3 = dc2 ∧ df3 = df2 ∧ sf3 = own_updI sf2 dc2 (Int32.ofNat 3)) ∨ (n2 = 1 ∧ dc3 = dc2 + 1 ∧ df3 = own_updI df2 dc2 dC ∧ sf3 = own_updI (own_updI sf2 dc2 (Int32.ofNat 2)) (dc2 + 1) (Int32.ofNat 3)) := by
    rcases z2 with q | q
    · have y : dC = own_last dc2 df2 := by rw [l2]; exact (fC.1 q).1
      exact Or.inl ⟨q, hdc3.trans (if_pos y), hdf3.trans (if_pos y), hsf3.trans (if_pos y)⟩
    · have y : ¬ dC = own_last dc2 df2 := by rw [l2]; exact fC.2.1 q
      exact Or.inr ⟨q, hdc3.trans (if_neg y), hdf3.trans (if_neg y), hsf3.trans (if_neg y)⟩
  have dc3' : dc3 ≤ 3 := by rcases H3 with ⟨_, a, _⟩ | ⟨_, a, _⟩ <;> omega
  have p30 : pf3 0 = qA := by rw [hpf3, hpf2, hpf1]; rfl
  have p31 : pf3 1 = qB := by rw [hpf3, hpf2]; rfl
  have p32 : pf3 2 = qC := by rw [hpf3]; rfl
  have pre35 : ∀ t, Steps p.tables e below (T33.setTop (mkF m 164 #[.val (.int p1), .val (.int p2), .val (.int p3), .val (.int p4), .val (.int p5), .val (.int n1), .val (.int n2), .val (.int dA), .val (.int qA), .val (.int dB), .val (.int qB), .val (.int dC), .val (.int qC), .val (.ref b1), .unset, .unset, .unset, .unset, .unset, .unset] [(.ref b1)])) t → Steps p.tables e below (s₁.setTop (entryFrame m #[(.int p1), (.int p2), (.int p3), (.int p4), (.int p5)] maxLocals)) t := fun t kT => pre34 t (by
    show Steps p.tables e below (T33.setTop (mkF m 162 #[.val (.int p1), .val (.int p2), .val (.int p3), .val (.int p4), .val (.int p5), .val (.int n1), .val (.int n2), .val (.int dA), .val (.int qA), .val (.int dB), .val (.int qB), .val (.int dC), .val (.int qC), .val (.ref b1), .unset, .unset, .unset, .unset, .unset, .unset] [])) _
    refine XS.aload X33.here hx rfl (hb hby at_162) rfl rfl ?_
    exact kT)
  obtain ⟨cI36, kI36, q36a, q36b, q36c⟩ := isOf hZ rfl B3.1.2.2.2.2.2
  have pre37 : ∀ t, Steps p.tables e below (T33.setTop (mkF m 164 #[.val (.int p1), .val (.int p2), .val (.int p3), .val (.int p4), .val (.int p5), .val (.int n1), .val (.int n2), .val (.int dA), .val (.int qA), .val (.int dB), .val (.int qB), .val (.int dC), .val (.int qC), .val (.ref b1), .unset, .unset, .unset, .unset, .unset, .unset] [(.ref b1)])) t → Steps p.tables e below (s₁.setTop (entryFrame m #[(.int p1), (.int p2), (.int p3), (.int p4), (.int p5)] maxLocals)) t := fun t kT => pre35 t (by
    exact kT)
  obtain ⟨_, _, ⟨T38, L38, k38, n38⟩, -, X38, ⟨Lc38, hQ38, l38, y38, z38⟩, st38⟩ := X33.virtualBack hx (y := (⟨"com/example/esteem/esteem/index/Postings$Builder", "build", "()Lcom/example/esteem/esteem/index/Postings;"⟩ : MethodName)) (z := (⟨"com/example/esteem/esteem/index/Postings$Builder", "build", "()Lcom/example/esteem/esteem/index/Postings;"⟩ : MethodName)) hown (mvT hZ (hw _ (List.mem_of_getElem? (i := 43) rfl))) (mvT hZ (hw _ (List.mem_of_getElem? (i := 44) rfl))) (notFace_of_selects (args := #[]) (mvT hZ (hw _ (List.mem_of_getElem? (i := 46) rfl)))) (mvT hZ (hw _ (List.mem_of_getElem? (i := 46) rfl))) (mvT hZ (hw _ (List.mem_of_getElem? (i := 45) rfl))) (by decide) (backOf (W := 0) (rmBU l Z a0 hw [] b1 dd3 ds3 dp3 dl3 sl3 pl3 dc3 (0 + 1 + 1 + 1) df3 sf3 pf3 T33.heap n0 sz33 B3 dc3' (by decide)) hZ (hw _ (List.mem_of_getElem? (i := 47) rfl)) (hw _ (List.mem_of_getElem? (i := 4) rfl)) (by decide) (by decide)) q36a q36c (g := (mkF m 164 #[.val (.int p1), .val (.int p2), .val (.int p3), .val (.int p4), .val (.int p5), .val (.int n1), .val (.int n2), .val (.int dA), .val (.int qA), .val (.int dB), .val (.int qB), .val (.int dC), .val (.int qC), .val (.ref b1), .unset, .unset, .unset, .unset, .unset, .unset] [(.ref b1)])) rfl (by rw [hml]; rfl) (Steps.refl _) (argsL := []) (rest := []) (lenOf pd___Lcom_example_esteem_esteem_index_Postings_ rfl) rfl (by show 2 * 0 + _ ≤ _; exact Nat.le_of_eq rfl) (hb hby at_164) (fun _ _ => ⟨rfl, rfl, (by decide : 13 + 4 ≤ _), (by decide : 48 + 13 ≤ _)⟩)
  dsimp only [Pt.U, Pt.locs, Pt.cells, Pt.slots] at X38 l38 y38 z38 st38 hQ38
  have X38 := own_st X38 (y38.trans (show _ = 17 from rfl)) (z38.trans (show _ = 61 from rfl))
  obtain ⟨r1, xd, xs, xp, rfl, N38q, kyB, BP⟩ := hQ38
  have N38 := own_fr l38 N33 N38q
  have pre39 : ∀ t, Steps p.tables e below (T38.setTop (mkF m 167 #[.val (.int p1), .val (.int p2), .val (.int p3), .val (.int p4), .val (.int p5), .val (.int n1), .val (.int n2), .val (.int dA), .val (.int qA), .val (.int dB), .val (.int qB), .val (.int dC), .val (.int qC), .val (.ref b1), .unset, .unset, .unset, .unset, .unset, .unset] [(.ref r1)])) t → Steps p.tables e below (s₁.setTop (entryFrame m #[(.int p1), (.int p2), (.int p3), (.int p4), (.int p5)] maxLocals)) t := fun t kT => pre37 t (st38.trans kT)
  have sz38 : n0 ≤ T38.heap.size := Nat.le_trans sz33 kyB.1
  have pre40 : ∀ t, Steps p.tables e below (T38.setTop (mkF m 179 #[.val (.int p1), .val (.int p2), .val (.int p3), .val (.int p4), .val (.int p5), .val (.int n1), .val (.int n2), .val (.int dA), .val (.int qA), .val (.int dB), .val (.int qB), .val (.int dC), .val (.int qC), .val (.ref b1), .val (.ref r1), .unset, .unset, .unset, .unset, .unset] [(.int (own_sel n1 (1 : Int32) (0 : Int32)))])) t → Steps p.tables e below (s₁.setTop (entryFrame m #[(.int p1), (.int p2), (.int p3), (.int p4), (.int p5)] maxLocals)) t := fun t kT => pre39 t (by
    show Steps p.tables e below (T38.setTop (mkF m 167 #[.val (.int p1), .val (.int p2), .val (.int p3), .val (.int p4), .val (.int p5), .val (.int n1), .val (.int n2), .val (.int dA), .val (.int qA), .val (.int dB), .val (.int qB), .val (.int dC), .val (.int qC), .val (.ref b1), .unset, .unset, .unset, .unset, .unset, .unset] [(.ref r1)])) _
    refine XS.astore X38.here hx rfl (hb hby at_167) rfl rfl (l' := #[.val (.int p1), .val (.int p2), .val (.int p3), .val (.int p4), .val (.int p5), .val (.int n1), .val (.int n2), .val (.int dA), .val (.int qA), .val (.int dB), .val (.int qB), .val (.int dC), .val (.int qC), .val (.ref b1), .val (.ref r1), .unset, .unset, .unset, .unset, .unset]) rfl ?_
    show Steps p.tables e below (T38.setTop (mkF m 169 #[.val (.int p1), .val (.int p2), .val (.int p3), .val (.int p4), .val (.int p5), .val (.int n1), .val (.int n2), .val (.int dA), .val (.int qA), .val (.int dB), .val (.int qB), .val (.int dC), .val (.int qC), .val (.ref b1), .val (.ref r1), .unset, .unset, .unset, .unset, .unset] [])) _
    refine XS.iload X38.here hx rfl (hb hby at_169) rfl ?_
    by_cases hc171 : n1 = (0 : Int32)
    · show Steps p.tables e below (T38.setTop (mkF m 171 #[.val (.int p1), .val (.int p2), .val (.int p3), .val (.int p4), .val (.int p5), .val (.int n1), .val (.int n2), .val (.int dA), .val (.int qA), .val (.int dB), .val (.int qB), .val (.int dC), .val (.int qC), .val (.ref b1), .val (.ref r1), .unset, .unset, .unset, .unset, .unset] [(.int n1)])) _
      refine XS.ifYes X38.here hx rfl (pc0 := 171) (pc' := 178) rfl (hb hby at_171) rfl ((if0 _ _).trans (teq hc171).1) (by decide) (by decide) ?_
      show Steps p.tables e below (T38.setTop (mkF m 178 #[.val (.int p1), .val (.int p2), .val (.int p3), .val (.int p4), .val (.int p5), .val (.int n1), .val (.int n2), .val (.int dA), .val (.int qA), .val (.int dB), .val (.int qB), .val (.int dC), .val (.int qC), .val (.ref b1), .val (.ref r1), .unset, .unset, .unset, .unset, .unset] [])) _
      refine XS.iconst X38.here hx rfl (hb hby at_178) ?_
      show Steps p.tables e below (T38.setTop (mkF m 179 #[.val (.int p1), .val (.int p2), .val (.int p3), .val (.int p4), .val (.int p5), .val (.int n1), .val (.int n2), .val (.int dA), .val (.int qA), .val (.int dB), .val (.int qB), .val (.int dC), .val (.int qC), .val (.ref b1), .val (.ref r1), .unset, .unset, .unset, .unset, .unset] [(.int (0 : Int32))])) _
      exact castTop (by rw [show (own_sel n1 (1 : Int32) (0 : Int32)) = (0 : Int32) from by exact (if_pos hc171).trans (rfl)]) kT
    · show Steps p.tables e below (T38.setTop (mkF m 171 #[.val (.int p1), .val (.int p2), .val (.int p3), .val (.int p4), .val (.int p5), .val (.int n1), .val (.int n2), .val (.int dA), .val (.int qA), .val (.int dB), .val (.int qB), .val (.int dC), .val (.int qC), .val (.ref b1), .val (.ref r1), .unset, .unset, .unset, .unset, .unset] [(.int n1)])) _
      refine XS.ifNo X38.here hx rfl (hb hby at_171) rfl ((if0 _ _).trans (feq hc171).1) ?_
      show Steps p.tables e below (T38.setTop (mkF m 174 #[.val (.int p1), .val (.int p2), .val (.int p3), .val (.int p4), .val (.int p5), .val (.int n1), .val (.int n2), .val (.int dA), .val (.int qA), .val (.int dB), .val (.int qB), .val (.int dC), .val (.int qC), .val (.ref b1), .val (.ref r1), .unset, .unset, .unset, .unset, .unset] [])) _
      refine XS.iconst X38.here hx rfl (hb hby at_174) ?_
      show Steps p.tables e below (T38.setTop (mkF m 175 #[.val (.int p1), .val (.int p2), .val (.int p3), .val (.int p4), .val (.int p5), .val (.int n1), .val (.int n2), .val (.int dA), .val (.int qA), .val (.int dB), .val (.int qB), .val (.int dC), .val (.int qC), .val (.ref b1), .val (.ref r1), .unset, .unset, .unset, .unset, .unset] [(.int (1 : Int32))])) _
      refine XS.goto X38.here hx rfl (pc0 := 175) (pc' := 179) rfl (hb hby at_175) (by decide) (by decide) ?_
      show Steps p.tables e below (T38.setTop (mkF m 179 #[.val (.int p1), .val (.int p2), .val (.int p3), .val (.int p4), .val (.int p5), .val (.int n1), .val (.int n2), .val (.int dA), .val (.int qA), .val (.int dB), .val (.int qB), .val (.int dC), .val (.int qC), .val (.ref b1), .val (.ref r1), .unset, .unset, .unset, .unset, .unset] [(.int (1 : Int32))])) _
      exact castTop (by rw [show (own_sel n1 (1 : Int32) (0 : Int32)) = (1 : Int32) from by exact (if_neg hc171).trans (rfl)]) kT)
  have pre41 : ∀ t, Steps p.tables e below (T38.setTop (mkF m 181 #[.val (.int p1), .val (.int p2), .val (.int p3), .val (.int p4), .val (.int p5), .val (.int n1), .val (.int n2), .val (.int dA), .val (.int qA), .val (.int dB), .val (.int qB), .val (.int dC), .val (.int qC), .val (.ref b1), .val (.ref r1), .val (.int (own_sel n1 (1 : Int32) (0 : Int32))), .unset, .unset, .unset, .unset] [])) t → Steps p.tables e below (s₁.setTop (entryFrame m #[(.int p1), (.int p2), (.int p3), (.int p4), (.int p5)] maxLocals)) t := fun t kT => pre40 t (by
    show Steps p.tables e below (T38.setTop (mkF m 179 #[.val (.int p1), .val (.int p2), .val (.int p3), .val (.int p4), .val (.int p5), .val (.int n1), .val (.int n2), .val (.int dA), .val (.int qA), .val (.int dB), .val (.int qB), .val (.int dC), .val (.int qC), .val (.ref b1), .val (.ref r1), .unset, .unset, .unset, .unset, .unset] [(.int (own_sel n1 (1 : Int32) (0 : Int32)))])) _
    refine XS.istore X38.here hx rfl (hb hby at_179) rfl (l' := #[.val (.int p1), .val (.int p2), .val (.int p3), .val (.int p4), .val (.int p5), .val (.int n1), .val (.int n2), .val (.int dA), .val (.int qA), .val (.int dB), .val (.int qB), .val (.int dC), .val (.int qC), .val (.ref b1), .val (.ref r1), .val (.int (own_sel n1 (1 : Int32) (0 : Int32))), .unset, .unset, .unset, .unset]) rfl ?_
    exact kT)
  obtain ⟨G1, hG1⟩ : ∃ z, z = (own_sel n1 (1 : Int32) (0 : Int32)) := ⟨_, rfl⟩
  rw [← hG1] at pre41
  have pre42 : ∀ t, Steps p.tables e below (T38.setTop (mkF m 191 #[.val (.int p1), .val (.int p2), .val (.int p3), .val (.int p4), .val (.int p5), .val (.int n1), .val (.int n2), .val (.int dA), .val (.int qA), .val (.int dB), .val (.int qB), .val (.int dC), .val (.int qC), .val (.ref b1), .val (.ref r1), .val (.int G1), .unset, .unset, .unset, .unset] [(.int (own_sel n1 (0 : Int32) (1 : Int32)))])) t → Steps p.tables e below (s₁.setTop (entryFrame m #[(.int p1), (.int p2), (.int p3), (.int p4), (.int p5)] maxLocals)) t := fun t kT => pre41 t (by
    show Steps p.tables e below (T38.setTop (mkF m 181 #[.val (.int p1), .val (.int p2), .val (.int p3), .val (.int p4), .val (.int p5), .val (.int n1), .val (.int n2), .val (.int dA), .val (.int qA), .val (.int dB), .val (.int qB), .val (.int dC), .val (.int qC), .val (.ref b1), .val (.ref r1), .val (.int G1), .unset, .unset, .unset, .unset] [])) _
    refine XS.iload X38.here hx rfl (hb hby at_181) rfl ?_
    by_cases hc183 : n1 = (0 : Int32)
    · show Steps p.tables e below (T38.setTop (mkF m 183 #[.val (.int p1), .val (.int p2), .val (.int p3), .val (.int p4), .val (.int p5), .val (.int n1), .val (.int n2), .val (.int dA), .val (.int qA), .val (.int dB), .val (.int qB), .val (.int dC), .val (.int qC), .val (.ref b1), .val (.ref r1), .val (.int G1), .unset, .unset, .unset, .unset] [(.int n1)])) _
      refine XS.ifYes X38.here hx rfl (pc0 := 183) (pc' := 190) rfl (hb hby at_183) rfl ((if0 _ _).trans (teq hc183).1) (by decide) (by decide) ?_
      show Steps p.tables e below (T38.setTop (mkF m 190 #[.val (.int p1), .val (.int p2), .val (.int p3), .val (.int p4), .val (.int p5), .val (.int n1), .val (.int n2), .val (.int dA), .val (.int qA), .val (.int dB), .val (.int qB), .val (.int dC), .val (.int qC), .val (.ref b1), .val (.ref r1), .val (.int G1), .unset, .unset, .unset, .unset] [])) _
      refine XS.iconst X38.here hx rfl (hb hby at_190) ?_
      show Steps p.tables e below (T38.setTop (mkF m 191 #[.val (.int p1), .val (.int p2), .val (.int p3), .val (.int p4), .val (.int p5), .val (.int n1), .val (.int n2), .val (.int dA), .val (.int qA), .val (.int dB), .val (.int qB), .val (.int dC), .val (.int qC), .val (.ref b1), .val (.ref r1), .val (.int G1), .unset, .unset, .unset, .unset] [(.int (1 : Int32))])) _
      exact castTop (by rw [show (own_sel n1 (0 : Int32) (1 : Int32)) = (1 : Int32) from by exact (if_pos hc183).trans (rfl)]) kT
    · show Steps p.tables e below (T38.setTop (mkF m 183 #[.val (.int p1), .val (.int p2), .val (.int p3), .val (.int p4), .val (.int p5), .val (.int n1), .val (.int n2), .val (.int dA), .val (.int qA), .val (.int dB), .val (.int qB), .val (.int dC), .val (.int qC), .val (.ref b1), .val (.ref r1), .val (.int G1), .unset, .unset, .unset, .unset] [(.int n1)])) _
      refine XS.ifNo X38.here hx rfl (hb hby at_183) rfl ((if0 _ _).trans (feq hc183).1) ?_
      show Steps p.tables e below (T38.setTop (mkF m 186 #[.val (.int p1), .val (.int p2), .val (.int p3), .val (.int p4), .val (.int p5), .val (.int n1), .val (.int n2), .val (.int dA), .val (.int qA), .val (.int dB), .val (.int qB), .val (.int dC), .val (.int qC), .val (.ref b1), .val (.ref r1), .val (.int G1), .unset, .unset, .unset, .unset] [])) _
      refine XS.iconst X38.here hx rfl (hb hby at_186) ?_
      show Steps p.tables e below (T38.setTop (mkF m 187 #[.val (.int p1), .val (.int p2), .val (.int p3), .val (.int p4), .val (.int p5), .val (.int n1), .val (.int n2), .val (.int dA), .val (.int qA), .val (.int dB), .val (.int qB), .val (.int dC), .val (.int qC), .val (.ref b1), .val (.ref r1), .val (.int G1), .unset, .unset, .unset, .unset] [(.int (0 : Int32))])) _
      refine XS.goto X38.here hx rfl (pc0 := 187) (pc' := 191) rfl (hb hby at_187) (by decide) (by decide) ?_
      show Steps p.tables e below (T38.setTop (mkF m 191 #[.val (.int p1), .val (.int p2), .val (.int p3), .val (.int p4), .val (.int p5), .val (.int n1), .val (.int n2), .val (.int dA), .val (.int qA), .val (.int dB), .val (.int qB), .val (.int dC), .val (.int qC), .val (.ref b1), .val (.ref r1), .val (.int G1), .unset, .unset, .unset, .unset] [(.int (0 : Int32))])) _
      exact castTop (by rw [show (own_sel n1 (0 : Int32) (1 : Int32)) = (0 : Int32) from by exact (if_neg hc183).trans (rfl)]) kT)
  have pre43 : ∀ t, Steps p.tables e below (T38.setTop (mkF m 193 #[.val (.int p1), .val (.int p2), .val (.int p3), .val (.int p4), .val (.int p5), .val (.int n1), .val (.int n2), .val (.int dA), .val (.int qA), .val (.int dB), .val (.int qB), .val (.int dC), .val (.int qC), .val (.ref b1), .val (.ref r1), .val (.int G1), .val (.int (own_sel n1 (0 : Int32) (1 : Int32))), .unset, .unset, .unset] [])) t → Steps p.tables e below (s₁.setTop (entryFrame m #[(.int p1), (.int p2), (.int p3), (.int p4), (.int p5)] maxLocals)) t := fun t kT => pre42 t (by
    show Steps p.tables e below (T38.setTop (mkF m 191 #[.val (.int p1), .val (.int p2), .val (.int p3), .val (.int p4), .val (.int p5), .val (.int n1), .val (.int n2), .val (.int dA), .val (.int qA), .val (.int dB), .val (.int qB), .val (.int dC), .val (.int qC), .val (.ref b1), .val (.ref r1), .val (.int G1), .unset, .unset, .unset, .unset] [(.int (own_sel n1 (0 : Int32) (1 : Int32)))])) _
    refine XS.istore X38.here hx rfl (hb hby at_191) rfl (l' := #[.val (.int p1), .val (.int p2), .val (.int p3), .val (.int p4), .val (.int p5), .val (.int n1), .val (.int n2), .val (.int dA), .val (.int qA), .val (.int dB), .val (.int qB), .val (.int dC), .val (.int qC), .val (.ref b1), .val (.ref r1), .val (.int G1), .val (.int (own_sel n1 (0 : Int32) (1 : Int32))), .unset, .unset, .unset]) rfl ?_
    exact kT)
  obtain ⟨J1, hJ1⟩ : ∃ z, z = (own_sel n1 (0 : Int32) (1 : Int32)) := ⟨_, rfl⟩
  rw [← hJ1] at pre43
  have pre44 : ∀ t, Steps p.tables e below (T38.setTop (mkF m 205 #[.val (.int p1), .val (.int p2), .val (.int p3), .val (.int p4), .val (.int p5), .val (.int n1), .val (.int n2), .val (.int dA), .val (.int qA), .val (.int dB), .val (.int qB), .val (.int dC), .val (.int qC), .val (.ref b1), .val (.ref r1), .val (.int G1), .val (.int J1), .unset, .unset, .unset] [(.int (own_sel n2 (1 : Int32) (0 : Int32))), (.int G1)])) t → Steps p.tables e below (s₁.setTop (entryFrame m #[(.int p1), (.int p2), (.int p3), (.int p4), (.int p5)] maxLocals)) t := fun t kT => pre43 t (by
    show Steps p.tables e below (T38.setTop (mkF m 193 #[.val (.int p1), .val (.int p2), .val (.int p3), .val (.int p4), .val (.int p5), .val (.int n1), .val (.int n2), .val (.int dA), .val (.int qA), .val (.int dB), .val (.int qB), .val (.int dC), .val (.int qC), .val (.ref b1), .val (.ref r1), .val (.int G1), .val (.int J1), .unset, .unset, .unset] [])) _
    refine XS.iload X38.here hx rfl (hb hby at_193) rfl ?_
    show Steps p.tables e below (T38.setTop (mkF m 195 #[.val (.int p1), .val (.int p2), .val (.int p3), .val (.int p4), .val (.int p5), .val (.int n1), .val (.int n2), .val (.int dA), .val (.int qA), .val (.int dB), .val (.int qB), .val (.int dC), .val (.int qC), .val (.ref b1), .val (.ref r1), .val (.int G1), .val (.int J1), .unset, .unset, .unset] [(.int G1)])) _
    refine XS.iload X38.here hx rfl (hb hby at_195) rfl ?_
    by_cases hc197 : n2 = (0 : Int32)
    · show Steps p.tables e below (T38.setTop (mkF m 197 #[.val (.int p1), .val (.int p2), .val (.int p3), .val (.int p4), .val (.int p5), .val (.int n1), .val (.int n2), .val (.int dA), .val (.int qA), .val (.int dB), .val (.int qB), .val (.int dC), .val (.int qC), .val (.ref b1), .val (.ref r1), .val (.int G1), .val (.int J1), .unset, .unset, .unset] [(.int n2), (.int G1)])) _
      refine XS.ifYes X38.here hx rfl (pc0 := 197) (pc' := 204) rfl (hb hby at_197) rfl ((if0 _ _).trans (teq hc197).1) (by decide) (by decide) ?_
      show Steps p.tables e below (T38.setTop (mkF m 204 #[.val (.int p1), .val (.int p2), .val (.int p3), .val (.int p4), .val (.int p5), .val (.int n1), .val (.int n2), .val (.int dA), .val (.int qA), .val (.int dB), .val (.int qB), .val (.int dC), .val (.int qC), .val (.ref b1), .val (.ref r1), .val (.int G1), .val (.int J1), .unset, .unset, .unset] [(.int G1)])) _
      refine XS.iconst X38.here hx rfl (hb hby at_204) ?_
      show Steps p.tables e below (T38.setTop (mkF m 205 #[.val (.int p1), .val (.int p2), .val (.int p3), .val (.int p4), .val (.int p5), .val (.int n1), .val (.int n2), .val (.int dA), .val (.int qA), .val (.int dB), .val (.int qB), .val (.int dC), .val (.int qC), .val (.ref b1), .val (.ref r1), .val (.int G1), .val (.int J1), .unset, .unset, .unset] [(.int (0 : Int32)), (.int G1)])) _
      exact castTop (by rw [show (own_sel n2 (1 : Int32) (0 : Int32)) = (0 : Int32) from by exact (if_pos hc197).trans (rfl)]) kT
    · show Steps p.tables e below (T38.setTop (mkF m 197 #[.val (.int p1), .val (.int p2), .val (.int p3), .val (.int p4), .val (.int p5), .val (.int n1), .val (.int n2), .val (.int dA), .val (.int qA), .val (.int dB), .val (.int qB), .val (.int dC), .val (.int qC), .val (.ref b1), .val (.ref r1), .val (.int G1), .val (.int J1), .unset, .unset, .unset] [(.int n2), (.int G1)])) _
      refine XS.ifNo X38.here hx rfl (hb hby at_197) rfl ((if0 _ _).trans (feq hc197).1) ?_
      show Steps p.tables e below (T38.setTop (mkF m 200 #[.val (.int p1), .val (.int p2), .val (.int p3), .val (.int p4), .val (.int p5), .val (.int n1), .val (.int n2), .val (.int dA), .val (.int qA), .val (.int dB), .val (.int qB), .val (.int dC), .val (.int qC), .val (.ref b1), .val (.ref r1), .val (.int G1), .val (.int J1), .unset, .unset, .unset] [(.int G1)])) _
      refine XS.iconst X38.here hx rfl (hb hby at_200) ?_
      show Steps p.tables e below (T38.setTop (mkF m 201 #[.val (.int p1), .val (.int p2), .val (.int p3), .val (.int p4), .val (.int p5), .val (.int n1), .val (.int n2), .val (.int dA), .val (.int qA), .val (.int dB), .val (.int qB), .val (.int dC), .val (.int qC), .val (.ref b1), .val (.ref r1), .val (.int G1), .val (.int J1), .unset, .unset, .unset] [(.int (1 : Int32)), (.int G1)])) _
      refine XS.goto X38.here hx rfl (pc0 := 201) (pc' := 205) rfl (hb hby at_201) (by decide) (by decide) ?_
      show Steps p.tables e below (T38.setTop (mkF m 205 #[.val (.int p1), .val (.int p2), .val (.int p3), .val (.int p4), .val (.int p5), .val (.int n1), .val (.int n2), .val (.int dA), .val (.int qA), .val (.int dB), .val (.int qB), .val (.int dC), .val (.int qC), .val (.ref b1), .val (.ref r1), .val (.int G1), .val (.int J1), .unset, .unset, .unset] [(.int (1 : Int32)), (.int G1)])) _
      exact castTop (by rw [show (own_sel n2 (1 : Int32) (0 : Int32)) = (1 : Int32) from by exact (if_neg hc197).trans (rfl)]) kT)
  have pre45 : ∀ t, Steps p.tables e below (T38.setTop (mkF m 208 #[.val (.int p1), .val (.int p2), .val (.int p3), .val (.int p4), .val (.int p5), .val (.int n1), .val (.int n2), .val (.int dA), .val (.int qA), .val (.int dB), .val (.int qB), .val (.int dC), .val (.int qC), .val (.ref b1), .val (.ref r1), .val (.int G1), .val (.int J1), .val (.int (G1 + (own_sel n2 (1 : Int32) (0 : Int32)))), .unset, .unset] [])) t → Steps p.tables e below (s₁.setTop (entryFrame m #[(.int p1), (.int p2), (.int p3), (.int p4), (.int p5)] maxLocals)) t := fun t kT => pre44 t (by
    show Steps p.tables e below (T38.setTop (mkF m 205 #[.val (.int p1), .val (.int p2), .val (.int p3), .val (.int p4), .val (.int p5), .val (.int n1), .val (.int n2), .val (.int dA), .val (.int qA), .val (.int dB), .val (.int qB), .val (.int dC), .val (.int qC), .val (.ref b1), .val (.ref r1), .val (.int G1), .val (.int J1), .unset, .unset, .unset] [(.int (own_sel n2 (1 : Int32) (0 : Int32))), (.int G1)])) _
    refine XS.iadd X38.here hx rfl (hb hby at_205) rfl ?_
    show Steps p.tables e below (T38.setTop (mkF m 206 #[.val (.int p1), .val (.int p2), .val (.int p3), .val (.int p4), .val (.int p5), .val (.int n1), .val (.int n2), .val (.int dA), .val (.int qA), .val (.int dB), .val (.int qB), .val (.int dC), .val (.int qC), .val (.ref b1), .val (.ref r1), .val (.int G1), .val (.int J1), .unset, .unset, .unset] [(.int (G1 + (own_sel n2 (1 : Int32) (0 : Int32))))])) _
    refine XS.istore X38.here hx rfl (hb hby at_206) rfl (l' := #[.val (.int p1), .val (.int p2), .val (.int p3), .val (.int p4), .val (.int p5), .val (.int n1), .val (.int n2), .val (.int dA), .val (.int qA), .val (.int dB), .val (.int qB), .val (.int dC), .val (.int qC), .val (.ref b1), .val (.ref r1), .val (.int G1), .val (.int J1), .val (.int (G1 + (own_sel n2 (1 : Int32) (0 : Int32)))), .unset, .unset]) rfl ?_
    exact kT)
  obtain ⟨G2, hG2⟩ : ∃ z, z = (G1 + (own_sel n2 (1 : Int32) (0 : Int32))) := ⟨_, rfl⟩
  rw [← hG2] at pre45
  have pre46 : ∀ t, Steps p.tables e below (T38.setTop (mkF m 221 #[.val (.int p1), .val (.int p2), .val (.int p3), .val (.int p4), .val (.int p5), .val (.int n1), .val (.int n2), .val (.int dA), .val (.int qA), .val (.int dB), .val (.int qB), .val (.int dC), .val (.int qC), .val (.ref b1), .val (.ref r1), .val (.int G1), .val (.int J1), .val (.int G2), .unset, .unset] [(.int (own_sel n2 (0 : Int32) (J1 + (1 : Int32))))])) t → Steps p.tables e below (s₁.setTop (entryFrame m #[(.int p1), (.int p2), (.int p3), (.int p4), (.int p5)] maxLocals)) t := fun t kT => pre45 t (by
    show Steps p.tables e below (T38.setTop (mkF m 208 #[.val (.int p1), .val (.int p2), .val (.int p3), .val (.int p4), .val (.int p5), .val (.int n1), .val (.int n2), .val (.int dA), .val (.int qA), .val (.int dB), .val (.int qB), .val (.int dC), .val (.int qC), .val (.ref b1), .val (.ref r1), .val (.int G1), .val (.int J1), .val (.int G2), .unset, .unset] [])) _
    refine XS.iload X38.here hx rfl (hb hby at_208) rfl ?_
    by_cases hc210 : n2 = (0 : Int32)
    · show Steps p.tables e below (T38.setTop (mkF m 210 #[.val (.int p1), .val (.int p2), .val (.int p3), .val (.int p4), .val (.int p5), .val (.int n1), .val (.int n2), .val (.int dA), .val (.int qA), .val (.int dB), .val (.int qB), .val (.int dC), .val (.int qC), .val (.ref b1), .val (.ref r1), .val (.int G1), .val (.int J1), .val (.int G2), .unset, .unset] [(.int n2)])) _
      refine XS.ifYes X38.here hx rfl (pc0 := 210) (pc' := 217) rfl (hb hby at_210) rfl ((if0 _ _).trans (teq hc210).1) (by decide) (by decide) ?_
      show Steps p.tables e below (T38.setTop (mkF m 217 #[.val (.int p1), .val (.int p2), .val (.int p3), .val (.int p4), .val (.int p5), .val (.int n1), .val (.int n2), .val (.int dA), .val (.int qA), .val (.int dB), .val (.int qB), .val (.int dC), .val (.int qC), .val (.ref b1), .val (.ref r1), .val (.int G1), .val (.int J1), .val (.int G2), .unset, .unset] [])) _
      refine XS.iload X38.here hx rfl (hb hby at_217) rfl ?_
      show Steps p.tables e below (T38.setTop (mkF m 219 #[.val (.int p1), .val (.int p2), .val (.int p3), .val (.int p4), .val (.int p5), .val (.int n1), .val (.int n2), .val (.int dA), .val (.int qA), .val (.int dB), .val (.int qB), .val (.int dC), .val (.int qC), .val (.ref b1), .val (.ref r1), .val (.int G1), .val (.int J1), .val (.int G2), .unset, .unset] [(.int J1)])) _
      refine XS.iconst X38.here hx rfl (hb hby at_219) ?_
      show Steps p.tables e below (T38.setTop (mkF m 220 #[.val (.int p1), .val (.int p2), .val (.int p3), .val (.int p4), .val (.int p5), .val (.int n1), .val (.int n2), .val (.int dA), .val (.int qA), .val (.int dB), .val (.int qB), .val (.int dC), .val (.int qC), .val (.ref b1), .val (.ref r1), .val (.int G1), .val (.int J1), .val (.int G2), .unset, .unset] [(.int (1 : Int32)), (.int J1)])) _
      refine XS.iadd X38.here hx rfl (hb hby at_220) rfl ?_
      show Steps p.tables e below (T38.setTop (mkF m 221 #[.val (.int p1), .val (.int p2), .val (.int p3), .val (.int p4), .val (.int p5), .val (.int n1), .val (.int n2), .val (.int dA), .val (.int qA), .val (.int dB), .val (.int qB), .val (.int dC), .val (.int qC), .val (.ref b1), .val (.ref r1), .val (.int G1), .val (.int J1), .val (.int G2), .unset, .unset] [(.int (J1 + (1 : Int32)))])) _
      exact castTop (by rw [show (own_sel n2 (0 : Int32) (J1 + (1 : Int32))) = (J1 + (1 : Int32)) from by exact (if_pos hc210).trans (rfl)]) kT
    · show Steps p.tables e below (T38.setTop (mkF m 210 #[.val (.int p1), .val (.int p2), .val (.int p3), .val (.int p4), .val (.int p5), .val (.int n1), .val (.int n2), .val (.int dA), .val (.int qA), .val (.int dB), .val (.int qB), .val (.int dC), .val (.int qC), .val (.ref b1), .val (.ref r1), .val (.int G1), .val (.int J1), .val (.int G2), .unset, .unset] [(.int n2)])) _
      refine XS.ifNo X38.here hx rfl (hb hby at_210) rfl ((if0 _ _).trans (feq hc210).1) ?_
      show Steps p.tables e below (T38.setTop (mkF m 213 #[.val (.int p1), .val (.int p2), .val (.int p3), .val (.int p4), .val (.int p5), .val (.int n1), .val (.int n2), .val (.int dA), .val (.int qA), .val (.int dB), .val (.int qB), .val (.int dC), .val (.int qC), .val (.ref b1), .val (.ref r1), .val (.int G1), .val (.int J1), .val (.int G2), .unset, .unset] [])) _
      refine XS.iconst X38.here hx rfl (hb hby at_213) ?_
      show Steps p.tables e below (T38.setTop (mkF m 214 #[.val (.int p1), .val (.int p2), .val (.int p3), .val (.int p4), .val (.int p5), .val (.int n1), .val (.int n2), .val (.int dA), .val (.int qA), .val (.int dB), .val (.int qB), .val (.int dC), .val (.int qC), .val (.ref b1), .val (.ref r1), .val (.int G1), .val (.int J1), .val (.int G2), .unset, .unset] [(.int (0 : Int32))])) _
      refine XS.goto X38.here hx rfl (pc0 := 214) (pc' := 221) rfl (hb hby at_214) (by decide) (by decide) ?_
      show Steps p.tables e below (T38.setTop (mkF m 221 #[.val (.int p1), .val (.int p2), .val (.int p3), .val (.int p4), .val (.int p5), .val (.int n1), .val (.int n2), .val (.int dA), .val (.int qA), .val (.int dB), .val (.int qB), .val (.int dC), .val (.int qC), .val (.ref b1), .val (.ref r1), .val (.int G1), .val (.int J1), .val (.int G2), .unset, .unset] [(.int (0 : Int32))])) _
      exact castTop (by rw [show (own_sel n2 (0 : Int32) (J1 + (1 : Int32))) = (0 : Int32) from by exact (if_neg hc210).trans (rfl)]) kT)
  have pre47 : ∀ t, Steps p.tables e below (T38.setTop (mkF m 223 #[.val (.int p1), .val (.int p2), .val (.int p3), .val (.int p4), .val (.int p5), .val (.int n1), .val (.int n2), .val (.int dA), .val (.int qA), .val (.int dB), .val (.int qB), .val (.int dC), .val (.int qC), .val (.ref b1), .val (.ref r1), .val (.int G1), .val (.int J1), .val (.int G2), .val (.int (own_sel n2 (0 : Int32) (J1 + (1 : Int32)))), .unset] [])) t → Steps p.tables e below (s₁.setTop (entryFrame m #[(.int p1), (.int p2), (.int p3), (.int p4), (.int p5)] maxLocals)) t := fun t kT => pre46 t (by
    show Steps p.tables e below (T38.setTop (mkF m 221 #[.val (.int p1), .val (.int p2), .val (.int p3), .val (.int p4), .val (.int p5), .val (.int n1), .val (.int n2), .val (.int dA), .val (.int qA), .val (.int dB), .val (.int qB), .val (.int dC), .val (.int qC), .val (.ref b1), .val (.ref r1), .val (.int G1), .val (.int J1), .val (.int G2), .unset, .unset] [(.int (own_sel n2 (0 : Int32) (J1 + (1 : Int32))))])) _
    refine XS.istore X38.here hx rfl (hb hby at_221) rfl (l' := #[.val (.int p1), .val (.int p2), .val (.int p3), .val (.int p4), .val (.int p5), .val (.int n1), .val (.int n2), .val (.int dA), .val (.int qA), .val (.int dB), .val (.int qB), .val (.int dC), .val (.int qC), .val (.ref b1), .val (.ref r1), .val (.int G1), .val (.int J1), .val (.int G2), .val (.int (own_sel n2 (0 : Int32) (J1 + (1 : Int32)))), .unset]) rfl ?_
    exact kT)
  obtain ⟨J2, hJ2⟩ : ∃ z, z = (own_sel n2 (0 : Int32) (J1 + (1 : Int32))) := ⟨_, rfl⟩
  rw [← hJ2] at pre47
  obtain ⟨g1, j1, g2, j2, eG1, eJ1, eG2, eJ2, x1, x2, x3, x4, x5, x6, x7, x8, x9, xa, xb, xc⟩ : ∃ g1 j1 g2 j2 : Nat, G1 = Int32.ofNat g1 ∧ J1 = Int32.ofNat j1 ∧ G2 = Int32.ofNat g2 ∧ J2 = Int32.ofNat j2 ∧ dc3 = g2 + 1 ∧ df3 0 = dA ∧ sf3 0 = Int32.ofNat 0 ∧ g1 < dc3 ∧ df3 g1 = dB ∧ sf3 g1 + Int32.ofNat j1 = Int32.ofNat 1 ∧ df3 g2 = dC ∧ sf3 g2 + Int32.ofNat j2 = Int32.ofNat 2 ∧ (n1 = 1 → sf3 (0 + 1) - sf3 0 = 1) ∧ (n2 = 1 → sf3 (g1 + 1) - sf3 g1 = Int32.ofNat (j1 + 1)) ∧ sf3 (g2 + 1) - sf3 g2 = Int32.ofNat (j2 + 1) ∧ 1 ≤ dc3 := by
    rcases H2 with ⟨q1, a2, b2, c2⟩ | ⟨q1, a2, b2, c2⟩ <;> rcases H3 with ⟨q2, a3, b3, c3⟩ | ⟨q2, a3, b3, c3⟩
    · have e1 : G1 = Int32.ofNat 0 := hG1.trans (own_sel0 q1)
      have e2 : J1 = Int32.ofNat 1 := hJ1.trans (own_sel0 q1)
      have e3 : G2 = Int32.ofNat 0 := by rw [hG2, e1, own_sel0 q2]; decide
      have e4 : J2 = Int32.ofNat 2 := by rw [hJ2, e2, own_sel0 q2]; decide
      have ed : df3 0 = dA := by rw [b3, b2, hdf1]; rfl
      have es : ∀ k, sf3 k = (own_updI (own_updI (own_updI (own_updI (fun _ => (0 : Int32)) 0 (Int32.ofNat 0)) (0 + 1) (Int32.ofNat (0 + 1))) 1 (Int32.ofNat 2)) 1 (Int32.ofNat 3)) k := fun k => by rw [c3, a2, c2, hsf1]
      have eB : df3 0 = dB := by rw [b3, b2]; rw [hdf1]; exact (fB.1 q1).1.symm
      have eC : df3 0 = dC := by rw [(fC.1 q2).1]; exact eB
      exact ⟨0, 1, 0, 2, e1, e2, e3, e4, by omega, ed, by rw [es]; rfl, by omega, eB, by rw [es]; decide, eC, by rw [es]; decide, fun z => absurd (q1.symm.trans z) (by decide), fun z => absurd (q2.symm.trans z) (by decide), by rw [es, es]; decide, by omega⟩
    · have e1 : G1 = Int32.ofNat 0 := hG1.trans (own_sel0 q1)
      have e2 : J1 = Int32.ofNat 1 := hJ1.trans (own_sel0 q1)
      have e3 : G2 = Int32.ofNat 1 := by rw [hG2, e1, own_sel1 q2]; decide
      have e4 : J2 = Int32.ofNat 0 := by rw [hJ2, e2, own_sel1 q2]; rfl
      have ed : df3 0 = dA := by rw [b3, b2, a2, hdf1]; rfl
      have es : ∀ k, sf3 k = (own_updI (own_updI (own_updI (own_updI (own_updI (fun _ => (0 : Int32)) 0 (Int32.ofNat 0)) (0 + 1) (Int32.ofNat (0 + 1))) 1 (Int32.ofNat 2)) 1 (Int32.ofNat 2)) (1 + 1) (Int32.ofNat 3)) k := fun k => by rw [c3, a2, c2, hsf1]
      have eB : df3 0 = dB := by rw [b3, b2, a2]; rw [hdf1]; exact (fB.1 q1).1.symm
      have eC : df3 1 = dC := by rw [b3, a2]; rfl
      exact ⟨0, 1, 1, 0, e1, e2, e3, e4, by omega, ed, by rw [es]; rfl, by omega, eB, by rw [es]; decide, eC, by rw [es]; decide, fun z => absurd (q1.symm.trans z) (by decide), fun _ => by rw [es, es]; decide, by rw [es, es]; decide, by omega⟩
    · have e1 : G1 = Int32.ofNat 1 := hG1.trans (own_sel1 q1)
      have e2 : J1 = Int32.ofNat 0 := hJ1.trans (own_sel1 q1)
      have e3 : G2 = Int32.ofNat 1 := by rw [hG2, e1, own_sel0 q2]; decide
      have e4 : J2 = Int32.ofNat 1 := by rw [hJ2, e2, own_sel0 q2]; decide
      have ed : df3 0 = dA := by rw [b3, b2, hdf1]; rfl
      have es : ∀ k, sf3 k = (own_updI (own_updI (own_updI (own_updI (own_updI (fun _ => (0 : Int32)) 0 (Int32.ofNat 0)) (0 + 1) (Int32.ofNat (0 + 1))) 1 (Int32.ofNat 1)) 2 (Int32.ofNat 2)) 2 (Int32.ofNat 3)) k := fun k => by rw [c3, a2, c2, hsf1]
      have eB : df3 1 = dB := by rw [b3, b2]; rfl
      have eC : df3 1 = dC := by rw [(fC.1 q2).1]; exact eB
      exact ⟨1, 0, 1, 1, e1, e2, e3, e4, by omega, ed, by rw [es]; rfl, by omega, eB, by rw [es]; decide, eC, by rw [es]; decide, fun _ => by rw [es, es]; decide, fun z => absurd (q2.symm.trans z) (by decide), by rw [es, es]; decide, by omega⟩
    · have e1 : G1 = Int32.ofNat 1 := hG1.trans (own_sel1 q1)
      have e2 : J1 = Int32.ofNat 0 := hJ1.trans (own_sel1 q1)
      have e3 : G2 = Int32.ofNat 2 := by rw [hG2, e1, own_sel1 q2]; decide
      have e4 : J2 = Int32.ofNat 0 := by rw [hJ2, e2, own_sel1 q2]; rfl
      have ed : df3 0 = dA := by rw [b3, b2, a2, hdf1]; rfl
      have es : ∀ k, sf3 k = (own_updI (own_updI (own_updI (own_updI (own_updI (own_updI (fun _ => (0 : Int32)) 0 (Int32.ofNat 0)) (0 + 1) (Int32.ofNat (0 + 1))) 1 (Int32.ofNat 1)) 2 (Int32.ofNat 2)) 2 (Int32.ofNat 2)) (2 + 1) (Int32.ofNat 3)) k := fun k => by rw [c3, a2, c2, hsf1]
      have eB : df3 1 = dB := by rw [b3, b2, a2]; rfl
      have eC : df3 2 = dC := by rw [b3, a2]; rfl
      exact ⟨1, 0, 2, 0, e1, e2, e3, e4, by omega, ed, by rw [es]; rfl, by omega, eB, by rw [es]; decide, eC, by rw [es]; decide, fun _ => by rw [es, es]; decide, fun _ => by rw [es, es]; decide, by rw [es, es]; decide, by omega⟩
  subst eG1
  subst eJ1
  subst eG2
  subst eJ2
  have pre48 : ∀ t, Steps p.tables e below (T38.setTop (mkF m 225 #[.val (.int p1), .val (.int p2), .val (.int p3), .val (.int p4), .val (.int p5), .val (.int n1), .val (.int n2), .val (.int dA), .val (.int qA), .val (.int dB), .val (.int qB), .val (.int dC), .val (.int qC), .val (.ref b1), .val (.ref r1), .val (.int (Int32.ofNat g1)), .val (.int (Int32.ofNat j1)), .val (.int (Int32.ofNat g2)), .val (.int (Int32.ofNat j2)), .unset] [(.ref r1)])) t → Steps p.tables e below (s₁.setTop (entryFrame m #[(.int p1), (.int p2), (.int p3), (.int p4), (.int p5)] maxLocals)) t := fun t kT => pre47 t (by
    show Steps p.tables e below (T38.setTop (mkF m 223 #[.val (.int p1), .val (.int p2), .val (.int p3), .val (.int p4), .val (.int p5), .val (.int n1), .val (.int n2), .val (.int dA), .val (.int qA), .val (.int dB), .val (.int qB), .val (.int dC), .val (.int qC), .val (.ref b1), .val (.ref r1), .val (.int (Int32.ofNat g1)), .val (.int (Int32.ofNat j1)), .val (.int (Int32.ofNat g2)), .val (.int (Int32.ofNat j2)), .unset] [])) _
    refine XS.aload X38.here hx rfl (hb hby at_223) rfl rfl ?_
    exact kT)
  obtain ⟨cI49, kI49, q49a, q49b, q49c⟩ := isOf hZ rfl BP.1.2.2.2
  have pre50 : ∀ t, Steps p.tables e below (T38.setTop (mkF m 225 #[.val (.int p1), .val (.int p2), .val (.int p3), .val (.int p4), .val (.int p5), .val (.int n1), .val (.int n2), .val (.int dA), .val (.int qA), .val (.int dB), .val (.int qB), .val (.int dC), .val (.int qC), .val (.ref b1), .val (.ref r1), .val (.int (Int32.ofNat g1)), .val (.int (Int32.ofNat j1)), .val (.int (Int32.ofNat g2)), .val (.int (Int32.ofNat j2)), .unset] [(.ref r1)])) t → Steps p.tables e below (s₁.setTop (entryFrame m #[(.int p1), (.int p2), (.int p3), (.int p4), (.int p5)] maxLocals)) t := fun t kT => pre48 t (by
    exact kT)
  obtain ⟨_, _, ⟨T51, L51, k51, n51⟩, -, X51, ⟨Lc51, hQ51, l51, y51, z51⟩, st51⟩ := X38.virtualBack hx (y := (⟨"com/example/esteem/esteem/index/Postings", "docFreq", "()I"⟩ : MethodName)) (z := (⟨"com/example/esteem/esteem/index/Postings", "docFreq", "()I"⟩ : MethodName)) hown (mvT hZ (hw _ (List.mem_of_getElem? (i := 70) rfl))) (mvT hZ (hw _ (List.mem_of_getElem? (i := 71) rfl))) (notFace_of_selects (args := #[]) (mvT hZ (hw _ (List.mem_of_getElem? (i := 73) rfl)))) (mvT hZ (hw _ (List.mem_of_getElem? (i := 73) rfl))) (mvT hZ (hw _ (List.mem_of_getElem? (i := 72) rfl))) (by decide) (backOf (W := 0) (rmDF l Z a0 hw [] r1  xd xs xp dc3 (0 + 1 + 1 + 1) df3 sf3 pf3 T38.heap n0 sz38 BP dc3' (by decide) ) hZ (hw _ (List.mem_of_getElem? (i := 74) rfl)) (hw _ (List.mem_of_getElem? (i := 50) rfl)) (by decide) (by decide)) q49a q49c (g := (mkF m 225 #[.val (.int p1), .val (.int p2), .val (.int p3), .val (.int p4), .val (.int p5), .val (.int n1), .val (.int n2), .val (.int dA), .val (.int qA), .val (.int dB), .val (.int qB), .val (.int dC), .val (.int qC), .val (.ref b1), .val (.ref r1), .val (.int (Int32.ofNat g1)), .val (.int (Int32.ofNat j1)), .val (.int (Int32.ofNat g2)), .val (.int (Int32.ofNat j2)), .unset] [(.ref r1)])) rfl (by rw [hml]; rfl) (Steps.refl _) (argsL := []) (rest := []) (lenOf pd___I rfl) rfl (by show 2 * 0 + _ ≤ _; exact Nat.le_of_eq rfl) (hb hby at_225) (fun _ _ => ⟨rfl, rfl, (by decide : 17 + 0 ≤ _), (by decide : 61 + 0 ≤ _)⟩)
  dsimp only [Pt.U, Pt.locs, Pt.cells, Pt.slots] at X51 l51 y51 z51 st51 hQ51
  have X51 := own_st X51 (y51.trans (show _ = 17 from rfl)) (z51.trans (show _ = 61 from rfl))
  obtain ⟨rfl, N51q, er1⟩ := hQ51
  have N51 := own_fr l51 N38 N51q
  have pre52 : ∀ t, Steps p.tables e below (T51.setTop (mkF m 228 #[.val (.int p1), .val (.int p2), .val (.int p3), .val (.int p4), .val (.int p5), .val (.int n1), .val (.int n2), .val (.int dA), .val (.int qA), .val (.int dB), .val (.int qB), .val (.int dC), .val (.int qC), .val (.ref b1), .val (.ref r1), .val (.int (Int32.ofNat g1)), .val (.int (Int32.ofNat j1)), .val (.int (Int32.ofNat g2)), .val (.int (Int32.ofNat j2)), .unset] [(.int (Int32.ofNat dc3))])) t → Steps p.tables e below (s₁.setTop (entryFrame m #[(.int p1), (.int p2), (.int p3), (.int p4), (.int p5)] maxLocals)) t := fun t kT => pre50 t (st51.trans kT)
  have pre53 : ∀ t, Steps p.tables e below (T51.setTop (mkF m 232 #[.val (.int p1), .val (.int p2), .val (.int p3), .val (.int p4), .val (.int p5), .val (.int n1), .val (.int n2), .val (.int dA), .val (.int qA), .val (.int dB), .val (.int qB), .val (.int dC), .val (.int qC), .val (.ref b1), .val (.ref r1), .val (.int (Int32.ofNat g1)), .val (.int (Int32.ofNat j1)), .val (.int (Int32.ofNat g2)), .val (.int (Int32.ofNat j2)), .unset] [(.int ((Int32.ofNat g2) + (1 : Int32))), (.int (Int32.ofNat dc3))])) t → Steps p.tables e below (s₁.setTop (entryFrame m #[(.int p1), (.int p2), (.int p3), (.int p4), (.int p5)] maxLocals)) t := fun t kT => pre52 t (by
    show Steps p.tables e below (T51.setTop (mkF m 228 #[.val (.int p1), .val (.int p2), .val (.int p3), .val (.int p4), .val (.int p5), .val (.int n1), .val (.int n2), .val (.int dA), .val (.int qA), .val (.int dB), .val (.int qB), .val (.int dC), .val (.int qC), .val (.ref b1), .val (.ref r1), .val (.int (Int32.ofNat g1)), .val (.int (Int32.ofNat j1)), .val (.int (Int32.ofNat g2)), .val (.int (Int32.ofNat j2)), .unset] [(.int (Int32.ofNat dc3))])) _
    refine XS.iload X51.here hx rfl (hb hby at_228) rfl ?_
    show Steps p.tables e below (T51.setTop (mkF m 230 #[.val (.int p1), .val (.int p2), .val (.int p3), .val (.int p4), .val (.int p5), .val (.int n1), .val (.int n2), .val (.int dA), .val (.int qA), .val (.int dB), .val (.int qB), .val (.int dC), .val (.int qC), .val (.ref b1), .val (.ref r1), .val (.int (Int32.ofNat g1)), .val (.int (Int32.ofNat j1)), .val (.int (Int32.ofNat g2)), .val (.int (Int32.ofNat j2)), .unset] [(.int (Int32.ofNat g2)), (.int (Int32.ofNat dc3))])) _
    refine XS.iconst X51.here hx rfl (hb hby at_230) ?_
    show Steps p.tables e below (T51.setTop (mkF m 231 #[.val (.int p1), .val (.int p2), .val (.int p3), .val (.int p4), .val (.int p5), .val (.int n1), .val (.int n2), .val (.int dA), .val (.int qA), .val (.int dB), .val (.int qB), .val (.int dC), .val (.int qC), .val (.ref b1), .val (.ref r1), .val (.int (Int32.ofNat g1)), .val (.int (Int32.ofNat j1)), .val (.int (Int32.ofNat g2)), .val (.int (Int32.ofNat j2)), .unset] [(.int (1 : Int32)), (.int (Int32.ofNat g2)), (.int (Int32.ofNat dc3))])) _
    refine XS.iadd X51.here hx rfl (hb hby at_231) rfl ?_
    exact kT)
  rw [own_one] at pre53
  have pre54 : ∀ t, Steps p.tables e below (T51.setTop (mkF m 250 #[.val (.int p1), .val (.int p2), .val (.int p3), .val (.int p4), .val (.int p5), .val (.int n1), .val (.int n2), .val (.int dA), .val (.int qA), .val (.int dB), .val (.int qB), .val (.int dC), .val (.int qC), .val (.ref b1), .val (.ref r1), .val (.int (Int32.ofNat g1)), .val (.int (Int32.ofNat j1)), .val (.int (Int32.ofNat g2)), .val (.int (Int32.ofNat j2)), .val (.int (1 : Int32))] [(.int (0 : Int32)), (.ref r1)])) t → Steps p.tables e below (s₁.setTop (entryFrame m #[(.int p1), (.int p2), (.int p3), (.int p4), (.int p5)] maxLocals)) t := fun t kT => pre53 t (by
    show Steps p.tables e below (T51.setTop (mkF m 232 #[.val (.int p1), .val (.int p2), .val (.int p3), .val (.int p4), .val (.int p5), .val (.int n1), .val (.int n2), .val (.int dA), .val (.int qA), .val (.int dB), .val (.int qB), .val (.int dC), .val (.int qC), .val (.ref b1), .val (.ref r1), .val (.int (Int32.ofNat g1)), .val (.int (Int32.ofNat j1)), .val (.int (Int32.ofNat g2)), .val (.int (Int32.ofNat j2)), .unset] [(.int (Int32.ofNat (g2 + 1))), (.int (Int32.ofNat dc3))])) _
    refine XS.icmpNo X51.here hx rfl (hb hby at_232) rfl (teq (by rw [x1])).2 ?_
    show Steps p.tables e below (T51.setTop (mkF m 235 #[.val (.int p1), .val (.int p2), .val (.int p3), .val (.int p4), .val (.int p5), .val (.int n1), .val (.int n2), .val (.int dA), .val (.int qA), .val (.int dB), .val (.int qB), .val (.int dC), .val (.int qC), .val (.ref b1), .val (.ref r1), .val (.int (Int32.ofNat g1)), .val (.int (Int32.ofNat j1)), .val (.int (Int32.ofNat g2)), .val (.int (Int32.ofNat j2)), .unset] [])) _
    refine XS.iconst X51.here hx rfl (hb hby at_235) ?_
    show Steps p.tables e below (T51.setTop (mkF m 236 #[.val (.int p1), .val (.int p2), .val (.int p3), .val (.int p4), .val (.int p5), .val (.int n1), .val (.int n2), .val (.int dA), .val (.int qA), .val (.int dB), .val (.int qB), .val (.int dC), .val (.int qC), .val (.ref b1), .val (.ref r1), .val (.int (Int32.ofNat g1)), .val (.int (Int32.ofNat j1)), .val (.int (Int32.ofNat g2)), .val (.int (Int32.ofNat j2)), .unset] [(.int (1 : Int32))])) _
    refine XS.goto X51.here hx rfl (pc0 := 236) (pc' := 240) rfl (hb hby at_236) (by decide) (by decide) ?_
    show Steps p.tables e below (T51.setTop (mkF m 240 #[.val (.int p1), .val (.int p2), .val (.int p3), .val (.int p4), .val (.int p5), .val (.int n1), .val (.int n2), .val (.int dA), .val (.int qA), .val (.int dB), .val (.int qB), .val (.int dC), .val (.int qC), .val (.ref b1), .val (.ref r1), .val (.int (Int32.ofNat g1)), .val (.int (Int32.ofNat j1)), .val (.int (Int32.ofNat g2)), .val (.int (Int32.ofNat j2)), .unset] [(.int (1 : Int32))])) _
    refine XS.istore X51.here hx rfl (hb hby at_240) rfl (l' := #[.val (.int p1), .val (.int p2), .val (.int p3), .val (.int p4), .val (.int p5), .val (.int n1), .val (.int n2), .val (.int dA), .val (.int qA), .val (.int dB), .val (.int qB), .val (.int dC), .val (.int qC), .val (.ref b1), .val (.ref r1), .val (.int (Int32.ofNat g1)), .val (.int (Int32.ofNat j1)), .val (.int (Int32.ofNat g2)), .val (.int (Int32.ofNat j2)), .val (.int (1 : Int32))]) rfl ?_
    show Steps p.tables e below (T51.setTop (mkF m 242 #[.val (.int p1), .val (.int p2), .val (.int p3), .val (.int p4), .val (.int p5), .val (.int n1), .val (.int n2), .val (.int dA), .val (.int qA), .val (.int dB), .val (.int qB), .val (.int dC), .val (.int qC), .val (.ref b1), .val (.ref r1), .val (.int (Int32.ofNat g1)), .val (.int (Int32.ofNat j1)), .val (.int (Int32.ofNat g2)), .val (.int (Int32.ofNat j2)), .val (.int (1 : Int32))] [])) _
    refine XS.iload X51.here hx rfl (hb hby at_242) rfl ?_
    show Steps p.tables e below (T51.setTop (mkF m 244 #[.val (.int p1), .val (.int p2), .val (.int p3), .val (.int p4), .val (.int p5), .val (.int n1), .val (.int n2), .val (.int dA), .val (.int qA), .val (.int dB), .val (.int qB), .val (.int dC), .val (.int qC), .val (.ref b1), .val (.ref r1), .val (.int (Int32.ofNat g1)), .val (.int (Int32.ofNat j1)), .val (.int (Int32.ofNat g2)), .val (.int (Int32.ofNat j2)), .val (.int (1 : Int32))] [(.int (1 : Int32))])) _
    refine XS.ifNo X51.here hx rfl (hb hby at_244) rfl ((if0 _ _).trans (feq (by decide : ¬ ((1 : Int32) = (0 : Int32)))).1) ?_
    show Steps p.tables e below (T51.setTop (mkF m 247 #[.val (.int p1), .val (.int p2), .val (.int p3), .val (.int p4), .val (.int p5), .val (.int n1), .val (.int n2), .val (.int dA), .val (.int qA), .val (.int dB), .val (.int qB), .val (.int dC), .val (.int qC), .val (.ref b1), .val (.ref r1), .val (.int (Int32.ofNat g1)), .val (.int (Int32.ofNat j1)), .val (.int (Int32.ofNat g2)), .val (.int (Int32.ofNat j2)), .val (.int (1 : Int32))] [])) _
    refine XS.aload X51.here hx rfl (hb hby at_247) rfl rfl ?_
    show Steps p.tables e below (T51.setTop (mkF m 249 #[.val (.int p1), .val (.int p2), .val (.int p3), .val (.int p4), .val (.int p5), .val (.int n1), .val (.int n2), .val (.int dA), .val (.int qA), .val (.int dB), .val (.int qB), .val (.int dC), .val (.int qC), .val (.ref b1), .val (.ref r1), .val (.int (Int32.ofNat g1)), .val (.int (Int32.ofNat j1)), .val (.int (Int32.ofNat g2)), .val (.int (Int32.ofNat j2)), .val (.int (1 : Int32))] [(.ref r1)])) _
    refine XS.iconst X51.here hx rfl (hb hby at_249) ?_
    exact kT)
  obtain ⟨cI55, kI55, q55a, q55b, q55c⟩ := isOf hZ er1 BP.1.2.2.2
  have pre56 : ∀ t, Steps p.tables e below (T51.setTop (mkF m 250 #[.val (.int p1), .val (.int p2), .val (.int p3), .val (.int p4), .val (.int p5), .val (.int n1), .val (.int n2), .val (.int dA), .val (.int qA), .val (.int dB), .val (.int qB), .val (.int dC), .val (.int qC), .val (.ref b1), .val (.ref r1), .val (.int (Int32.ofNat g1)), .val (.int (Int32.ofNat j1)), .val (.int (Int32.ofNat g2)), .val (.int (Int32.ofNat j2)), .val (.int (1 : Int32))] [(.int (0 : Int32)), (.ref r1)])) t → Steps p.tables e below (s₁.setTop (entryFrame m #[(.int p1), (.int p2), (.int p3), (.int p4), (.int p5)] maxLocals)) t := fun t kT => pre54 t (by
    exact kT)
  obtain ⟨_, _, ⟨T57, L57, k57, n57⟩, -, X57, ⟨Lc57, hQ57, l57, y57, z57⟩, st57⟩ := X51.virtualBack hx (y := (⟨"com/example/esteem/esteem/index/Postings", "doc", "(I)I"⟩ : MethodName)) (z := (⟨"com/example/esteem/esteem/index/Postings", "doc", "(I)I"⟩ : MethodName)) hown (mvT hZ (hw _ (List.mem_of_getElem? (i := 75) rfl))) (mvT hZ (hw _ (List.mem_of_getElem? (i := 76) rfl))) (notFace_of_selects (args := #[]) (mvT hZ (hw _ (List.mem_of_getElem? (i := 78) rfl)))) (mvT hZ (hw _ (List.mem_of_getElem? (i := 78) rfl))) (mvT hZ (hw _ (List.mem_of_getElem? (i := 77) rfl))) (by decide) (backOf (W := 0) (rmDO l Z a0 hw [] r1 0 xd xs xp dc3 (0 + 1 + 1 + 1) df3 sf3 pf3 T38.heap n0 sz38 BP dc3' (by decide) (by omega)) hZ (hw _ (List.mem_of_getElem? (i := 79) rfl)) (hw _ (List.mem_of_getElem? (i := 50) rfl)) (by decide) (by decide)) q55a q55c (g := (mkF m 250 #[.val (.int p1), .val (.int p2), .val (.int p3), .val (.int p4), .val (.int p5), .val (.int n1), .val (.int n2), .val (.int dA), .val (.int qA), .val (.int dB), .val (.int qB), .val (.int dC), .val (.int qC), .val (.ref b1), .val (.ref r1), .val (.int (Int32.ofNat g1)), .val (.int (Int32.ofNat j1)), .val (.int (Int32.ofNat g2)), .val (.int (Int32.ofNat j2)), .val (.int (1 : Int32))] [(.int (0 : Int32)), (.ref r1)])) rfl (by rw [hml]; rfl) (Steps.refl _) (argsL := [(.int (0 : Int32))]) (rest := []) (lenOf pd__I_I rfl) rfl (by show 2 * 0 + _ ≤ _; exact Nat.le_of_eq rfl) (hb hby at_250) (fun _ _ => ⟨rfl, er1, (by decide : 17 + 0 ≤ _), (by decide : 61 + 0 ≤ _)⟩)
  dsimp only [Pt.U, Pt.locs, Pt.cells, Pt.slots] at X57 l57 y57 z57 st57 hQ57
  have X57 := own_st X57 (y57.trans (show _ = 17 from rfl)) (z57.trans (show _ = 61 from rfl))
  obtain ⟨rfl, N57q, er2⟩ := hQ57
  have N57 := own_fr l57 N51 N57q
  have pre58 : ∀ t, Steps p.tables e below (T57.setTop (mkF m 253 #[.val (.int p1), .val (.int p2), .val (.int p3), .val (.int p4), .val (.int p5), .val (.int n1), .val (.int n2), .val (.int dA), .val (.int qA), .val (.int dB), .val (.int qB), .val (.int dC), .val (.int qC), .val (.ref b1), .val (.ref r1), .val (.int (Int32.ofNat g1)), .val (.int (Int32.ofNat j1)), .val (.int (Int32.ofNat g2)), .val (.int (Int32.ofNat j2)), .val (.int (1 : Int32))] [(.int (df3 0))])) t → Steps p.tables e below (s₁.setTop (entryFrame m #[(.int p1), (.int p2), (.int p3), (.int p4), (.int p5)] maxLocals)) t := fun t kT => pre56 t (st57.trans kT)
  have pre59 : ∀ t, Steps p.tables e below (T57.setTop (mkF m 262 #[.val (.int p1), .val (.int p2), .val (.int p3), .val (.int p4), .val (.int p5), .val (.int n1), .val (.int n2), .val (.int dA), .val (.int qA), .val (.int dB), .val (.int qB), .val (.int dC), .val (.int qC), .val (.ref b1), .val (.ref r1), .val (.int (Int32.ofNat g1)), .val (.int (Int32.ofNat j1)), .val (.int (Int32.ofNat g2)), .val (.int (Int32.ofNat j2)), .val (.int (1 : Int32))] [(.int (0 : Int32)), (.int (0 : Int32)), (.ref r1)])) t → Steps p.tables e below (s₁.setTop (entryFrame m #[(.int p1), (.int p2), (.int p3), (.int p4), (.int p5)] maxLocals)) t := fun t kT => pre58 t (by
    show Steps p.tables e below (T57.setTop (mkF m 253 #[.val (.int p1), .val (.int p2), .val (.int p3), .val (.int p4), .val (.int p5), .val (.int n1), .val (.int n2), .val (.int dA), .val (.int qA), .val (.int dB), .val (.int qB), .val (.int dC), .val (.int qC), .val (.ref b1), .val (.ref r1), .val (.int (Int32.ofNat g1)), .val (.int (Int32.ofNat j1)), .val (.int (Int32.ofNat g2)), .val (.int (Int32.ofNat j2)), .val (.int (1 : Int32))] [(.int (df3 0))])) _
    refine XS.iload X57.here hx rfl (hb hby at_253) rfl ?_
    show Steps p.tables e below (T57.setTop (mkF m 255 #[.val (.int p1), .val (.int p2), .val (.int p3), .val (.int p4), .val (.int p5), .val (.int n1), .val (.int n2), .val (.int dA), .val (.int qA), .val (.int dB), .val (.int qB), .val (.int dC), .val (.int qC), .val (.ref b1), .val (.ref r1), .val (.int (Int32.ofNat g1)), .val (.int (Int32.ofNat j1)), .val (.int (Int32.ofNat g2)), .val (.int (Int32.ofNat j2)), .val (.int (1 : Int32))] [(.int dA), (.int (df3 0))])) _
    refine XS.icmpNo X57.here hx rfl (hb hby at_255) rfl (teq x2).2 ?_
    show Steps p.tables e below (T57.setTop (mkF m 258 #[.val (.int p1), .val (.int p2), .val (.int p3), .val (.int p4), .val (.int p5), .val (.int n1), .val (.int n2), .val (.int dA), .val (.int qA), .val (.int dB), .val (.int qB), .val (.int dC), .val (.int qC), .val (.ref b1), .val (.ref r1), .val (.int (Int32.ofNat g1)), .val (.int (Int32.ofNat j1)), .val (.int (Int32.ofNat g2)), .val (.int (Int32.ofNat j2)), .val (.int (1 : Int32))] [])) _
    refine XS.aload X57.here hx rfl (hb hby at_258) rfl rfl ?_
    show Steps p.tables e below (T57.setTop (mkF m 260 #[.val (.int p1), .val (.int p2), .val (.int p3), .val (.int p4), .val (.int p5), .val (.int n1), .val (.int n2), .val (.int dA), .val (.int qA), .val (.int dB), .val (.int qB), .val (.int dC), .val (.int qC), .val (.ref b1), .val (.ref r1), .val (.int (Int32.ofNat g1)), .val (.int (Int32.ofNat j1)), .val (.int (Int32.ofNat g2)), .val (.int (Int32.ofNat j2)), .val (.int (1 : Int32))] [(.ref r1)])) _
    refine XS.iconst X57.here hx rfl (hb hby at_260) ?_
    show Steps p.tables e below (T57.setTop (mkF m 261 #[.val (.int p1), .val (.int p2), .val (.int p3), .val (.int p4), .val (.int p5), .val (.int n1), .val (.int n2), .val (.int dA), .val (.int qA), .val (.int dB), .val (.int qB), .val (.int dC), .val (.int qC), .val (.ref b1), .val (.ref r1), .val (.int (Int32.ofNat g1)), .val (.int (Int32.ofNat j1)), .val (.int (Int32.ofNat g2)), .val (.int (Int32.ofNat j2)), .val (.int (1 : Int32))] [(.int (0 : Int32)), (.ref r1)])) _
    refine XS.iconst X57.here hx rfl (hb hby at_261) ?_
    exact kT)
  obtain ⟨cI60, kI60, q60a, q60b, q60c⟩ := isOf hZ er2 BP.1.2.2.2
  have pre61 : ∀ t, Steps p.tables e below (T57.setTop (mkF m 262 #[.val (.int p1), .val (.int p2), .val (.int p3), .val (.int p4), .val (.int p5), .val (.int n1), .val (.int n2), .val (.int dA), .val (.int qA), .val (.int dB), .val (.int qB), .val (.int dC), .val (.int qC), .val (.ref b1), .val (.ref r1), .val (.int (Int32.ofNat g1)), .val (.int (Int32.ofNat j1)), .val (.int (Int32.ofNat g2)), .val (.int (Int32.ofNat j2)), .val (.int (1 : Int32))] [(.int (0 : Int32)), (.int (0 : Int32)), (.ref r1)])) t → Steps p.tables e below (s₁.setTop (entryFrame m #[(.int p1), (.int p2), (.int p3), (.int p4), (.int p5)] maxLocals)) t := fun t kT => pre59 t (by
    exact kT)
  obtain ⟨_, _, ⟨T62, L62, k62, n62⟩, -, X62, ⟨Lc62, hQ62, l62, y62, z62⟩, st62⟩ := X57.virtualBack hx (y := (⟨"com/example/esteem/esteem/index/Postings", "position", "(II)I"⟩ : MethodName)) (z := (⟨"com/example/esteem/esteem/index/Postings", "position", "(II)I"⟩ : MethodName)) hown (mvT hZ (hw _ (List.mem_of_getElem? (i := 80) rfl))) (mvT hZ (hw _ (List.mem_of_getElem? (i := 81) rfl))) (notFace_of_selects (args := #[]) (mvT hZ (hw _ (List.mem_of_getElem? (i := 83) rfl)))) (mvT hZ (hw _ (List.mem_of_getElem? (i := 83) rfl))) (mvT hZ (hw _ (List.mem_of_getElem? (i := 82) rfl))) (by decide) (backOf (W := 0) (rmPS l Z a0 hw [] r1 (0 : Int32) 0 0 xd xs xp dc3 (0 + 1 + 1 + 1) df3 sf3 pf3 T38.heap n0 sz38 BP dc3' (by decide) (by omega) (by decide) (by rw [x3]; rfl)) hZ (hw _ (List.mem_of_getElem? (i := 84) rfl)) (hw _ (List.mem_of_getElem? (i := 50) rfl)) (by decide) (by decide)) q60a q60c (g := (mkF m 262 #[.val (.int p1), .val (.int p2), .val (.int p3), .val (.int p4), .val (.int p5), .val (.int n1), .val (.int n2), .val (.int dA), .val (.int qA), .val (.int dB), .val (.int qB), .val (.int dC), .val (.int qC), .val (.ref b1), .val (.ref r1), .val (.int (Int32.ofNat g1)), .val (.int (Int32.ofNat j1)), .val (.int (Int32.ofNat g2)), .val (.int (Int32.ofNat j2)), .val (.int (1 : Int32))] [(.int (0 : Int32)), (.int (0 : Int32)), (.ref r1)])) rfl (by rw [hml]; rfl) (Steps.refl _) (argsL := [(.int (0 : Int32)), (.int (0 : Int32))]) (rest := []) (lenOf pd__II_I rfl) rfl (by show 2 * 0 + _ ≤ _; exact Nat.le_of_eq rfl) (hb hby at_262) (fun _ _ => ⟨rfl, er2, (by decide : 17 + 0 ≤ _), (by decide : 61 + 0 ≤ _)⟩)
  dsimp only [Pt.U, Pt.locs, Pt.cells, Pt.slots] at X62 l62 y62 z62 st62 hQ62
  have X62 := own_st X62 (y62.trans (show _ = 17 from rfl)) (z62.trans (show _ = 61 from rfl))
  obtain ⟨rfl, N62q, er3⟩ := hQ62
  have N62 := own_fr l62 N57 N62q
  have pre63 : ∀ t, Steps p.tables e below (T62.setTop (mkF m 265 #[.val (.int p1), .val (.int p2), .val (.int p3), .val (.int p4), .val (.int p5), .val (.int n1), .val (.int n2), .val (.int dA), .val (.int qA), .val (.int dB), .val (.int qB), .val (.int dC), .val (.int qC), .val (.ref b1), .val (.ref r1), .val (.int (Int32.ofNat g1)), .val (.int (Int32.ofNat j1)), .val (.int (Int32.ofNat g2)), .val (.int (Int32.ofNat j2)), .val (.int (1 : Int32))] [(.int (pf3 0))])) t → Steps p.tables e below (s₁.setTop (entryFrame m #[(.int p1), (.int p2), (.int p3), (.int p4), (.int p5)] maxLocals)) t := fun t kT => pre61 t (st62.trans kT)
  have pre64 : ∀ t, Steps p.tables e below (T62.setTop (mkF m 286 #[.val (.int p1), .val (.int p2), .val (.int p3), .val (.int p4), .val (.int p5), .val (.int n1), .val (.int n2), .val (.int dA), .val (.int qA), .val (.int dB), .val (.int qB), .val (.int dC), .val (.int qC), .val (.ref b1), .val (.ref r1), .val (.int (Int32.ofNat g1)), .val (.int (Int32.ofNat j1)), .val (.int (Int32.ofNat g2)), .val (.int (Int32.ofNat j2)), .val (.int (1 : Int32))] [(.int (Int32.ofNat g1)), (.ref r1)])) t → Steps p.tables e below (s₁.setTop (entryFrame m #[(.int p1), (.int p2), (.int p3), (.int p4), (.int p5)] maxLocals)) t := fun t kT => pre63 t (by
    show Steps p.tables e below (T62.setTop (mkF m 265 #[.val (.int p1), .val (.int p2), .val (.int p3), .val (.int p4), .val (.int p5), .val (.int n1), .val (.int n2), .val (.int dA), .val (.int qA), .val (.int dB), .val (.int qB), .val (.int dC), .val (.int qC), .val (.ref b1), .val (.ref r1), .val (.int (Int32.ofNat g1)), .val (.int (Int32.ofNat j1)), .val (.int (Int32.ofNat g2)), .val (.int (Int32.ofNat j2)), .val (.int (1 : Int32))] [(.int (pf3 0))])) _
    refine XS.iload X62.here hx rfl (hb hby at_265) rfl ?_
    show Steps p.tables e below (T62.setTop (mkF m 267 #[.val (.int p1), .val (.int p2), .val (.int p3), .val (.int p4), .val (.int p5), .val (.int n1), .val (.int n2), .val (.int dA), .val (.int qA), .val (.int dB), .val (.int qB), .val (.int dC), .val (.int qC), .val (.ref b1), .val (.ref r1), .val (.int (Int32.ofNat g1)), .val (.int (Int32.ofNat j1)), .val (.int (Int32.ofNat g2)), .val (.int (Int32.ofNat j2)), .val (.int (1 : Int32))] [(.int qA), (.int (pf3 0))])) _
    refine XS.icmpNo X62.here hx rfl (hb hby at_267) rfl (teq p30).2 ?_
    show Steps p.tables e below (T62.setTop (mkF m 270 #[.val (.int p1), .val (.int p2), .val (.int p3), .val (.int p4), .val (.int p5), .val (.int n1), .val (.int n2), .val (.int dA), .val (.int qA), .val (.int dB), .val (.int qB), .val (.int dC), .val (.int qC), .val (.ref b1), .val (.ref r1), .val (.int (Int32.ofNat g1)), .val (.int (Int32.ofNat j1)), .val (.int (Int32.ofNat g2)), .val (.int (Int32.ofNat j2)), .val (.int (1 : Int32))] [])) _
    refine XS.iconst X62.here hx rfl (hb hby at_270) ?_
    show Steps p.tables e below (T62.setTop (mkF m 271 #[.val (.int p1), .val (.int p2), .val (.int p3), .val (.int p4), .val (.int p5), .val (.int n1), .val (.int n2), .val (.int dA), .val (.int qA), .val (.int dB), .val (.int qB), .val (.int dC), .val (.int qC), .val (.ref b1), .val (.ref r1), .val (.int (Int32.ofNat g1)), .val (.int (Int32.ofNat j1)), .val (.int (Int32.ofNat g2)), .val (.int (Int32.ofNat j2)), .val (.int (1 : Int32))] [(.int (1 : Int32))])) _
    refine XS.goto X62.here hx rfl (pc0 := 271) (pc' := 275) rfl (hb hby at_271) (by decide) (by decide) ?_
    show Steps p.tables e below (T62.setTop (mkF m 275 #[.val (.int p1), .val (.int p2), .val (.int p3), .val (.int p4), .val (.int p5), .val (.int n1), .val (.int n2), .val (.int dA), .val (.int qA), .val (.int dB), .val (.int qB), .val (.int dC), .val (.int qC), .val (.ref b1), .val (.ref r1), .val (.int (Int32.ofNat g1)), .val (.int (Int32.ofNat j1)), .val (.int (Int32.ofNat g2)), .val (.int (Int32.ofNat j2)), .val (.int (1 : Int32))] [(.int (1 : Int32))])) _
    refine XS.istore X62.here hx rfl (hb hby at_275) rfl (l' := #[.val (.int p1), .val (.int p2), .val (.int p3), .val (.int p4), .val (.int p5), .val (.int n1), .val (.int n2), .val (.int dA), .val (.int qA), .val (.int dB), .val (.int qB), .val (.int dC), .val (.int qC), .val (.ref b1), .val (.ref r1), .val (.int (Int32.ofNat g1)), .val (.int (Int32.ofNat j1)), .val (.int (Int32.ofNat g2)), .val (.int (Int32.ofNat j2)), .val (.int (1 : Int32))]) rfl ?_
    show Steps p.tables e below (T62.setTop (mkF m 277 #[.val (.int p1), .val (.int p2), .val (.int p3), .val (.int p4), .val (.int p5), .val (.int n1), .val (.int n2), .val (.int dA), .val (.int qA), .val (.int dB), .val (.int qB), .val (.int dC), .val (.int qC), .val (.ref b1), .val (.ref r1), .val (.int (Int32.ofNat g1)), .val (.int (Int32.ofNat j1)), .val (.int (Int32.ofNat g2)), .val (.int (Int32.ofNat j2)), .val (.int (1 : Int32))] [])) _
    refine XS.iload X62.here hx rfl (hb hby at_277) rfl ?_
    show Steps p.tables e below (T62.setTop (mkF m 279 #[.val (.int p1), .val (.int p2), .val (.int p3), .val (.int p4), .val (.int p5), .val (.int n1), .val (.int n2), .val (.int dA), .val (.int qA), .val (.int dB), .val (.int qB), .val (.int dC), .val (.int qC), .val (.ref b1), .val (.ref r1), .val (.int (Int32.ofNat g1)), .val (.int (Int32.ofNat j1)), .val (.int (Int32.ofNat g2)), .val (.int (Int32.ofNat j2)), .val (.int (1 : Int32))] [(.int (1 : Int32))])) _
    refine XS.ifNo X62.here hx rfl (hb hby at_279) rfl ((if0 _ _).trans (feq (by decide : ¬ ((1 : Int32) = (0 : Int32)))).1) ?_
    show Steps p.tables e below (T62.setTop (mkF m 282 #[.val (.int p1), .val (.int p2), .val (.int p3), .val (.int p4), .val (.int p5), .val (.int n1), .val (.int n2), .val (.int dA), .val (.int qA), .val (.int dB), .val (.int qB), .val (.int dC), .val (.int qC), .val (.ref b1), .val (.ref r1), .val (.int (Int32.ofNat g1)), .val (.int (Int32.ofNat j1)), .val (.int (Int32.ofNat g2)), .val (.int (Int32.ofNat j2)), .val (.int (1 : Int32))] [])) _
    refine XS.aload X62.here hx rfl (hb hby at_282) rfl rfl ?_
    show Steps p.tables e below (T62.setTop (mkF m 284 #[.val (.int p1), .val (.int p2), .val (.int p3), .val (.int p4), .val (.int p5), .val (.int n1), .val (.int n2), .val (.int dA), .val (.int qA), .val (.int dB), .val (.int qB), .val (.int dC), .val (.int qC), .val (.ref b1), .val (.ref r1), .val (.int (Int32.ofNat g1)), .val (.int (Int32.ofNat j1)), .val (.int (Int32.ofNat g2)), .val (.int (Int32.ofNat j2)), .val (.int (1 : Int32))] [(.ref r1)])) _
    refine XS.iload X62.here hx rfl (hb hby at_284) rfl ?_
    exact kT)
  obtain ⟨cI65, kI65, q65a, q65b, q65c⟩ := isOf hZ er3 BP.1.2.2.2
  have pre66 : ∀ t, Steps p.tables e below (T62.setTop (mkF m 286 #[.val (.int p1), .val (.int p2), .val (.int p3), .val (.int p4), .val (.int p5), .val (.int n1), .val (.int n2), .val (.int dA), .val (.int qA), .val (.int dB), .val (.int qB), .val (.int dC), .val (.int qC), .val (.ref b1), .val (.ref r1), .val (.int (Int32.ofNat g1)), .val (.int (Int32.ofNat j1)), .val (.int (Int32.ofNat g2)), .val (.int (Int32.ofNat j2)), .val (.int (1 : Int32))] [(.int (Int32.ofNat g1)), (.ref r1)])) t → Steps p.tables e below (s₁.setTop (entryFrame m #[(.int p1), (.int p2), (.int p3), (.int p4), (.int p5)] maxLocals)) t := fun t kT => pre64 t (by
    exact kT)
  obtain ⟨_, _, ⟨T67, L67, k67, n67⟩, -, X67, ⟨Lc67, hQ67, l67, y67, z67⟩, st67⟩ := X62.virtualBack hx (y := (⟨"com/example/esteem/esteem/index/Postings", "doc", "(I)I"⟩ : MethodName)) (z := (⟨"com/example/esteem/esteem/index/Postings", "doc", "(I)I"⟩ : MethodName)) hown (mvT hZ (hw _ (List.mem_of_getElem? (i := 75) rfl))) (mvT hZ (hw _ (List.mem_of_getElem? (i := 76) rfl))) (notFace_of_selects (args := #[]) (mvT hZ (hw _ (List.mem_of_getElem? (i := 78) rfl)))) (mvT hZ (hw _ (List.mem_of_getElem? (i := 78) rfl))) (mvT hZ (hw _ (List.mem_of_getElem? (i := 77) rfl))) (by decide) (backOf (W := 0) (rmDO l Z a0 hw [] r1 g1 xd xs xp dc3 (0 + 1 + 1 + 1) df3 sf3 pf3 T38.heap n0 sz38 BP dc3' (by decide) x4) hZ (hw _ (List.mem_of_getElem? (i := 79) rfl)) (hw _ (List.mem_of_getElem? (i := 50) rfl)) (by decide) (by decide)) q65a q65c (g := (mkF m 286 #[.val (.int p1), .val (.int p2), .val (.int p3), .val (.int p4), .val (.int p5), .val (.int n1), .val (.int n2), .val (.int dA), .val (.int qA), .val (.int dB), .val (.int qB), .val (.int dC), .val (.int qC), .val (.ref b1), .val (.ref r1), .val (.int (Int32.ofNat g1)), .val (.int (Int32.ofNat j1)), .val (.int (Int32.ofNat g2)), .val (.int (Int32.ofNat j2)), .val (.int (1 : Int32))] [(.int (Int32.ofNat g1)), (.ref r1)])) rfl (by rw [hml]; rfl) (Steps.refl _) (argsL := [(.int (Int32.ofNat g1))]) (rest := []) (lenOf pd__I_I rfl) rfl (by show 2 * 0 + _ ≤ _; exact Nat.le_of_eq rfl) (hb hby at_286) (fun _ _ => ⟨rfl, er3, (by decide : 17 + 0 ≤ _), (by decide : 61 + 0 ≤ _)⟩)
  dsimp only [Pt.U, Pt.locs, Pt.cells, Pt.slots] at X67 l67 y67 z67 st67 hQ67
  have X67 := own_st X67 (y67.trans (show _ = 17 from rfl)) (z67.trans (show _ = 61 from rfl))
  obtain ⟨rfl, N67q, er4⟩ := hQ67
  have N67 := own_fr l67 N62 N67q
  have pre68 : ∀ t, Steps p.tables e below (T67.setTop (mkF m 289 #[.val (.int p1), .val (.int p2), .val (.int p3), .val (.int p4), .val (.int p5), .val (.int n1), .val (.int n2), .val (.int dA), .val (.int qA), .val (.int dB), .val (.int qB), .val (.int dC), .val (.int qC), .val (.ref b1), .val (.ref r1), .val (.int (Int32.ofNat g1)), .val (.int (Int32.ofNat j1)), .val (.int (Int32.ofNat g2)), .val (.int (Int32.ofNat j2)), .val (.int (1 : Int32))] [(.int (df3 g1))])) t → Steps p.tables e below (s₁.setTop (entryFrame m #[(.int p1), (.int p2), (.int p3), (.int p4), (.int p5)] maxLocals)) t := fun t kT => pre66 t (st67.trans kT)
  have pre69 : ∀ t, Steps p.tables e below (T67.setTop (mkF m 300 #[.val (.int p1), .val (.int p2), .val (.int p3), .val (.int p4), .val (.int p5), .val (.int n1), .val (.int n2), .val (.int dA), .val (.int qA), .val (.int dB), .val (.int qB), .val (.int dC), .val (.int qC), .val (.ref b1), .val (.ref r1), .val (.int (Int32.ofNat g1)), .val (.int (Int32.ofNat j1)), .val (.int (Int32.ofNat g2)), .val (.int (Int32.ofNat j2)), .val (.int (1 : Int32))] [(.int (Int32.ofNat j1)), (.int (Int32.ofNat g1)), (.ref r1)])) t → Steps p.tables e below (s₁.setTop (entryFrame m #[(.int p1), (.int p2), (.int p3), (.int p4), (.int p5)] maxLocals)) t := fun t kT => pre68 t (by
    show Steps p.tables e below (T67.setTop (mkF m 289 #[.val (.int p1), .val (.int p2), .val (.int p3), .val (.int p4), .val (.int p5), .val (.int n1), .val (.int n2), .val (.int dA), .val (.int qA), .val (.int dB), .val (.int qB), .val (.int dC), .val (.int qC), .val (.ref b1), .val (.ref r1), .val (.int (Int32.ofNat g1)), .val (.int (Int32.ofNat j1)), .val (.int (Int32.ofNat g2)), .val (.int (Int32.ofNat j2)), .val (.int (1 : Int32))] [(.int (df3 g1))])) _
    refine XS.iload X67.here hx rfl (hb hby at_289) rfl ?_
    show Steps p.tables e below (T67.setTop (mkF m 291 #[.val (.int p1), .val (.int p2), .val (.int p3), .val (.int p4), .val (.int p5), .val (.int n1), .val (.int n2), .val (.int dA), .val (.int qA), .val (.int dB), .val (.int qB), .val (.int dC), .val (.int qC), .val (.ref b1), .val (.ref r1), .val (.int (Int32.ofNat g1)), .val (.int (Int32.ofNat j1)), .val (.int (Int32.ofNat g2)), .val (.int (Int32.ofNat j2)), .val (.int (1 : Int32))] [(.int dB), (.int (df3 g1))])) _
    refine XS.icmpNo X67.here hx rfl (hb hby at_291) rfl (teq x5).2 ?_
    show Steps p.tables e below (T67.setTop (mkF m 294 #[.val (.int p1), .val (.int p2), .val (.int p3), .val (.int p4), .val (.int p5), .val (.int n1), .val (.int n2), .val (.int dA), .val (.int qA), .val (.int dB), .val (.int qB), .val (.int dC), .val (.int qC), .val (.ref b1), .val (.ref r1), .val (.int (Int32.ofNat g1)), .val (.int (Int32.ofNat j1)), .val (.int (Int32.ofNat g2)), .val (.int (Int32.ofNat j2)), .val (.int (1 : Int32))] [])) _
    refine XS.aload X67.here hx rfl (hb hby at_294) rfl rfl ?_
    show Steps p.tables e below (T67.setTop (mkF m 296 #[.val (.int p1), .val (.int p2), .val (.int p3), .val (.int p4), .val (.int p5), .val (.int n1), .val (.int n2), .val (.int dA), .val (.int qA), .val (.int dB), .val (.int qB), .val (.int dC), .val (.int qC), .val (.ref b1), .val (.ref r1), .val (.int (Int32.ofNat g1)), .val (.int (Int32.ofNat j1)), .val (.int (Int32.ofNat g2)), .val (.int (Int32.ofNat j2)), .val (.int (1 : Int32))] [(.ref r1)])) _
    refine XS.iload X67.here hx rfl (hb hby at_296) rfl ?_
    show Steps p.tables e below (T67.setTop (mkF m 298 #[.val (.int p1), .val (.int p2), .val (.int p3), .val (.int p4), .val (.int p5), .val (.int n1), .val (.int n2), .val (.int dA), .val (.int qA), .val (.int dB), .val (.int qB), .val (.int dC), .val (.int qC), .val (.ref b1), .val (.ref r1), .val (.int (Int32.ofNat g1)), .val (.int (Int32.ofNat j1)), .val (.int (Int32.ofNat g2)), .val (.int (Int32.ofNat j2)), .val (.int (1 : Int32))] [(.int (Int32.ofNat g1)), (.ref r1)])) _
    refine XS.iload X67.here hx rfl (hb hby at_298) rfl ?_
    exact kT)
  obtain ⟨cI70, kI70, q70a, q70b, q70c⟩ := isOf hZ er4 BP.1.2.2.2
  have pre71 : ∀ t, Steps p.tables e below (T67.setTop (mkF m 300 #[.val (.int p1), .val (.int p2), .val (.int p3), .val (.int p4), .val (.int p5), .val (.int n1), .val (.int n2), .val (.int dA), .val (.int qA), .val (.int dB), .val (.int qB), .val (.int dC), .val (.int qC), .val (.ref b1), .val (.ref r1), .val (.int (Int32.ofNat g1)), .val (.int (Int32.ofNat j1)), .val (.int (Int32.ofNat g2)), .val (.int (Int32.ofNat j2)), .val (.int (1 : Int32))] [(.int (Int32.ofNat j1)), (.int (Int32.ofNat g1)), (.ref r1)])) t → Steps p.tables e below (s₁.setTop (entryFrame m #[(.int p1), (.int p2), (.int p3), (.int p4), (.int p5)] maxLocals)) t := fun t kT => pre69 t (by
    exact kT)
  obtain ⟨_, _, ⟨T72, L72, k72, n72⟩, -, X72, ⟨Lc72, hQ72, l72, y72, z72⟩, st72⟩ := X67.virtualBack hx (y := (⟨"com/example/esteem/esteem/index/Postings", "position", "(II)I"⟩ : MethodName)) (z := (⟨"com/example/esteem/esteem/index/Postings", "position", "(II)I"⟩ : MethodName)) hown (mvT hZ (hw _ (List.mem_of_getElem? (i := 80) rfl))) (mvT hZ (hw _ (List.mem_of_getElem? (i := 81) rfl))) (notFace_of_selects (args := #[]) (mvT hZ (hw _ (List.mem_of_getElem? (i := 83) rfl)))) (mvT hZ (hw _ (List.mem_of_getElem? (i := 83) rfl))) (mvT hZ (hw _ (List.mem_of_getElem? (i := 82) rfl))) (by decide) (backOf (W := 0) (rmPS l Z a0 hw [] r1 (Int32.ofNat j1) g1 1 xd xs xp dc3 (0 + 1 + 1 + 1) df3 sf3 pf3 T38.heap n0 sz38 BP dc3' (by decide) (by omega) (by decide) x6) hZ (hw _ (List.mem_of_getElem? (i := 84) rfl)) (hw _ (List.mem_of_getElem? (i := 50) rfl)) (by decide) (by decide)) q70a q70c (g := (mkF m 300 #[.val (.int p1), .val (.int p2), .val (.int p3), .val (.int p4), .val (.int p5), .val (.int n1), .val (.int n2), .val (.int dA), .val (.int qA), .val (.int dB), .val (.int qB), .val (.int dC), .val (.int qC), .val (.ref b1), .val (.ref r1), .val (.int (Int32.ofNat g1)), .val (.int (Int32.ofNat j1)), .val (.int (Int32.ofNat g2)), .val (.int (Int32.ofNat j2)), .val (.int (1 : Int32))] [(.int (Int32.ofNat j1)), (.int (Int32.ofNat g1)), (.ref r1)])) rfl (by rw [hml]; rfl) (Steps.refl _) (argsL := [(.int (Int32.ofNat g1)), (.int (Int32.ofNat j1))]) (rest := []) (lenOf pd__II_I rfl) rfl (by show 2 * 0 + _ ≤ _; exact Nat.le_of_eq rfl) (hb hby at_300) (fun _ _ => ⟨rfl, er4, (by decide : 17 + 0 ≤ _), (by decide : 61 + 0 ≤ _)⟩)
  dsimp only [Pt.U, Pt.locs, Pt.cells, Pt.slots] at X72 l72 y72 z72 st72 hQ72
  have X72 := own_st X72 (y72.trans (show _ = 17 from rfl)) (z72.trans (show _ = 61 from rfl))
  obtain ⟨rfl, N72q, er5⟩ := hQ72
  have N72 := own_fr l72 N67 N72q
  have pre73 : ∀ t, Steps p.tables e below (T72.setTop (mkF m 303 #[.val (.int p1), .val (.int p2), .val (.int p3), .val (.int p4), .val (.int p5), .val (.int n1), .val (.int n2), .val (.int dA), .val (.int qA), .val (.int dB), .val (.int qB), .val (.int dC), .val (.int qC), .val (.ref b1), .val (.ref r1), .val (.int (Int32.ofNat g1)), .val (.int (Int32.ofNat j1)), .val (.int (Int32.ofNat g2)), .val (.int (Int32.ofNat j2)), .val (.int (1 : Int32))] [(.int (pf3 1))])) t → Steps p.tables e below (s₁.setTop (entryFrame m #[(.int p1), (.int p2), (.int p3), (.int p4), (.int p5)] maxLocals)) t := fun t kT => pre71 t (st72.trans kT)
  have pre74 : ∀ t, Steps p.tables e below (T72.setTop (mkF m 324 #[.val (.int p1), .val (.int p2), .val (.int p3), .val (.int p4), .val (.int p5), .val (.int n1), .val (.int n2), .val (.int dA), .val (.int qA), .val (.int dB), .val (.int qB), .val (.int dC), .val (.int qC), .val (.ref b1), .val (.ref r1), .val (.int (Int32.ofNat g1)), .val (.int (Int32.ofNat j1)), .val (.int (Int32.ofNat g2)), .val (.int (Int32.ofNat j2)), .val (.int (1 : Int32))] [(.int (Int32.ofNat g2)), (.ref r1)])) t → Steps p.tables e below (s₁.setTop (entryFrame m #[(.int p1), (.int p2), (.int p3), (.int p4), (.int p5)] maxLocals)) t := fun t kT => pre73 t (by
    show Steps p.tables e below (T72.setTop (mkF m 303 #[.val (.int p1), .val (.int p2), .val (.int p3), .val (.int p4), .val (.int p5), .val (.int n1), .val (.int n2), .val (.int dA), .val (.int qA), .val (.int dB), .val (.int qB), .val (.int dC), .val (.int qC), .val (.ref b1), .val (.ref r1), .val (.int (Int32.ofNat g1)), .val (.int (Int32.ofNat j1)), .val (.int (Int32.ofNat g2)), .val (.int (Int32.ofNat j2)), .val (.int (1 : Int32))] [(.int (pf3 1))])) _
    refine XS.iload X72.here hx rfl (hb hby at_303) rfl ?_
    show Steps p.tables e below (T72.setTop (mkF m 305 #[.val (.int p1), .val (.int p2), .val (.int p3), .val (.int p4), .val (.int p5), .val (.int n1), .val (.int n2), .val (.int dA), .val (.int qA), .val (.int dB), .val (.int qB), .val (.int dC), .val (.int qC), .val (.ref b1), .val (.ref r1), .val (.int (Int32.ofNat g1)), .val (.int (Int32.ofNat j1)), .val (.int (Int32.ofNat g2)), .val (.int (Int32.ofNat j2)), .val (.int (1 : Int32))] [(.int qB), (.int (pf3 1))])) _
    refine XS.icmpNo X72.here hx rfl (hb hby at_305) rfl (teq p31).2 ?_
    show Steps p.tables e below (T72.setTop (mkF m 308 #[.val (.int p1), .val (.int p2), .val (.int p3), .val (.int p4), .val (.int p5), .val (.int n1), .val (.int n2), .val (.int dA), .val (.int qA), .val (.int dB), .val (.int qB), .val (.int dC), .val (.int qC), .val (.ref b1), .val (.ref r1), .val (.int (Int32.ofNat g1)), .val (.int (Int32.ofNat j1)), .val (.int (Int32.ofNat g2)), .val (.int (Int32.ofNat j2)), .val (.int (1 : Int32))] [])) _
    refine XS.iconst X72.here hx rfl (hb hby at_308) ?_
    show Steps p.tables e below (T72.setTop (mkF m 309 #[.val (.int p1), .val (.int p2), .val (.int p3), .val (.int p4), .val (.int p5), .val (.int n1), .val (.int n2), .val (.int dA), .val (.int qA), .val (.int dB), .val (.int qB), .val (.int dC), .val (.int qC), .val (.ref b1), .val (.ref r1), .val (.int (Int32.ofNat g1)), .val (.int (Int32.ofNat j1)), .val (.int (Int32.ofNat g2)), .val (.int (Int32.ofNat j2)), .val (.int (1 : Int32))] [(.int (1 : Int32))])) _
    refine XS.goto X72.here hx rfl (pc0 := 309) (pc' := 313) rfl (hb hby at_309) (by decide) (by decide) ?_
    show Steps p.tables e below (T72.setTop (mkF m 313 #[.val (.int p1), .val (.int p2), .val (.int p3), .val (.int p4), .val (.int p5), .val (.int n1), .val (.int n2), .val (.int dA), .val (.int qA), .val (.int dB), .val (.int qB), .val (.int dC), .val (.int qC), .val (.ref b1), .val (.ref r1), .val (.int (Int32.ofNat g1)), .val (.int (Int32.ofNat j1)), .val (.int (Int32.ofNat g2)), .val (.int (Int32.ofNat j2)), .val (.int (1 : Int32))] [(.int (1 : Int32))])) _
    refine XS.istore X72.here hx rfl (hb hby at_313) rfl (l' := #[.val (.int p1), .val (.int p2), .val (.int p3), .val (.int p4), .val (.int p5), .val (.int n1), .val (.int n2), .val (.int dA), .val (.int qA), .val (.int dB), .val (.int qB), .val (.int dC), .val (.int qC), .val (.ref b1), .val (.ref r1), .val (.int (Int32.ofNat g1)), .val (.int (Int32.ofNat j1)), .val (.int (Int32.ofNat g2)), .val (.int (Int32.ofNat j2)), .val (.int (1 : Int32))]) rfl ?_
    show Steps p.tables e below (T72.setTop (mkF m 315 #[.val (.int p1), .val (.int p2), .val (.int p3), .val (.int p4), .val (.int p5), .val (.int n1), .val (.int n2), .val (.int dA), .val (.int qA), .val (.int dB), .val (.int qB), .val (.int dC), .val (.int qC), .val (.ref b1), .val (.ref r1), .val (.int (Int32.ofNat g1)), .val (.int (Int32.ofNat j1)), .val (.int (Int32.ofNat g2)), .val (.int (Int32.ofNat j2)), .val (.int (1 : Int32))] [])) _
    refine XS.iload X72.here hx rfl (hb hby at_315) rfl ?_
    show Steps p.tables e below (T72.setTop (mkF m 317 #[.val (.int p1), .val (.int p2), .val (.int p3), .val (.int p4), .val (.int p5), .val (.int n1), .val (.int n2), .val (.int dA), .val (.int qA), .val (.int dB), .val (.int qB), .val (.int dC), .val (.int qC), .val (.ref b1), .val (.ref r1), .val (.int (Int32.ofNat g1)), .val (.int (Int32.ofNat j1)), .val (.int (Int32.ofNat g2)), .val (.int (Int32.ofNat j2)), .val (.int (1 : Int32))] [(.int (1 : Int32))])) _
    refine XS.ifNo X72.here hx rfl (hb hby at_317) rfl ((if0 _ _).trans (feq (by decide : ¬ ((1 : Int32) = (0 : Int32)))).1) ?_
    show Steps p.tables e below (T72.setTop (mkF m 320 #[.val (.int p1), .val (.int p2), .val (.int p3), .val (.int p4), .val (.int p5), .val (.int n1), .val (.int n2), .val (.int dA), .val (.int qA), .val (.int dB), .val (.int qB), .val (.int dC), .val (.int qC), .val (.ref b1), .val (.ref r1), .val (.int (Int32.ofNat g1)), .val (.int (Int32.ofNat j1)), .val (.int (Int32.ofNat g2)), .val (.int (Int32.ofNat j2)), .val (.int (1 : Int32))] [])) _
    refine XS.aload X72.here hx rfl (hb hby at_320) rfl rfl ?_
    show Steps p.tables e below (T72.setTop (mkF m 322 #[.val (.int p1), .val (.int p2), .val (.int p3), .val (.int p4), .val (.int p5), .val (.int n1), .val (.int n2), .val (.int dA), .val (.int qA), .val (.int dB), .val (.int qB), .val (.int dC), .val (.int qC), .val (.ref b1), .val (.ref r1), .val (.int (Int32.ofNat g1)), .val (.int (Int32.ofNat j1)), .val (.int (Int32.ofNat g2)), .val (.int (Int32.ofNat j2)), .val (.int (1 : Int32))] [(.ref r1)])) _
    refine XS.iload X72.here hx rfl (hb hby at_322) rfl ?_
    exact kT)
  obtain ⟨cI75, kI75, q75a, q75b, q75c⟩ := isOf hZ er5 BP.1.2.2.2
  have pre76 : ∀ t, Steps p.tables e below (T72.setTop (mkF m 324 #[.val (.int p1), .val (.int p2), .val (.int p3), .val (.int p4), .val (.int p5), .val (.int n1), .val (.int n2), .val (.int dA), .val (.int qA), .val (.int dB), .val (.int qB), .val (.int dC), .val (.int qC), .val (.ref b1), .val (.ref r1), .val (.int (Int32.ofNat g1)), .val (.int (Int32.ofNat j1)), .val (.int (Int32.ofNat g2)), .val (.int (Int32.ofNat j2)), .val (.int (1 : Int32))] [(.int (Int32.ofNat g2)), (.ref r1)])) t → Steps p.tables e below (s₁.setTop (entryFrame m #[(.int p1), (.int p2), (.int p3), (.int p4), (.int p5)] maxLocals)) t := fun t kT => pre74 t (by
    exact kT)
  obtain ⟨_, _, ⟨T77, L77, k77, n77⟩, -, X77, ⟨Lc77, hQ77, l77, y77, z77⟩, st77⟩ := X72.virtualBack hx (y := (⟨"com/example/esteem/esteem/index/Postings", "doc", "(I)I"⟩ : MethodName)) (z := (⟨"com/example/esteem/esteem/index/Postings", "doc", "(I)I"⟩ : MethodName)) hown (mvT hZ (hw _ (List.mem_of_getElem? (i := 75) rfl))) (mvT hZ (hw _ (List.mem_of_getElem? (i := 76) rfl))) (notFace_of_selects (args := #[]) (mvT hZ (hw _ (List.mem_of_getElem? (i := 78) rfl)))) (mvT hZ (hw _ (List.mem_of_getElem? (i := 78) rfl))) (mvT hZ (hw _ (List.mem_of_getElem? (i := 77) rfl))) (by decide) (backOf (W := 0) (rmDO l Z a0 hw [] r1 g2 xd xs xp dc3 (0 + 1 + 1 + 1) df3 sf3 pf3 T38.heap n0 sz38 BP dc3' (by decide) (by omega)) hZ (hw _ (List.mem_of_getElem? (i := 79) rfl)) (hw _ (List.mem_of_getElem? (i := 50) rfl)) (by decide) (by decide)) q75a q75c (g := (mkF m 324 #[.val (.int p1), .val (.int p2), .val (.int p3), .val (.int p4), .val (.int p5), .val (.int n1), .val (.int n2), .val (.int dA), .val (.int qA), .val (.int dB), .val (.int qB), .val (.int dC), .val (.int qC), .val (.ref b1), .val (.ref r1), .val (.int (Int32.ofNat g1)), .val (.int (Int32.ofNat j1)), .val (.int (Int32.ofNat g2)), .val (.int (Int32.ofNat j2)), .val (.int (1 : Int32))] [(.int (Int32.ofNat g2)), (.ref r1)])) rfl (by rw [hml]; rfl) (Steps.refl _) (argsL := [(.int (Int32.ofNat g2))]) (rest := []) (lenOf pd__I_I rfl) rfl (by show 2 * 0 + _ ≤ _; exact Nat.le_of_eq rfl) (hb hby at_324) (fun _ _ => ⟨rfl, er5, (by decide : 17 + 0 ≤ _), (by decide : 61 + 0 ≤ _)⟩)
  dsimp only [Pt.U, Pt.locs, Pt.cells, Pt.slots] at X77 l77 y77 z77 st77 hQ77
  have X77 := own_st X77 (y77.trans (show _ = 17 from rfl)) (z77.trans (show _ = 61 from rfl))
  obtain ⟨rfl, N77q, er6⟩ := hQ77
  have N77 := own_fr l77 N72 N77q
  have pre78 : ∀ t, Steps p.tables e below (T77.setTop (mkF m 327 #[.val (.int p1), .val (.int p2), .val (.int p3), .val (.int p4), .val (.int p5), .val (.int n1), .val (.int n2), .val (.int dA), .val (.int qA), .val (.int dB), .val (.int qB), .val (.int dC), .val (.int qC), .val (.ref b1), .val (.ref r1), .val (.int (Int32.ofNat g1)), .val (.int (Int32.ofNat j1)), .val (.int (Int32.ofNat g2)), .val (.int (Int32.ofNat j2)), .val (.int (1 : Int32))] [(.int (df3 g2))])) t → Steps p.tables e below (s₁.setTop (entryFrame m #[(.int p1), (.int p2), (.int p3), (.int p4), (.int p5)] maxLocals)) t := fun t kT => pre76 t (st77.trans kT)
  have pre79 : ∀ t, Steps p.tables e below (T77.setTop (mkF m 338 #[.val (.int p1), .val (.int p2), .val (.int p3), .val (.int p4), .val (.int p5), .val (.int n1), .val (.int n2), .val (.int dA), .val (.int qA), .val (.int dB), .val (.int qB), .val (.int dC), .val (.int qC), .val (.ref b1), .val (.ref r1), .val (.int (Int32.ofNat g1)), .val (.int (Int32.ofNat j1)), .val (.int (Int32.ofNat g2)), .val (.int (Int32.ofNat j2)), .val (.int (1 : Int32))] [(.int (Int32.ofNat j2)), (.int (Int32.ofNat g2)), (.ref r1)])) t → Steps p.tables e below (s₁.setTop (entryFrame m #[(.int p1), (.int p2), (.int p3), (.int p4), (.int p5)] maxLocals)) t := fun t kT => pre78 t (by
    show Steps p.tables e below (T77.setTop (mkF m 327 #[.val (.int p1), .val (.int p2), .val (.int p3), .val (.int p4), .val (.int p5), .val (.int n1), .val (.int n2), .val (.int dA), .val (.int qA), .val (.int dB), .val (.int qB), .val (.int dC), .val (.int qC), .val (.ref b1), .val (.ref r1), .val (.int (Int32.ofNat g1)), .val (.int (Int32.ofNat j1)), .val (.int (Int32.ofNat g2)), .val (.int (Int32.ofNat j2)), .val (.int (1 : Int32))] [(.int (df3 g2))])) _
    refine XS.iload X77.here hx rfl (hb hby at_327) rfl ?_
    show Steps p.tables e below (T77.setTop (mkF m 329 #[.val (.int p1), .val (.int p2), .val (.int p3), .val (.int p4), .val (.int p5), .val (.int n1), .val (.int n2), .val (.int dA), .val (.int qA), .val (.int dB), .val (.int qB), .val (.int dC), .val (.int qC), .val (.ref b1), .val (.ref r1), .val (.int (Int32.ofNat g1)), .val (.int (Int32.ofNat j1)), .val (.int (Int32.ofNat g2)), .val (.int (Int32.ofNat j2)), .val (.int (1 : Int32))] [(.int dC), (.int (df3 g2))])) _
    refine XS.icmpNo X77.here hx rfl (hb hby at_329) rfl (teq x7).2 ?_
    show Steps p.tables e below (T77.setTop (mkF m 332 #[.val (.int p1), .val (.int p2), .val (.int p3), .val (.int p4), .val (.int p5), .val (.int n1), .val (.int n2), .val (.int dA), .val (.int qA), .val (.int dB), .val (.int qB), .val (.int dC), .val (.int qC), .val (.ref b1), .val (.ref r1), .val (.int (Int32.ofNat g1)), .val (.int (Int32.ofNat j1)), .val (.int (Int32.ofNat g2)), .val (.int (Int32.ofNat j2)), .val (.int (1 : Int32))] [])) _
    refine XS.aload X77.here hx rfl (hb hby at_332) rfl rfl ?_
    show Steps p.tables e below (T77.setTop (mkF m 334 #[.val (.int p1), .val (.int p2), .val (.int p3), .val (.int p4), .val (.int p5), .val (.int n1), .val (.int n2), .val (.int dA), .val (.int qA), .val (.int dB), .val (.int qB), .val (.int dC), .val (.int qC), .val (.ref b1), .val (.ref r1), .val (.int (Int32.ofNat g1)), .val (.int (Int32.ofNat j1)), .val (.int (Int32.ofNat g2)), .val (.int (Int32.ofNat j2)), .val (.int (1 : Int32))] [(.ref r1)])) _
    refine XS.iload X77.here hx rfl (hb hby at_334) rfl ?_
    show Steps p.tables e below (T77.setTop (mkF m 336 #[.val (.int p1), .val (.int p2), .val (.int p3), .val (.int p4), .val (.int p5), .val (.int n1), .val (.int n2), .val (.int dA), .val (.int qA), .val (.int dB), .val (.int qB), .val (.int dC), .val (.int qC), .val (.ref b1), .val (.ref r1), .val (.int (Int32.ofNat g1)), .val (.int (Int32.ofNat j1)), .val (.int (Int32.ofNat g2)), .val (.int (Int32.ofNat j2)), .val (.int (1 : Int32))] [(.int (Int32.ofNat g2)), (.ref r1)])) _
    refine XS.iload X77.here hx rfl (hb hby at_336) rfl ?_
    exact kT)
  obtain ⟨cI80, kI80, q80a, q80b, q80c⟩ := isOf hZ er6 BP.1.2.2.2
  have pre81 : ∀ t, Steps p.tables e below (T77.setTop (mkF m 338 #[.val (.int p1), .val (.int p2), .val (.int p3), .val (.int p4), .val (.int p5), .val (.int n1), .val (.int n2), .val (.int dA), .val (.int qA), .val (.int dB), .val (.int qB), .val (.int dC), .val (.int qC), .val (.ref b1), .val (.ref r1), .val (.int (Int32.ofNat g1)), .val (.int (Int32.ofNat j1)), .val (.int (Int32.ofNat g2)), .val (.int (Int32.ofNat j2)), .val (.int (1 : Int32))] [(.int (Int32.ofNat j2)), (.int (Int32.ofNat g2)), (.ref r1)])) t → Steps p.tables e below (s₁.setTop (entryFrame m #[(.int p1), (.int p2), (.int p3), (.int p4), (.int p5)] maxLocals)) t := fun t kT => pre79 t (by
    exact kT)
  obtain ⟨_, _, ⟨T82, L82, k82, n82⟩, -, X82, ⟨Lc82, hQ82, l82, y82, z82⟩, st82⟩ := X77.virtualBack hx (y := (⟨"com/example/esteem/esteem/index/Postings", "position", "(II)I"⟩ : MethodName)) (z := (⟨"com/example/esteem/esteem/index/Postings", "position", "(II)I"⟩ : MethodName)) hown (mvT hZ (hw _ (List.mem_of_getElem? (i := 80) rfl))) (mvT hZ (hw _ (List.mem_of_getElem? (i := 81) rfl))) (notFace_of_selects (args := #[]) (mvT hZ (hw _ (List.mem_of_getElem? (i := 83) rfl)))) (mvT hZ (hw _ (List.mem_of_getElem? (i := 83) rfl))) (mvT hZ (hw _ (List.mem_of_getElem? (i := 82) rfl))) (by decide) (backOf (W := 0) (rmPS l Z a0 hw [] r1 (Int32.ofNat j2) g2 2 xd xs xp dc3 (0 + 1 + 1 + 1) df3 sf3 pf3 T38.heap n0 sz38 BP dc3' (by decide) (by omega) (by decide) x8) hZ (hw _ (List.mem_of_getElem? (i := 84) rfl)) (hw _ (List.mem_of_getElem? (i := 50) rfl)) (by decide) (by decide)) q80a q80c (g := (mkF m 338 #[.val (.int p1), .val (.int p2), .val (.int p3), .val (.int p4), .val (.int p5), .val (.int n1), .val (.int n2), .val (.int dA), .val (.int qA), .val (.int dB), .val (.int qB), .val (.int dC), .val (.int qC), .val (.ref b1), .val (.ref r1), .val (.int (Int32.ofNat g1)), .val (.int (Int32.ofNat j1)), .val (.int (Int32.ofNat g2)), .val (.int (Int32.ofNat j2)), .val (.int (1 : Int32))] [(.int (Int32.ofNat j2)), (.int (Int32.ofNat g2)), (.ref r1)])) rfl (by rw [hml]; rfl) (Steps.refl _) (argsL := [(.int (Int32.ofNat g2)), (.int (Int32.ofNat j2))]) (rest := []) (lenOf pd__II_I rfl) rfl (by show 2 * 0 + _ ≤ _; exact Nat.le_of_eq rfl) (hb hby at_338) (fun _ _ => ⟨rfl, er6, (by decide : 17 + 0 ≤ _), (by decide : 61 + 0 ≤ _)⟩)
  dsimp only [Pt.U, Pt.locs, Pt.cells, Pt.slots] at X82 l82 y82 z82 st82 hQ82
  have X82 := own_st X82 (y82.trans (show _ = 17 from rfl)) (z82.trans (show _ = 61 from rfl))
  obtain ⟨rfl, N82q, er7⟩ := hQ82
  have N82 := own_fr l82 N77 N82q
  have pre83 : ∀ t, Steps p.tables e below (T82.setTop (mkF m 341 #[.val (.int p1), .val (.int p2), .val (.int p3), .val (.int p4), .val (.int p5), .val (.int n1), .val (.int n2), .val (.int dA), .val (.int qA), .val (.int dB), .val (.int qB), .val (.int dC), .val (.int qC), .val (.ref b1), .val (.ref r1), .val (.int (Int32.ofNat g1)), .val (.int (Int32.ofNat j1)), .val (.int (Int32.ofNat g2)), .val (.int (Int32.ofNat j2)), .val (.int (1 : Int32))] [(.int (pf3 2))])) t → Steps p.tables e below (s₁.setTop (entryFrame m #[(.int p1), (.int p2), (.int p3), (.int p4), (.int p5)] maxLocals)) t := fun t kT => pre81 t (st82.trans kT)
  have pre84 : ∀ t, Steps p.tables e below (T82.setTop (mkF m 355 #[.val (.int p1), .val (.int p2), .val (.int p3), .val (.int p4), .val (.int p5), .val (.int n1), .val (.int n2), .val (.int dA), .val (.int qA), .val (.int dB), .val (.int qB), .val (.int dC), .val (.int qC), .val (.ref b1), .val (.ref r1), .val (.int (Int32.ofNat g1)), .val (.int (Int32.ofNat j1)), .val (.int (Int32.ofNat g2)), .val (.int (Int32.ofNat j2)), .val (.int (1 : Int32))] [(.int n1)])) t → Steps p.tables e below (s₁.setTop (entryFrame m #[(.int p1), (.int p2), (.int p3), (.int p4), (.int p5)] maxLocals)) t := fun t kT => pre83 t (by
    show Steps p.tables e below (T82.setTop (mkF m 341 #[.val (.int p1), .val (.int p2), .val (.int p3), .val (.int p4), .val (.int p5), .val (.int n1), .val (.int n2), .val (.int dA), .val (.int qA), .val (.int dB), .val (.int qB), .val (.int dC), .val (.int qC), .val (.ref b1), .val (.ref r1), .val (.int (Int32.ofNat g1)), .val (.int (Int32.ofNat j1)), .val (.int (Int32.ofNat g2)), .val (.int (Int32.ofNat j2)), .val (.int (1 : Int32))] [(.int (pf3 2))])) _
    refine XS.iload X82.here hx rfl (hb hby at_341) rfl ?_
    show Steps p.tables e below (T82.setTop (mkF m 343 #[.val (.int p1), .val (.int p2), .val (.int p3), .val (.int p4), .val (.int p5), .val (.int n1), .val (.int n2), .val (.int dA), .val (.int qA), .val (.int dB), .val (.int qB), .val (.int dC), .val (.int qC), .val (.ref b1), .val (.ref r1), .val (.int (Int32.ofNat g1)), .val (.int (Int32.ofNat j1)), .val (.int (Int32.ofNat g2)), .val (.int (Int32.ofNat j2)), .val (.int (1 : Int32))] [(.int qC), (.int (pf3 2))])) _
    refine XS.icmpNo X82.here hx rfl (hb hby at_343) rfl (teq p32).2 ?_
    show Steps p.tables e below (T82.setTop (mkF m 346 #[.val (.int p1), .val (.int p2), .val (.int p3), .val (.int p4), .val (.int p5), .val (.int n1), .val (.int n2), .val (.int dA), .val (.int qA), .val (.int dB), .val (.int qB), .val (.int dC), .val (.int qC), .val (.ref b1), .val (.ref r1), .val (.int (Int32.ofNat g1)), .val (.int (Int32.ofNat j1)), .val (.int (Int32.ofNat g2)), .val (.int (Int32.ofNat j2)), .val (.int (1 : Int32))] [])) _
    refine XS.iconst X82.here hx rfl (hb hby at_346) ?_
    show Steps p.tables e below (T82.setTop (mkF m 347 #[.val (.int p1), .val (.int p2), .val (.int p3), .val (.int p4), .val (.int p5), .val (.int n1), .val (.int n2), .val (.int dA), .val (.int qA), .val (.int dB), .val (.int qB), .val (.int dC), .val (.int qC), .val (.ref b1), .val (.ref r1), .val (.int (Int32.ofNat g1)), .val (.int (Int32.ofNat j1)), .val (.int (Int32.ofNat g2)), .val (.int (Int32.ofNat j2)), .val (.int (1 : Int32))] [(.int (1 : Int32))])) _
    refine XS.goto X82.here hx rfl (pc0 := 347) (pc' := 351) rfl (hb hby at_347) (by decide) (by decide) ?_
    show Steps p.tables e below (T82.setTop (mkF m 351 #[.val (.int p1), .val (.int p2), .val (.int p3), .val (.int p4), .val (.int p5), .val (.int n1), .val (.int n2), .val (.int dA), .val (.int qA), .val (.int dB), .val (.int qB), .val (.int dC), .val (.int qC), .val (.ref b1), .val (.ref r1), .val (.int (Int32.ofNat g1)), .val (.int (Int32.ofNat j1)), .val (.int (Int32.ofNat g2)), .val (.int (Int32.ofNat j2)), .val (.int (1 : Int32))] [(.int (1 : Int32))])) _
    refine XS.istore X82.here hx rfl (hb hby at_351) rfl (l' := #[.val (.int p1), .val (.int p2), .val (.int p3), .val (.int p4), .val (.int p5), .val (.int n1), .val (.int n2), .val (.int dA), .val (.int qA), .val (.int dB), .val (.int qB), .val (.int dC), .val (.int qC), .val (.ref b1), .val (.ref r1), .val (.int (Int32.ofNat g1)), .val (.int (Int32.ofNat j1)), .val (.int (Int32.ofNat g2)), .val (.int (Int32.ofNat j2)), .val (.int (1 : Int32))]) rfl ?_
    show Steps p.tables e below (T82.setTop (mkF m 353 #[.val (.int p1), .val (.int p2), .val (.int p3), .val (.int p4), .val (.int p5), .val (.int n1), .val (.int n2), .val (.int dA), .val (.int qA), .val (.int dB), .val (.int qB), .val (.int dC), .val (.int qC), .val (.ref b1), .val (.ref r1), .val (.int (Int32.ofNat g1)), .val (.int (Int32.ofNat j1)), .val (.int (Int32.ofNat g2)), .val (.int (Int32.ofNat j2)), .val (.int (1 : Int32))] [])) _
    refine XS.iload X82.here hx rfl (hb hby at_353) rfl ?_
    exact kT)
  by_cases hq1 : n1 = (0 : Int32)
  · have pre86 : ∀ t, Steps p.tables e below (T82.setTop (mkF m 382 #[.val (.int p1), .val (.int p2), .val (.int p3), .val (.int p4), .val (.int p5), .val (.int n1), .val (.int n2), .val (.int dA), .val (.int qA), .val (.int dB), .val (.int qB), .val (.int dC), .val (.int qC), .val (.ref b1), .val (.ref r1), .val (.int (Int32.ofNat g1)), .val (.int (Int32.ofNat j1)), .val (.int (Int32.ofNat g2)), .val (.int (Int32.ofNat j2)), .val (.int (1 : Int32))] [(.int n2)])) t → Steps p.tables e below (s₁.setTop (entryFrame m #[(.int p1), (.int p2), (.int p3), (.int p4), (.int p5)] maxLocals)) t := fun t kT => pre84 t (by
      show Steps p.tables e below (T82.setTop (mkF m 355 #[.val (.int p1), .val (.int p2), .val (.int p3), .val (.int p4), .val (.int p5), .val (.int n1), .val (.int n2), .val (.int dA), .val (.int qA), .val (.int dB), .val (.int qB), .val (.int dC), .val (.int qC), .val (.ref b1), .val (.ref r1), .val (.int (Int32.ofNat g1)), .val (.int (Int32.ofNat j1)), .val (.int (Int32.ofNat g2)), .val (.int (Int32.ofNat j2)), .val (.int (1 : Int32))] [(.int n1)])) _
      refine XS.ifYes X82.here hx rfl (pc0 := 355) (pc' := 380) rfl (hb hby at_355) rfl ((if0 _ _).trans (teq hq1).1) (by decide) (by decide) ?_
      show Steps p.tables e below (T82.setTop (mkF m 380 #[.val (.int p1), .val (.int p2), .val (.int p3), .val (.int p4), .val (.int p5), .val (.int n1), .val (.int n2), .val (.int dA), .val (.int qA), .val (.int dB), .val (.int qB), .val (.int dC), .val (.int qC), .val (.ref b1), .val (.ref r1), .val (.int (Int32.ofNat g1)), .val (.int (Int32.ofNat j1)), .val (.int (Int32.ofNat g2)), .val (.int (Int32.ofNat j2)), .val (.int (1 : Int32))] [])) _
      refine XS.iload X82.here hx rfl (hb hby at_380) rfl ?_
      exact kT)
    by_cases hb85 : n2 = (0 : Int32)
    · have pre87 : ∀ t, Steps p.tables e below (T82.setTop (mkF m 420 #[.val (.int p1), .val (.int p2), .val (.int p3), .val (.int p4), .val (.int p5), .val (.int n1), .val (.int n2), .val (.int dA), .val (.int qA), .val (.int dB), .val (.int qB), .val (.int dC), .val (.int qC), .val (.ref b1), .val (.ref r1), .val (.int (Int32.ofNat g1)), .val (.int (Int32.ofNat j1)), .val (.int (Int32.ofNat g2)), .val (.int (Int32.ofNat j2)), .val (.int (1 : Int32))] [(.int (Int32.ofNat g2)), (.ref r1)])) t → Steps p.tables e below (s₁.setTop (entryFrame m #[(.int p1), (.int p2), (.int p3), (.int p4), (.int p5)] maxLocals)) t := fun t kT => pre86 t (by
        show Steps p.tables e below (T82.setTop (mkF m 382 #[.val (.int p1), .val (.int p2), .val (.int p3), .val (.int p4), .val (.int p5), .val (.int n1), .val (.int n2), .val (.int dA), .val (.int qA), .val (.int dB), .val (.int qB), .val (.int dC), .val (.int qC), .val (.ref b1), .val (.ref r1), .val (.int (Int32.ofNat g1)), .val (.int (Int32.ofNat j1)), .val (.int (Int32.ofNat g2)), .val (.int (Int32.ofNat j2)), .val (.int (1 : Int32))] [(.int n2)])) _
        refine XS.ifYes X82.here hx rfl (pc0 := 382) (pc' := 411) rfl (hb hby at_382) rfl ((if0 _ _).trans (teq hb85).1) (by decide) (by decide) ?_
        show Steps p.tables e below (T82.setTop (mkF m 411 #[.val (.int p1), .val (.int p2), .val (.int p3), .val (.int p4), .val (.int p5), .val (.int n1), .val (.int n2), .val (.int dA), .val (.int qA), .val (.int dB), .val (.int qB), .val (.int dC), .val (.int qC), .val (.ref b1), .val (.ref r1), .val (.int (Int32.ofNat g1)), .val (.int (Int32.ofNat j1)), .val (.int (Int32.ofNat g2)), .val (.int (Int32.ofNat j2)), .val (.int (1 : Int32))] [])) _
        refine XS.iload X82.here hx rfl (hb hby at_411) rfl ?_
        show Steps p.tables e below (T82.setTop (mkF m 413 #[.val (.int p1), .val (.int p2), .val (.int p3), .val (.int p4), .val (.int p5), .val (.int n1), .val (.int n2), .val (.int dA), .val (.int qA), .val (.int dB), .val (.int qB), .val (.int dC), .val (.int qC), .val (.ref b1), .val (.ref r1), .val (.int (Int32.ofNat g1)), .val (.int (Int32.ofNat j1)), .val (.int (Int32.ofNat g2)), .val (.int (Int32.ofNat j2)), .val (.int (1 : Int32))] [(.int (1 : Int32))])) _
        refine XS.ifNo X82.here hx rfl (hb hby at_413) rfl ((if0 _ _).trans (feq (by decide : ¬ ((1 : Int32) = (0 : Int32)))).1) ?_
        show Steps p.tables e below (T82.setTop (mkF m 416 #[.val (.int p1), .val (.int p2), .val (.int p3), .val (.int p4), .val (.int p5), .val (.int n1), .val (.int n2), .val (.int dA), .val (.int qA), .val (.int dB), .val (.int qB), .val (.int dC), .val (.int qC), .val (.ref b1), .val (.ref r1), .val (.int (Int32.ofNat g1)), .val (.int (Int32.ofNat j1)), .val (.int (Int32.ofNat g2)), .val (.int (Int32.ofNat j2)), .val (.int (1 : Int32))] [])) _
        refine XS.aload X82.here hx rfl (hb hby at_416) rfl rfl ?_
        show Steps p.tables e below (T82.setTop (mkF m 418 #[.val (.int p1), .val (.int p2), .val (.int p3), .val (.int p4), .val (.int p5), .val (.int n1), .val (.int n2), .val (.int dA), .val (.int qA), .val (.int dB), .val (.int qB), .val (.int dC), .val (.int qC), .val (.ref b1), .val (.ref r1), .val (.int (Int32.ofNat g1)), .val (.int (Int32.ofNat j1)), .val (.int (Int32.ofNat g2)), .val (.int (Int32.ofNat j2)), .val (.int (1 : Int32))] [(.ref r1)])) _
        refine XS.iload X82.here hx rfl (hb hby at_418) rfl ?_
        exact kT)
      obtain ⟨cI88, kI88, q88a, q88b, q88c⟩ := isOf hZ er7 BP.1.2.2.2
      have pre89 : ∀ t, Steps p.tables e below (T82.setTop (mkF m 420 #[.val (.int p1), .val (.int p2), .val (.int p3), .val (.int p4), .val (.int p5), .val (.int n1), .val (.int n2), .val (.int dA), .val (.int qA), .val (.int dB), .val (.int qB), .val (.int dC), .val (.int qC), .val (.ref b1), .val (.ref r1), .val (.int (Int32.ofNat g1)), .val (.int (Int32.ofNat j1)), .val (.int (Int32.ofNat g2)), .val (.int (Int32.ofNat j2)), .val (.int (1 : Int32))] [(.int (Int32.ofNat g2)), (.ref r1)])) t → Steps p.tables e below (s₁.setTop (entryFrame m #[(.int p1), (.int p2), (.int p3), (.int p4), (.int p5)] maxLocals)) t := fun t kT => pre87 t (by
        exact kT)
      obtain ⟨_, _, ⟨T90, L90, k90, n90⟩, -, X90, ⟨Lc90, hQ90, l90, y90, z90⟩, st90⟩ := X82.virtualBack hx (y := (⟨"com/example/esteem/esteem/index/Postings", "freq", "(I)I"⟩ : MethodName)) (z := (⟨"com/example/esteem/esteem/index/Postings", "freq", "(I)I"⟩ : MethodName)) hown (mvT hZ (hw _ (List.mem_of_getElem? (i := 85) rfl))) (mvT hZ (hw _ (List.mem_of_getElem? (i := 86) rfl))) (notFace_of_selects (args := #[]) (mvT hZ (hw _ (List.mem_of_getElem? (i := 88) rfl)))) (mvT hZ (hw _ (List.mem_of_getElem? (i := 88) rfl))) (mvT hZ (hw _ (List.mem_of_getElem? (i := 87) rfl))) (by decide) (backOf (W := 0) (rmFQ l Z a0 hw [] r1 g2 xd xs xp dc3 (0 + 1 + 1 + 1) df3 sf3 pf3 T38.heap n0 sz38 BP dc3' (by decide) (by omega)) hZ (hw _ (List.mem_of_getElem? (i := 89) rfl)) (hw _ (List.mem_of_getElem? (i := 50) rfl)) (by decide) (by decide)) q88a q88c (g := (mkF m 420 #[.val (.int p1), .val (.int p2), .val (.int p3), .val (.int p4), .val (.int p5), .val (.int n1), .val (.int n2), .val (.int dA), .val (.int qA), .val (.int dB), .val (.int qB), .val (.int dC), .val (.int qC), .val (.ref b1), .val (.ref r1), .val (.int (Int32.ofNat g1)), .val (.int (Int32.ofNat j1)), .val (.int (Int32.ofNat g2)), .val (.int (Int32.ofNat j2)), .val (.int (1 : Int32))] [(.int (Int32.ofNat g2)), (.ref r1)])) rfl (by rw [hml]; rfl) (Steps.refl _) (argsL := [(.int (Int32.ofNat g2))]) (rest := []) (lenOf pd__I_I rfl) rfl (by show 2 * 0 + _ ≤ _; exact Nat.le_of_eq rfl) (hb hby at_420) (fun _ _ => ⟨rfl, er7, (by decide : 17 + 0 ≤ _), (by decide : 61 + 0 ≤ _)⟩)
      dsimp only [Pt.U, Pt.locs, Pt.cells, Pt.slots] at X90 l90 y90 z90 st90 hQ90
      have X90 := own_st X90 (y90.trans (show _ = 17 from rfl)) (z90.trans (show _ = 61 from rfl))
      obtain ⟨rfl, N90q, er8⟩ := hQ90
      have N90 := own_fr l90 N82 N90q
      have pre91 : ∀ t, Steps p.tables e below (T90.setTop (mkF m 423 #[.val (.int p1), .val (.int p2), .val (.int p3), .val (.int p4), .val (.int p5), .val (.int n1), .val (.int n2), .val (.int dA), .val (.int qA), .val (.int dB), .val (.int qB), .val (.int dC), .val (.int qC), .val (.ref b1), .val (.ref r1), .val (.int (Int32.ofNat g1)), .val (.int (Int32.ofNat j1)), .val (.int (Int32.ofNat g2)), .val (.int (Int32.ofNat j2)), .val (.int (1 : Int32))] [(.int (sf3 (g2 + 1) - sf3 g2))])) t → Steps p.tables e below (s₁.setTop (entryFrame m #[(.int p1), (.int p2), (.int p3), (.int p4), (.int p5)] maxLocals)) t := fun t kT => pre89 t (st90.trans kT)
      have pre92 : ∀ t, Steps p.tables e below (T90.setTop (mkF m 427 #[.val (.int p1), .val (.int p2), .val (.int p3), .val (.int p4), .val (.int p5), .val (.int n1), .val (.int n2), .val (.int dA), .val (.int qA), .val (.int dB), .val (.int qB), .val (.int dC), .val (.int qC), .val (.ref b1), .val (.ref r1), .val (.int (Int32.ofNat g1)), .val (.int (Int32.ofNat j1)), .val (.int (Int32.ofNat g2)), .val (.int (Int32.ofNat j2)), .val (.int (1 : Int32))] [(.int ((Int32.ofNat j2) + (1 : Int32))), (.int (sf3 (g2 + 1) - sf3 g2))])) t → Steps p.tables e below (s₁.setTop (entryFrame m #[(.int p1), (.int p2), (.int p3), (.int p4), (.int p5)] maxLocals)) t := fun t kT => pre91 t (by
        show Steps p.tables e below (T90.setTop (mkF m 423 #[.val (.int p1), .val (.int p2), .val (.int p3), .val (.int p4), .val (.int p5), .val (.int n1), .val (.int n2), .val (.int dA), .val (.int qA), .val (.int dB), .val (.int qB), .val (.int dC), .val (.int qC), .val (.ref b1), .val (.ref r1), .val (.int (Int32.ofNat g1)), .val (.int (Int32.ofNat j1)), .val (.int (Int32.ofNat g2)), .val (.int (Int32.ofNat j2)), .val (.int (1 : Int32))] [(.int (sf3 (g2 + 1) - sf3 g2))])) _
        refine XS.iload X90.here hx rfl (hb hby at_423) rfl ?_
        show Steps p.tables e below (T90.setTop (mkF m 425 #[.val (.int p1), .val (.int p2), .val (.int p3), .val (.int p4), .val (.int p5), .val (.int n1), .val (.int n2), .val (.int dA), .val (.int qA), .val (.int dB), .val (.int qB), .val (.int dC), .val (.int qC), .val (.ref b1), .val (.ref r1), .val (.int (Int32.ofNat g1)), .val (.int (Int32.ofNat j1)), .val (.int (Int32.ofNat g2)), .val (.int (Int32.ofNat j2)), .val (.int (1 : Int32))] [(.int (Int32.ofNat j2)), (.int (sf3 (g2 + 1) - sf3 g2))])) _
        refine XS.iconst X90.here hx rfl (hb hby at_425) ?_
        show Steps p.tables e below (T90.setTop (mkF m 426 #[.val (.int p1), .val (.int p2), .val (.int p3), .val (.int p4), .val (.int p5), .val (.int n1), .val (.int n2), .val (.int dA), .val (.int qA), .val (.int dB), .val (.int qB), .val (.int dC), .val (.int qC), .val (.ref b1), .val (.ref r1), .val (.int (Int32.ofNat g1)), .val (.int (Int32.ofNat j1)), .val (.int (Int32.ofNat g2)), .val (.int (Int32.ofNat j2)), .val (.int (1 : Int32))] [(.int (1 : Int32)), (.int (Int32.ofNat j2)), (.int (sf3 (g2 + 1) - sf3 g2))])) _
        refine XS.iadd X90.here hx rfl (hb hby at_426) rfl ?_
        exact kT)
      rw [own_one] at pre92
      have pre93 : ∀ t, Steps p.tables e below (T90.setTop (mkF m 439 #[.val (.int p1), .val (.int p2), .val (.int p3), .val (.int p4), .val (.int p5), .val (.int n1), .val (.int n2), .val (.int dA), .val (.int qA), .val (.int dB), .val (.int qB), .val (.int dC), .val (.int qC), .val (.ref b1), .val (.ref r1), .val (.int (Int32.ofNat g1)), .val (.int (Int32.ofNat j1)), .val (.int (Int32.ofNat g2)), .val (.int (Int32.ofNat j2)), .val (.int (1 : Int32))] [(.int (1 : Int32))])) t → Steps p.tables e below (s₁.setTop (entryFrame m #[(.int p1), (.int p2), (.int p3), (.int p4), (.int p5)] maxLocals)) t := fun t kT => pre92 t (by
        show Steps p.tables e below (T90.setTop (mkF m 427 #[.val (.int p1), .val (.int p2), .val (.int p3), .val (.int p4), .val (.int p5), .val (.int n1), .val (.int n2), .val (.int dA), .val (.int qA), .val (.int dB), .val (.int qB), .val (.int dC), .val (.int qC), .val (.ref b1), .val (.ref r1), .val (.int (Int32.ofNat g1)), .val (.int (Int32.ofNat j1)), .val (.int (Int32.ofNat g2)), .val (.int (Int32.ofNat j2)), .val (.int (1 : Int32))] [(.int (Int32.ofNat (j2 + 1))), (.int (sf3 (g2 + 1) - sf3 g2))])) _
        refine XS.icmpNo X90.here hx rfl (hb hby at_427) rfl (teq xb).2 ?_
        show Steps p.tables e below (T90.setTop (mkF m 430 #[.val (.int p1), .val (.int p2), .val (.int p3), .val (.int p4), .val (.int p5), .val (.int n1), .val (.int n2), .val (.int dA), .val (.int qA), .val (.int dB), .val (.int qB), .val (.int dC), .val (.int qC), .val (.ref b1), .val (.ref r1), .val (.int (Int32.ofNat g1)), .val (.int (Int32.ofNat j1)), .val (.int (Int32.ofNat g2)), .val (.int (Int32.ofNat j2)), .val (.int (1 : Int32))] [])) _
        refine XS.iconst X90.here hx rfl (hb hby at_430) ?_
        show Steps p.tables e below (T90.setTop (mkF m 431 #[.val (.int p1), .val (.int p2), .val (.int p3), .val (.int p4), .val (.int p5), .val (.int n1), .val (.int n2), .val (.int dA), .val (.int qA), .val (.int dB), .val (.int qB), .val (.int dC), .val (.int qC), .val (.ref b1), .val (.ref r1), .val (.int (Int32.ofNat g1)), .val (.int (Int32.ofNat j1)), .val (.int (Int32.ofNat g2)), .val (.int (Int32.ofNat j2)), .val (.int (1 : Int32))] [(.int (1 : Int32))])) _
        refine XS.goto X90.here hx rfl (pc0 := 431) (pc' := 435) rfl (hb hby at_431) (by decide) (by decide) ?_
        show Steps p.tables e below (T90.setTop (mkF m 435 #[.val (.int p1), .val (.int p2), .val (.int p3), .val (.int p4), .val (.int p5), .val (.int n1), .val (.int n2), .val (.int dA), .val (.int qA), .val (.int dB), .val (.int qB), .val (.int dC), .val (.int qC), .val (.ref b1), .val (.ref r1), .val (.int (Int32.ofNat g1)), .val (.int (Int32.ofNat j1)), .val (.int (Int32.ofNat g2)), .val (.int (Int32.ofNat j2)), .val (.int (1 : Int32))] [(.int (1 : Int32))])) _
        refine XS.istore X90.here hx rfl (hb hby at_435) rfl (l' := #[.val (.int p1), .val (.int p2), .val (.int p3), .val (.int p4), .val (.int p5), .val (.int n1), .val (.int n2), .val (.int dA), .val (.int qA), .val (.int dB), .val (.int qB), .val (.int dC), .val (.int qC), .val (.ref b1), .val (.ref r1), .val (.int (Int32.ofNat g1)), .val (.int (Int32.ofNat j1)), .val (.int (Int32.ofNat g2)), .val (.int (Int32.ofNat j2)), .val (.int (1 : Int32))]) rfl ?_
        show Steps p.tables e below (T90.setTop (mkF m 437 #[.val (.int p1), .val (.int p2), .val (.int p3), .val (.int p4), .val (.int p5), .val (.int n1), .val (.int n2), .val (.int dA), .val (.int qA), .val (.int dB), .val (.int qB), .val (.int dC), .val (.int qC), .val (.ref b1), .val (.ref r1), .val (.int (Int32.ofNat g1)), .val (.int (Int32.ofNat j1)), .val (.int (Int32.ofNat g2)), .val (.int (Int32.ofNat j2)), .val (.int (1 : Int32))] [])) _
        refine XS.iload X90.here hx rfl (hb hby at_437) rfl ?_
        exact kT)
      obtain ⟨fs, hr, hrun, hended, hW, hsame⟩ := X90.leave (v := some (.int (1 : Int32))) (fun h => by rw [Bd.returns] at h; cases h)
      refine ⟨_, _, pre93 _ ?_, hrun, hended, _, _, rfl, ?_, ⟨_, rfl⟩, hW, hsame.mono (by decide) (by decide)⟩
      · exact retN X90 hx (t := .boolean) Bd.returns (by simp) (hb hby at_439) hr
      · exact ⟨rfl, N90⟩
    · have y2 := z2.resolve_left hb85
      have pre94 : ∀ t, Steps p.tables e below (T82.setTop (mkF m 394 #[.val (.int p1), .val (.int p2), .val (.int p3), .val (.int p4), .val (.int p5), .val (.int n1), .val (.int n2), .val (.int dA), .val (.int qA), .val (.int dB), .val (.int qB), .val (.int dC), .val (.int qC), .val (.ref b1), .val (.ref r1), .val (.int (Int32.ofNat g1)), .val (.int (Int32.ofNat j1)), .val (.int (Int32.ofNat g2)), .val (.int (Int32.ofNat j2)), .val (.int (1 : Int32))] [(.int (Int32.ofNat g1)), (.ref r1)])) t → Steps p.tables e below (s₁.setTop (entryFrame m #[(.int p1), (.int p2), (.int p3), (.int p4), (.int p5)] maxLocals)) t := fun t kT => pre86 t (by
        show Steps p.tables e below (T82.setTop (mkF m 382 #[.val (.int p1), .val (.int p2), .val (.int p3), .val (.int p4), .val (.int p5), .val (.int n1), .val (.int n2), .val (.int dA), .val (.int qA), .val (.int dB), .val (.int qB), .val (.int dC), .val (.int qC), .val (.ref b1), .val (.ref r1), .val (.int (Int32.ofNat g1)), .val (.int (Int32.ofNat j1)), .val (.int (Int32.ofNat g2)), .val (.int (Int32.ofNat j2)), .val (.int (1 : Int32))] [(.int n2)])) _
        refine XS.ifNo X82.here hx rfl (hb hby at_382) rfl ((if0 _ _).trans (feq hb85).1) ?_
        show Steps p.tables e below (T82.setTop (mkF m 385 #[.val (.int p1), .val (.int p2), .val (.int p3), .val (.int p4), .val (.int p5), .val (.int n1), .val (.int n2), .val (.int dA), .val (.int qA), .val (.int dB), .val (.int qB), .val (.int dC), .val (.int qC), .val (.ref b1), .val (.ref r1), .val (.int (Int32.ofNat g1)), .val (.int (Int32.ofNat j1)), .val (.int (Int32.ofNat g2)), .val (.int (Int32.ofNat j2)), .val (.int (1 : Int32))] [])) _
        refine XS.iload X82.here hx rfl (hb hby at_385) rfl ?_
        show Steps p.tables e below (T82.setTop (mkF m 387 #[.val (.int p1), .val (.int p2), .val (.int p3), .val (.int p4), .val (.int p5), .val (.int n1), .val (.int n2), .val (.int dA), .val (.int qA), .val (.int dB), .val (.int qB), .val (.int dC), .val (.int qC), .val (.ref b1), .val (.ref r1), .val (.int (Int32.ofNat g1)), .val (.int (Int32.ofNat j1)), .val (.int (Int32.ofNat g2)), .val (.int (Int32.ofNat j2)), .val (.int (1 : Int32))] [(.int (1 : Int32))])) _
        refine XS.ifNo X82.here hx rfl (hb hby at_387) rfl ((if0 _ _).trans (feq (by decide : ¬ ((1 : Int32) = (0 : Int32)))).1) ?_
        show Steps p.tables e below (T82.setTop (mkF m 390 #[.val (.int p1), .val (.int p2), .val (.int p3), .val (.int p4), .val (.int p5), .val (.int n1), .val (.int n2), .val (.int dA), .val (.int qA), .val (.int dB), .val (.int qB), .val (.int dC), .val (.int qC), .val (.ref b1), .val (.ref r1), .val (.int (Int32.ofNat g1)), .val (.int (Int32.ofNat j1)), .val (.int (Int32.ofNat g2)), .val (.int (Int32.ofNat j2)), .val (.int (1 : Int32))] [])) _
        refine XS.aload X82.here hx rfl (hb hby at_390) rfl rfl ?_
        show Steps p.tables e below (T82.setTop (mkF m 392 #[.val (.int p1), .val (.int p2), .val (.int p3), .val (.int p4), .val (.int p5), .val (.int n1), .val (.int n2), .val (.int dA), .val (.int qA), .val (.int dB), .val (.int qB), .val (.int dC), .val (.int qC), .val (.ref b1), .val (.ref r1), .val (.int (Int32.ofNat g1)), .val (.int (Int32.ofNat j1)), .val (.int (Int32.ofNat g2)), .val (.int (Int32.ofNat j2)), .val (.int (1 : Int32))] [(.ref r1)])) _
        refine XS.iload X82.here hx rfl (hb hby at_392) rfl ?_
        exact kT)
      obtain ⟨cI95, kI95, q95a, q95b, q95c⟩ := isOf hZ er7 BP.1.2.2.2
      have pre96 : ∀ t, Steps p.tables e below (T82.setTop (mkF m 394 #[.val (.int p1), .val (.int p2), .val (.int p3), .val (.int p4), .val (.int p5), .val (.int n1), .val (.int n2), .val (.int dA), .val (.int qA), .val (.int dB), .val (.int qB), .val (.int dC), .val (.int qC), .val (.ref b1), .val (.ref r1), .val (.int (Int32.ofNat g1)), .val (.int (Int32.ofNat j1)), .val (.int (Int32.ofNat g2)), .val (.int (Int32.ofNat j2)), .val (.int (1 : Int32))] [(.int (Int32.ofNat g1)), (.ref r1)])) t → Steps p.tables e below (s₁.setTop (entryFrame m #[(.int p1), (.int p2), (.int p3), (.int p4), (.int p5)] maxLocals)) t := fun t kT => pre94 t (by
        exact kT)
      obtain ⟨_, _, ⟨T97, L97, k97, n97⟩, -, X97, ⟨Lc97, hQ97, l97, y97, z97⟩, st97⟩ := X82.virtualBack hx (y := (⟨"com/example/esteem/esteem/index/Postings", "freq", "(I)I"⟩ : MethodName)) (z := (⟨"com/example/esteem/esteem/index/Postings", "freq", "(I)I"⟩ : MethodName)) hown (mvT hZ (hw _ (List.mem_of_getElem? (i := 85) rfl))) (mvT hZ (hw _ (List.mem_of_getElem? (i := 86) rfl))) (notFace_of_selects (args := #[]) (mvT hZ (hw _ (List.mem_of_getElem? (i := 88) rfl)))) (mvT hZ (hw _ (List.mem_of_getElem? (i := 88) rfl))) (mvT hZ (hw _ (List.mem_of_getElem? (i := 87) rfl))) (by decide) (backOf (W := 0) (rmFQ l Z a0 hw [] r1 g1 xd xs xp dc3 (0 + 1 + 1 + 1) df3 sf3 pf3 T38.heap n0 sz38 BP dc3' (by decide) x4) hZ (hw _ (List.mem_of_getElem? (i := 89) rfl)) (hw _ (List.mem_of_getElem? (i := 50) rfl)) (by decide) (by decide)) q95a q95c (g := (mkF m 394 #[.val (.int p1), .val (.int p2), .val (.int p3), .val (.int p4), .val (.int p5), .val (.int n1), .val (.int n2), .val (.int dA), .val (.int qA), .val (.int dB), .val (.int qB), .val (.int dC), .val (.int qC), .val (.ref b1), .val (.ref r1), .val (.int (Int32.ofNat g1)), .val (.int (Int32.ofNat j1)), .val (.int (Int32.ofNat g2)), .val (.int (Int32.ofNat j2)), .val (.int (1 : Int32))] [(.int (Int32.ofNat g1)), (.ref r1)])) rfl (by rw [hml]; rfl) (Steps.refl _) (argsL := [(.int (Int32.ofNat g1))]) (rest := []) (lenOf pd__I_I rfl) rfl (by show 2 * 0 + _ ≤ _; exact Nat.le_of_eq rfl) (hb hby at_394) (fun _ _ => ⟨rfl, er7, (by decide : 17 + 0 ≤ _), (by decide : 61 + 0 ≤ _)⟩)
      dsimp only [Pt.U, Pt.locs, Pt.cells, Pt.slots] at X97 l97 y97 z97 st97 hQ97
      have X97 := own_st X97 (y97.trans (show _ = 17 from rfl)) (z97.trans (show _ = 61 from rfl))
      obtain ⟨rfl, N97q, er9⟩ := hQ97
      have N97 := own_fr l97 N82 N97q
      have pre98 : ∀ t, Steps p.tables e below (T97.setTop (mkF m 397 #[.val (.int p1), .val (.int p2), .val (.int p3), .val (.int p4), .val (.int p5), .val (.int n1), .val (.int n2), .val (.int dA), .val (.int qA), .val (.int dB), .val (.int qB), .val (.int dC), .val (.int qC), .val (.ref b1), .val (.ref r1), .val (.int (Int32.ofNat g1)), .val (.int (Int32.ofNat j1)), .val (.int (Int32.ofNat g2)), .val (.int (Int32.ofNat j2)), .val (.int (1 : Int32))] [(.int (sf3 (g1 + 1) - sf3 g1))])) t → Steps p.tables e below (s₁.setTop (entryFrame m #[(.int p1), (.int p2), (.int p3), (.int p4), (.int p5)] maxLocals)) t := fun t kT => pre96 t (st97.trans kT)
      have pre99 : ∀ t, Steps p.tables e below (T97.setTop (mkF m 401 #[.val (.int p1), .val (.int p2), .val (.int p3), .val (.int p4), .val (.int p5), .val (.int n1), .val (.int n2), .val (.int dA), .val (.int qA), .val (.int dB), .val (.int qB), .val (.int dC), .val (.int qC), .val (.ref b1), .val (.ref r1), .val (.int (Int32.ofNat g1)), .val (.int (Int32.ofNat j1)), .val (.int (Int32.ofNat g2)), .val (.int (Int32.ofNat j2)), .val (.int (1 : Int32))] [(.int ((Int32.ofNat j1) + (1 : Int32))), (.int (sf3 (g1 + 1) - sf3 g1))])) t → Steps p.tables e below (s₁.setTop (entryFrame m #[(.int p1), (.int p2), (.int p3), (.int p4), (.int p5)] maxLocals)) t := fun t kT => pre98 t (by
        show Steps p.tables e below (T97.setTop (mkF m 397 #[.val (.int p1), .val (.int p2), .val (.int p3), .val (.int p4), .val (.int p5), .val (.int n1), .val (.int n2), .val (.int dA), .val (.int qA), .val (.int dB), .val (.int qB), .val (.int dC), .val (.int qC), .val (.ref b1), .val (.ref r1), .val (.int (Int32.ofNat g1)), .val (.int (Int32.ofNat j1)), .val (.int (Int32.ofNat g2)), .val (.int (Int32.ofNat j2)), .val (.int (1 : Int32))] [(.int (sf3 (g1 + 1) - sf3 g1))])) _
        refine XS.iload X97.here hx rfl (hb hby at_397) rfl ?_
        show Steps p.tables e below (T97.setTop (mkF m 399 #[.val (.int p1), .val (.int p2), .val (.int p3), .val (.int p4), .val (.int p5), .val (.int n1), .val (.int n2), .val (.int dA), .val (.int qA), .val (.int dB), .val (.int qB), .val (.int dC), .val (.int qC), .val (.ref b1), .val (.ref r1), .val (.int (Int32.ofNat g1)), .val (.int (Int32.ofNat j1)), .val (.int (Int32.ofNat g2)), .val (.int (Int32.ofNat j2)), .val (.int (1 : Int32))] [(.int (Int32.ofNat j1)), (.int (sf3 (g1 + 1) - sf3 g1))])) _
        refine XS.iconst X97.here hx rfl (hb hby at_399) ?_
        show Steps p.tables e below (T97.setTop (mkF m 400 #[.val (.int p1), .val (.int p2), .val (.int p3), .val (.int p4), .val (.int p5), .val (.int n1), .val (.int n2), .val (.int dA), .val (.int qA), .val (.int dB), .val (.int qB), .val (.int dC), .val (.int qC), .val (.ref b1), .val (.ref r1), .val (.int (Int32.ofNat g1)), .val (.int (Int32.ofNat j1)), .val (.int (Int32.ofNat g2)), .val (.int (Int32.ofNat j2)), .val (.int (1 : Int32))] [(.int (1 : Int32)), (.int (Int32.ofNat j1)), (.int (sf3 (g1 + 1) - sf3 g1))])) _
        refine XS.iadd X97.here hx rfl (hb hby at_400) rfl ?_
        exact kT)
      rw [own_one] at pre99
      have pre100 : ∀ t, Steps p.tables e below (T97.setTop (mkF m 420 #[.val (.int p1), .val (.int p2), .val (.int p3), .val (.int p4), .val (.int p5), .val (.int n1), .val (.int n2), .val (.int dA), .val (.int qA), .val (.int dB), .val (.int qB), .val (.int dC), .val (.int qC), .val (.ref b1), .val (.ref r1), .val (.int (Int32.ofNat g1)), .val (.int (Int32.ofNat j1)), .val (.int (Int32.ofNat g2)), .val (.int (Int32.ofNat j2)), .val (.int (1 : Int32))] [(.int (Int32.ofNat g2)), (.ref r1)])) t → Steps p.tables e below (s₁.setTop (entryFrame m #[(.int p1), (.int p2), (.int p3), (.int p4), (.int p5)] maxLocals)) t := fun t kT => pre99 t (by
        show Steps p.tables e below (T97.setTop (mkF m 401 #[.val (.int p1), .val (.int p2), .val (.int p3), .val (.int p4), .val (.int p5), .val (.int n1), .val (.int n2), .val (.int dA), .val (.int qA), .val (.int dB), .val (.int qB), .val (.int dC), .val (.int qC), .val (.ref b1), .val (.ref r1), .val (.int (Int32.ofNat g1)), .val (.int (Int32.ofNat j1)), .val (.int (Int32.ofNat g2)), .val (.int (Int32.ofNat j2)), .val (.int (1 : Int32))] [(.int (Int32.ofNat (j1 + 1))), (.int (sf3 (g1 + 1) - sf3 g1))])) _
        refine XS.icmpNo X97.here hx rfl (hb hby at_401) rfl (teq (xa y2)).2 ?_
        show Steps p.tables e below (T97.setTop (mkF m 404 #[.val (.int p1), .val (.int p2), .val (.int p3), .val (.int p4), .val (.int p5), .val (.int n1), .val (.int n2), .val (.int dA), .val (.int qA), .val (.int dB), .val (.int qB), .val (.int dC), .val (.int qC), .val (.ref b1), .val (.ref r1), .val (.int (Int32.ofNat g1)), .val (.int (Int32.ofNat j1)), .val (.int (Int32.ofNat g2)), .val (.int (Int32.ofNat j2)), .val (.int (1 : Int32))] [])) _
        refine XS.iconst X97.here hx rfl (hb hby at_404) ?_
        show Steps p.tables e below (T97.setTop (mkF m 405 #[.val (.int p1), .val (.int p2), .val (.int p3), .val (.int p4), .val (.int p5), .val (.int n1), .val (.int n2), .val (.int dA), .val (.int qA), .val (.int dB), .val (.int qB), .val (.int dC), .val (.int qC), .val (.ref b1), .val (.ref r1), .val (.int (Int32.ofNat g1)), .val (.int (Int32.ofNat j1)), .val (.int (Int32.ofNat g2)), .val (.int (Int32.ofNat j2)), .val (.int (1 : Int32))] [(.int (1 : Int32))])) _
        refine XS.goto X97.here hx rfl (pc0 := 405) (pc' := 409) rfl (hb hby at_405) (by decide) (by decide) ?_
        show Steps p.tables e below (T97.setTop (mkF m 409 #[.val (.int p1), .val (.int p2), .val (.int p3), .val (.int p4), .val (.int p5), .val (.int n1), .val (.int n2), .val (.int dA), .val (.int qA), .val (.int dB), .val (.int qB), .val (.int dC), .val (.int qC), .val (.ref b1), .val (.ref r1), .val (.int (Int32.ofNat g1)), .val (.int (Int32.ofNat j1)), .val (.int (Int32.ofNat g2)), .val (.int (Int32.ofNat j2)), .val (.int (1 : Int32))] [(.int (1 : Int32))])) _
        refine XS.istore X97.here hx rfl (hb hby at_409) rfl (l' := #[.val (.int p1), .val (.int p2), .val (.int p3), .val (.int p4), .val (.int p5), .val (.int n1), .val (.int n2), .val (.int dA), .val (.int qA), .val (.int dB), .val (.int qB), .val (.int dC), .val (.int qC), .val (.ref b1), .val (.ref r1), .val (.int (Int32.ofNat g1)), .val (.int (Int32.ofNat j1)), .val (.int (Int32.ofNat g2)), .val (.int (Int32.ofNat j2)), .val (.int (1 : Int32))]) rfl ?_
        show Steps p.tables e below (T97.setTop (mkF m 411 #[.val (.int p1), .val (.int p2), .val (.int p3), .val (.int p4), .val (.int p5), .val (.int n1), .val (.int n2), .val (.int dA), .val (.int qA), .val (.int dB), .val (.int qB), .val (.int dC), .val (.int qC), .val (.ref b1), .val (.ref r1), .val (.int (Int32.ofNat g1)), .val (.int (Int32.ofNat j1)), .val (.int (Int32.ofNat g2)), .val (.int (Int32.ofNat j2)), .val (.int (1 : Int32))] [])) _
        refine XS.iload X97.here hx rfl (hb hby at_411) rfl ?_
        show Steps p.tables e below (T97.setTop (mkF m 413 #[.val (.int p1), .val (.int p2), .val (.int p3), .val (.int p4), .val (.int p5), .val (.int n1), .val (.int n2), .val (.int dA), .val (.int qA), .val (.int dB), .val (.int qB), .val (.int dC), .val (.int qC), .val (.ref b1), .val (.ref r1), .val (.int (Int32.ofNat g1)), .val (.int (Int32.ofNat j1)), .val (.int (Int32.ofNat g2)), .val (.int (Int32.ofNat j2)), .val (.int (1 : Int32))] [(.int (1 : Int32))])) _
        refine XS.ifNo X97.here hx rfl (hb hby at_413) rfl ((if0 _ _).trans (feq (by decide : ¬ ((1 : Int32) = (0 : Int32)))).1) ?_
        show Steps p.tables e below (T97.setTop (mkF m 416 #[.val (.int p1), .val (.int p2), .val (.int p3), .val (.int p4), .val (.int p5), .val (.int n1), .val (.int n2), .val (.int dA), .val (.int qA), .val (.int dB), .val (.int qB), .val (.int dC), .val (.int qC), .val (.ref b1), .val (.ref r1), .val (.int (Int32.ofNat g1)), .val (.int (Int32.ofNat j1)), .val (.int (Int32.ofNat g2)), .val (.int (Int32.ofNat j2)), .val (.int (1 : Int32))] [])) _
        refine XS.aload X97.here hx rfl (hb hby at_416) rfl rfl ?_
        show Steps p.tables e below (T97.setTop (mkF m 418 #[.val (.int p1), .val (.int p2), .val (.int p3), .val (.int p4), .val (.int p5), .val (.int n1), .val (.int n2), .val (.int dA), .val (.int qA), .val (.int dB), .val (.int qB), .val (.int dC), .val (.int qC), .val (.ref b1), .val (.ref r1), .val (.int (Int32.ofNat g1)), .val (.int (Int32.ofNat j1)), .val (.int (Int32.ofNat g2)), .val (.int (Int32.ofNat j2)), .val (.int (1 : Int32))] [(.ref r1)])) _
        refine XS.iload X97.here hx rfl (hb hby at_418) rfl ?_
        exact kT)
      obtain ⟨cI101, kI101, q101a, q101b, q101c⟩ := isOf hZ er9 BP.1.2.2.2
      have pre102 : ∀ t, Steps p.tables e below (T97.setTop (mkF m 420 #[.val (.int p1), .val (.int p2), .val (.int p3), .val (.int p4), .val (.int p5), .val (.int n1), .val (.int n2), .val (.int dA), .val (.int qA), .val (.int dB), .val (.int qB), .val (.int dC), .val (.int qC), .val (.ref b1), .val (.ref r1), .val (.int (Int32.ofNat g1)), .val (.int (Int32.ofNat j1)), .val (.int (Int32.ofNat g2)), .val (.int (Int32.ofNat j2)), .val (.int (1 : Int32))] [(.int (Int32.ofNat g2)), (.ref r1)])) t → Steps p.tables e below (s₁.setTop (entryFrame m #[(.int p1), (.int p2), (.int p3), (.int p4), (.int p5)] maxLocals)) t := fun t kT => pre100 t (by
        exact kT)
      obtain ⟨_, _, ⟨T103, L103, k103, n103⟩, -, X103, ⟨Lc103, hQ103, l103, y103, z103⟩, st103⟩ := X97.virtualBack hx (y := (⟨"com/example/esteem/esteem/index/Postings", "freq", "(I)I"⟩ : MethodName)) (z := (⟨"com/example/esteem/esteem/index/Postings", "freq", "(I)I"⟩ : MethodName)) hown (mvT hZ (hw _ (List.mem_of_getElem? (i := 85) rfl))) (mvT hZ (hw _ (List.mem_of_getElem? (i := 86) rfl))) (notFace_of_selects (args := #[]) (mvT hZ (hw _ (List.mem_of_getElem? (i := 88) rfl)))) (mvT hZ (hw _ (List.mem_of_getElem? (i := 88) rfl))) (mvT hZ (hw _ (List.mem_of_getElem? (i := 87) rfl))) (by decide) (backOf (W := 0) (rmFQ l Z a0 hw [] r1 g2 xd xs xp dc3 (0 + 1 + 1 + 1) df3 sf3 pf3 T38.heap n0 sz38 BP dc3' (by decide) (by omega)) hZ (hw _ (List.mem_of_getElem? (i := 89) rfl)) (hw _ (List.mem_of_getElem? (i := 50) rfl)) (by decide) (by decide)) q101a q101c (g := (mkF m 420 #[.val (.int p1), .val (.int p2), .val (.int p3), .val (.int p4), .val (.int p5), .val (.int n1), .val (.int n2), .val (.int dA), .val (.int qA), .val (.int dB), .val (.int qB), .val (.int dC), .val (.int qC), .val (.ref b1), .val (.ref r1), .val (.int (Int32.ofNat g1)), .val (.int (Int32.ofNat j1)), .val (.int (Int32.ofNat g2)), .val (.int (Int32.ofNat j2)), .val (.int (1 : Int32))] [(.int (Int32.ofNat g2)), (.ref r1)])) rfl (by rw [hml]; rfl) (Steps.refl _) (argsL := [(.int (Int32.ofNat g2))]) (rest := []) (lenOf pd__I_I rfl) rfl (by show 2 * 0 + _ ≤ _; exact Nat.le_of_eq rfl) (hb hby at_420) (fun _ _ => ⟨rfl, er9, (by decide : 17 + 0 ≤ _), (by decide : 61 + 0 ≤ _)⟩)
      dsimp only [Pt.U, Pt.locs, Pt.cells, Pt.slots] at X103 l103 y103 z103 st103 hQ103
      have X103 := own_st X103 (y103.trans (show _ = 17 from rfl)) (z103.trans (show _ = 61 from rfl))
      obtain ⟨rfl, N103q, er10⟩ := hQ103
      have N103 := own_fr l103 N97 N103q
      have pre104 : ∀ t, Steps p.tables e below (T103.setTop (mkF m 423 #[.val (.int p1), .val (.int p2), .val (.int p3), .val (.int p4), .val (.int p5), .val (.int n1), .val (.int n2), .val (.int dA), .val (.int qA), .val (.int dB), .val (.int qB), .val (.int dC), .val (.int qC), .val (.ref b1), .val (.ref r1), .val (.int (Int32.ofNat g1)), .val (.int (Int32.ofNat j1)), .val (.int (Int32.ofNat g2)), .val (.int (Int32.ofNat j2)), .val (.int (1 : Int32))] [(.int (sf3 (g2 + 1) - sf3 g2))])) t → Steps p.tables e below (s₁.setTop (entryFrame m #[(.int p1), (.int p2), (.int p3), (.int p4), (.int p5)] maxLocals)) t := fun t kT => pre102 t (st103.trans kT)
      have pre105 : ∀ t, Steps p.tables e below (T103.setTop (mkF m 427 #[.val (.int p1), .val (.int p2), .val (.int p3), .val (.int p4), .val (.int p5), .val (.int n1), .val (.int n2), .val (.int dA), .val (.int qA), .val (.int dB), .val (.int qB), .val (.int dC), .val (.int qC), .val (.ref b1), .val (.ref r1), .val (.int (Int32.ofNat g1)), .val (.int (Int32.ofNat j1)), .val (.int (Int32.ofNat g2)), .val (.int (Int32.ofNat j2)), .val (.int (1 : Int32))] [(.int ((Int32.ofNat j2) + (1 : Int32))), (.int (sf3 (g2 + 1) - sf3 g2))])) t → Steps p.tables e below (s₁.setTop (entryFrame m #[(.int p1), (.int p2), (.int p3), (.int p4), (.int p5)] maxLocals)) t := fun t kT => pre104 t (by
        show Steps p.tables e below (T103.setTop (mkF m 423 #[.val (.int p1), .val (.int p2), .val (.int p3), .val (.int p4), .val (.int p5), .val (.int n1), .val (.int n2), .val (.int dA), .val (.int qA), .val (.int dB), .val (.int qB), .val (.int dC), .val (.int qC), .val (.ref b1), .val (.ref r1), .val (.int (Int32.ofNat g1)), .val (.int (Int32.ofNat j1)), .val (.int (Int32.ofNat g2)), .val (.int (Int32.ofNat j2)), .val (.int (1 : Int32))] [(.int (sf3 (g2 + 1) - sf3 g2))])) _
        refine XS.iload X103.here hx rfl (hb hby at_423) rfl ?_
        show Steps p.tables e below (T103.setTop (mkF m 425 #[.val (.int p1), .val (.int p2), .val (.int p3), .val (.int p4), .val (.int p5), .val (.int n1), .val (.int n2), .val (.int dA), .val (.int qA), .val (.int dB), .val (.int qB), .val (.int dC), .val (.int qC), .val (.ref b1), .val (.ref r1), .val (.int (Int32.ofNat g1)), .val (.int (Int32.ofNat j1)), .val (.int (Int32.ofNat g2)), .val (.int (Int32.ofNat j2)), .val (.int (1 : Int32))] [(.int (Int32.ofNat j2)), (.int (sf3 (g2 + 1) - sf3 g2))])) _
        refine XS.iconst X103.here hx rfl (hb hby at_425) ?_
        show Steps p.tables e below (T103.setTop (mkF m 426 #[.val (.int p1), .val (.int p2), .val (.int p3), .val (.int p4), .val (.int p5), .val (.int n1), .val (.int n2), .val (.int dA), .val (.int qA), .val (.int dB), .val (.int qB), .val (.int dC), .val (.int qC), .val (.ref b1), .val (.ref r1), .val (.int (Int32.ofNat g1)), .val (.int (Int32.ofNat j1)), .val (.int (Int32.ofNat g2)), .val (.int (Int32.ofNat j2)), .val (.int (1 : Int32))] [(.int (1 : Int32)), (.int (Int32.ofNat j2)), (.int (sf3 (g2 + 1) - sf3 g2))])) _
        refine XS.iadd X103.here hx rfl (hb hby at_426) rfl ?_
        exact kT)
      rw [own_one] at pre105
      have pre106 : ∀ t, Steps p.tables e below (T103.setTop (mkF m 439 #[.val (.int p1), .val (.int p2), .val (.int p3), .val (.int p4), .val (.int p5), .val (.int n1), .val (.int n2), .val (.int dA), .val (.int qA), .val (.int dB), .val (.int qB), .val (.int dC), .val (.int qC), .val (.ref b1), .val (.ref r1), .val (.int (Int32.ofNat g1)), .val (.int (Int32.ofNat j1)), .val (.int (Int32.ofNat g2)), .val (.int (Int32.ofNat j2)), .val (.int (1 : Int32))] [(.int (1 : Int32))])) t → Steps p.tables e below (s₁.setTop (entryFrame m #[(.int p1), (.int p2), (.int p3), (.int p4), (.int p5)] maxLocals)) t := fun t kT => pre105 t (by
        show Steps p.tables e below (T103.setTop (mkF m 427 #[.val (.int p1), .val (.int p2), .val (.int p3), .val (.int p4), .val (.int p5), .val (.int n1), .val (.int n2), .val (.int dA), .val (.int qA), .val (.int dB), .val (.int qB), .val (.int dC), .val (.int qC), .val (.ref b1), .val (.ref r1), .val (.int (Int32.ofNat g1)), .val (.int (Int32.ofNat j1)), .val (.int (Int32.ofNat g2)), .val (.int (Int32.ofNat j2)), .val (.int (1 : Int32))] [(.int (Int32.ofNat (j2 + 1))), (.int (sf3 (g2 + 1) - sf3 g2))])) _
        refine XS.icmpNo X103.here hx rfl (hb hby at_427) rfl (teq xb).2 ?_
        show Steps p.tables e below (T103.setTop (mkF m 430 #[.val (.int p1), .val (.int p2), .val (.int p3), .val (.int p4), .val (.int p5), .val (.int n1), .val (.int n2), .val (.int dA), .val (.int qA), .val (.int dB), .val (.int qB), .val (.int dC), .val (.int qC), .val (.ref b1), .val (.ref r1), .val (.int (Int32.ofNat g1)), .val (.int (Int32.ofNat j1)), .val (.int (Int32.ofNat g2)), .val (.int (Int32.ofNat j2)), .val (.int (1 : Int32))] [])) _
        refine XS.iconst X103.here hx rfl (hb hby at_430) ?_
        show Steps p.tables e below (T103.setTop (mkF m 431 #[.val (.int p1), .val (.int p2), .val (.int p3), .val (.int p4), .val (.int p5), .val (.int n1), .val (.int n2), .val (.int dA), .val (.int qA), .val (.int dB), .val (.int qB), .val (.int dC), .val (.int qC), .val (.ref b1), .val (.ref r1), .val (.int (Int32.ofNat g1)), .val (.int (Int32.ofNat j1)), .val (.int (Int32.ofNat g2)), .val (.int (Int32.ofNat j2)), .val (.int (1 : Int32))] [(.int (1 : Int32))])) _
        refine XS.goto X103.here hx rfl (pc0 := 431) (pc' := 435) rfl (hb hby at_431) (by decide) (by decide) ?_
        show Steps p.tables e below (T103.setTop (mkF m 435 #[.val (.int p1), .val (.int p2), .val (.int p3), .val (.int p4), .val (.int p5), .val (.int n1), .val (.int n2), .val (.int dA), .val (.int qA), .val (.int dB), .val (.int qB), .val (.int dC), .val (.int qC), .val (.ref b1), .val (.ref r1), .val (.int (Int32.ofNat g1)), .val (.int (Int32.ofNat j1)), .val (.int (Int32.ofNat g2)), .val (.int (Int32.ofNat j2)), .val (.int (1 : Int32))] [(.int (1 : Int32))])) _
        refine XS.istore X103.here hx rfl (hb hby at_435) rfl (l' := #[.val (.int p1), .val (.int p2), .val (.int p3), .val (.int p4), .val (.int p5), .val (.int n1), .val (.int n2), .val (.int dA), .val (.int qA), .val (.int dB), .val (.int qB), .val (.int dC), .val (.int qC), .val (.ref b1), .val (.ref r1), .val (.int (Int32.ofNat g1)), .val (.int (Int32.ofNat j1)), .val (.int (Int32.ofNat g2)), .val (.int (Int32.ofNat j2)), .val (.int (1 : Int32))]) rfl ?_
        show Steps p.tables e below (T103.setTop (mkF m 437 #[.val (.int p1), .val (.int p2), .val (.int p3), .val (.int p4), .val (.int p5), .val (.int n1), .val (.int n2), .val (.int dA), .val (.int qA), .val (.int dB), .val (.int qB), .val (.int dC), .val (.int qC), .val (.ref b1), .val (.ref r1), .val (.int (Int32.ofNat g1)), .val (.int (Int32.ofNat j1)), .val (.int (Int32.ofNat g2)), .val (.int (Int32.ofNat j2)), .val (.int (1 : Int32))] [])) _
        refine XS.iload X103.here hx rfl (hb hby at_437) rfl ?_
        exact kT)
      obtain ⟨fs, hr, hrun, hended, hW, hsame⟩ := X103.leave (v := some (.int (1 : Int32))) (fun h => by rw [Bd.returns] at h; cases h)
      refine ⟨_, _, pre106 _ ?_, hrun, hended, _, _, rfl, ?_, ⟨_, rfl⟩, hW, hsame.mono (by decide) (by decide)⟩
      · exact retN X103 hx (t := .boolean) Bd.returns (by simp) (hb hby at_439) hr
      · exact ⟨rfl, N103⟩
  · have y1 := z1.resolve_left hq1
    have pre107 : ∀ t, Steps p.tables e below (T82.setTop (mkF m 366 #[.val (.int p1), .val (.int p2), .val (.int p3), .val (.int p4), .val (.int p5), .val (.int n1), .val (.int n2), .val (.int dA), .val (.int qA), .val (.int dB), .val (.int qB), .val (.int dC), .val (.int qC), .val (.ref b1), .val (.ref r1), .val (.int (Int32.ofNat g1)), .val (.int (Int32.ofNat j1)), .val (.int (Int32.ofNat g2)), .val (.int (Int32.ofNat j2)), .val (.int (1 : Int32))] [(.int (0 : Int32)), (.ref r1)])) t → Steps p.tables e below (s₁.setTop (entryFrame m #[(.int p1), (.int p2), (.int p3), (.int p4), (.int p5)] maxLocals)) t := fun t kT => pre84 t (by
      show Steps p.tables e below (T82.setTop (mkF m 355 #[.val (.int p1), .val (.int p2), .val (.int p3), .val (.int p4), .val (.int p5), .val (.int n1), .val (.int n2), .val (.int dA), .val (.int qA), .val (.int dB), .val (.int qB), .val (.int dC), .val (.int qC), .val (.ref b1), .val (.ref r1), .val (.int (Int32.ofNat g1)), .val (.int (Int32.ofNat j1)), .val (.int (Int32.ofNat g2)), .val (.int (Int32.ofNat j2)), .val (.int (1 : Int32))] [(.int n1)])) _
      refine XS.ifNo X82.here hx rfl (hb hby at_355) rfl ((if0 _ _).trans (feq hq1).1) ?_
      show Steps p.tables e below (T82.setTop (mkF m 358 #[.val (.int p1), .val (.int p2), .val (.int p3), .val (.int p4), .val (.int p5), .val (.int n1), .val (.int n2), .val (.int dA), .val (.int qA), .val (.int dB), .val (.int qB), .val (.int dC), .val (.int qC), .val (.ref b1), .val (.ref r1), .val (.int (Int32.ofNat g1)), .val (.int (Int32.ofNat j1)), .val (.int (Int32.ofNat g2)), .val (.int (Int32.ofNat j2)), .val (.int (1 : Int32))] [])) _
      refine XS.iload X82.here hx rfl (hb hby at_358) rfl ?_
      show Steps p.tables e below (T82.setTop (mkF m 360 #[.val (.int p1), .val (.int p2), .val (.int p3), .val (.int p4), .val (.int p5), .val (.int n1), .val (.int n2), .val (.int dA), .val (.int qA), .val (.int dB), .val (.int qB), .val (.int dC), .val (.int qC), .val (.ref b1), .val (.ref r1), .val (.int (Int32.ofNat g1)), .val (.int (Int32.ofNat j1)), .val (.int (Int32.ofNat g2)), .val (.int (Int32.ofNat j2)), .val (.int (1 : Int32))] [(.int (1 : Int32))])) _
      refine XS.ifNo X82.here hx rfl (hb hby at_360) rfl ((if0 _ _).trans (feq (by decide : ¬ ((1 : Int32) = (0 : Int32)))).1) ?_
      show Steps p.tables e below (T82.setTop (mkF m 363 #[.val (.int p1), .val (.int p2), .val (.int p3), .val (.int p4), .val (.int p5), .val (.int n1), .val (.int n2), .val (.int dA), .val (.int qA), .val (.int dB), .val (.int qB), .val (.int dC), .val (.int qC), .val (.ref b1), .val (.ref r1), .val (.int (Int32.ofNat g1)), .val (.int (Int32.ofNat j1)), .val (.int (Int32.ofNat g2)), .val (.int (Int32.ofNat j2)), .val (.int (1 : Int32))] [])) _
      refine XS.aload X82.here hx rfl (hb hby at_363) rfl rfl ?_
      show Steps p.tables e below (T82.setTop (mkF m 365 #[.val (.int p1), .val (.int p2), .val (.int p3), .val (.int p4), .val (.int p5), .val (.int n1), .val (.int n2), .val (.int dA), .val (.int qA), .val (.int dB), .val (.int qB), .val (.int dC), .val (.int qC), .val (.ref b1), .val (.ref r1), .val (.int (Int32.ofNat g1)), .val (.int (Int32.ofNat j1)), .val (.int (Int32.ofNat g2)), .val (.int (Int32.ofNat j2)), .val (.int (1 : Int32))] [(.ref r1)])) _
      refine XS.iconst X82.here hx rfl (hb hby at_365) ?_
      exact kT)
    obtain ⟨cI108, kI108, q108a, q108b, q108c⟩ := isOf hZ er7 BP.1.2.2.2
    have pre109 : ∀ t, Steps p.tables e below (T82.setTop (mkF m 366 #[.val (.int p1), .val (.int p2), .val (.int p3), .val (.int p4), .val (.int p5), .val (.int n1), .val (.int n2), .val (.int dA), .val (.int qA), .val (.int dB), .val (.int qB), .val (.int dC), .val (.int qC), .val (.ref b1), .val (.ref r1), .val (.int (Int32.ofNat g1)), .val (.int (Int32.ofNat j1)), .val (.int (Int32.ofNat g2)), .val (.int (Int32.ofNat j2)), .val (.int (1 : Int32))] [(.int (0 : Int32)), (.ref r1)])) t → Steps p.tables e below (s₁.setTop (entryFrame m #[(.int p1), (.int p2), (.int p3), (.int p4), (.int p5)] maxLocals)) t := fun t kT => pre107 t (by
      exact kT)
    obtain ⟨_, _, ⟨T110, L110, k110, n110⟩, -, X110, ⟨Lc110, hQ110, l110, y110, z110⟩, st110⟩ := X82.virtualBack hx (y := (⟨"com/example/esteem/esteem/index/Postings", "freq", "(I)I"⟩ : MethodName)) (z := (⟨"com/example/esteem/esteem/index/Postings", "freq", "(I)I"⟩ : MethodName)) hown (mvT hZ (hw _ (List.mem_of_getElem? (i := 85) rfl))) (mvT hZ (hw _ (List.mem_of_getElem? (i := 86) rfl))) (notFace_of_selects (args := #[]) (mvT hZ (hw _ (List.mem_of_getElem? (i := 88) rfl)))) (mvT hZ (hw _ (List.mem_of_getElem? (i := 88) rfl))) (mvT hZ (hw _ (List.mem_of_getElem? (i := 87) rfl))) (by decide) (backOf (W := 0) (rmFQ l Z a0 hw [] r1 0 xd xs xp dc3 (0 + 1 + 1 + 1) df3 sf3 pf3 T38.heap n0 sz38 BP dc3' (by decide) (by omega)) hZ (hw _ (List.mem_of_getElem? (i := 89) rfl)) (hw _ (List.mem_of_getElem? (i := 50) rfl)) (by decide) (by decide)) q108a q108c (g := (mkF m 366 #[.val (.int p1), .val (.int p2), .val (.int p3), .val (.int p4), .val (.int p5), .val (.int n1), .val (.int n2), .val (.int dA), .val (.int qA), .val (.int dB), .val (.int qB), .val (.int dC), .val (.int qC), .val (.ref b1), .val (.ref r1), .val (.int (Int32.ofNat g1)), .val (.int (Int32.ofNat j1)), .val (.int (Int32.ofNat g2)), .val (.int (Int32.ofNat j2)), .val (.int (1 : Int32))] [(.int (0 : Int32)), (.ref r1)])) rfl (by rw [hml]; rfl) (Steps.refl _) (argsL := [(.int (0 : Int32))]) (rest := []) (lenOf pd__I_I rfl) rfl (by show 2 * 0 + _ ≤ _; exact Nat.le_of_eq rfl) (hb hby at_366) (fun _ _ => ⟨rfl, er7, (by decide : 17 + 0 ≤ _), (by decide : 61 + 0 ≤ _)⟩)
    dsimp only [Pt.U, Pt.locs, Pt.cells, Pt.slots] at X110 l110 y110 z110 st110 hQ110
    have X110 := own_st X110 (y110.trans (show _ = 17 from rfl)) (z110.trans (show _ = 61 from rfl))
    obtain ⟨rfl, N110q, er11⟩ := hQ110
    have N110 := own_fr l110 N82 N110q
    have pre111 : ∀ t, Steps p.tables e below (T110.setTop (mkF m 369 #[.val (.int p1), .val (.int p2), .val (.int p3), .val (.int p4), .val (.int p5), .val (.int n1), .val (.int n2), .val (.int dA), .val (.int qA), .val (.int dB), .val (.int qB), .val (.int dC), .val (.int qC), .val (.ref b1), .val (.ref r1), .val (.int (Int32.ofNat g1)), .val (.int (Int32.ofNat j1)), .val (.int (Int32.ofNat g2)), .val (.int (Int32.ofNat j2)), .val (.int (1 : Int32))] [(.int (sf3 (0 + 1) - sf3 0))])) t → Steps p.tables e below (s₁.setTop (entryFrame m #[(.int p1), (.int p2), (.int p3), (.int p4), (.int p5)] maxLocals)) t := fun t kT => pre109 t (st110.trans kT)
    have pre113 : ∀ t, Steps p.tables e below (T110.setTop (mkF m 382 #[.val (.int p1), .val (.int p2), .val (.int p3), .val (.int p4), .val (.int p5), .val (.int n1), .val (.int n2), .val (.int dA), .val (.int qA), .val (.int dB), .val (.int qB), .val (.int dC), .val (.int qC), .val (.ref b1), .val (.ref r1), .val (.int (Int32.ofNat g1)), .val (.int (Int32.ofNat j1)), .val (.int (Int32.ofNat g2)), .val (.int (Int32.ofNat j2)), .val (.int (1 : Int32))] [(.int n2)])) t → Steps p.tables e below (s₁.setTop (entryFrame m #[(.int p1), (.int p2), (.int p3), (.int p4), (.int p5)] maxLocals)) t := fun t kT => pre111 t (by
      show Steps p.tables e below (T110.setTop (mkF m 369 #[.val (.int p1), .val (.int p2), .val (.int p3), .val (.int p4), .val (.int p5), .val (.int n1), .val (.int n2), .val (.int dA), .val (.int qA), .val (.int dB), .val (.int qB), .val (.int dC), .val (.int qC), .val (.ref b1), .val (.ref r1), .val (.int (Int32.ofNat g1)), .val (.int (Int32.ofNat j1)), .val (.int (Int32.ofNat g2)), .val (.int (Int32.ofNat j2)), .val (.int (1 : Int32))] [(.int (sf3 (0 + 1) - sf3 0))])) _
      refine XS.iconst X110.here hx rfl (hb hby at_369) ?_
      show Steps p.tables e below (T110.setTop (mkF m 370 #[.val (.int p1), .val (.int p2), .val (.int p3), .val (.int p4), .val (.int p5), .val (.int n1), .val (.int n2), .val (.int dA), .val (.int qA), .val (.int dB), .val (.int qB), .val (.int dC), .val (.int qC), .val (.ref b1), .val (.ref r1), .val (.int (Int32.ofNat g1)), .val (.int (Int32.ofNat j1)), .val (.int (Int32.ofNat g2)), .val (.int (Int32.ofNat j2)), .val (.int (1 : Int32))] [(.int (1 : Int32)), (.int (sf3 (0 + 1) - sf3 0))])) _
      refine XS.icmpNo X110.here hx rfl (hb hby at_370) rfl (teq (x9 y1)).2 ?_
      show Steps p.tables e below (T110.setTop (mkF m 373 #[.val (.int p1), .val (.int p2), .val (.int p3), .val (.int p4), .val (.int p5), .val (.int n1), .val (.int n2), .val (.int dA), .val (.int qA), .val (.int dB), .val (.int qB), .val (.int dC), .val (.int qC), .val (.ref b1), .val (.ref r1), .val (.int (Int32.ofNat g1)), .val (.int (Int32.ofNat j1)), .val (.int (Int32.ofNat g2)), .val (.int (Int32.ofNat j2)), .val (.int (1 : Int32))] [])) _
      refine XS.iconst X110.here hx rfl (hb hby at_373) ?_
      show Steps p.tables e below (T110.setTop (mkF m 374 #[.val (.int p1), .val (.int p2), .val (.int p3), .val (.int p4), .val (.int p5), .val (.int n1), .val (.int n2), .val (.int dA), .val (.int qA), .val (.int dB), .val (.int qB), .val (.int dC), .val (.int qC), .val (.ref b1), .val (.ref r1), .val (.int (Int32.ofNat g1)), .val (.int (Int32.ofNat j1)), .val (.int (Int32.ofNat g2)), .val (.int (Int32.ofNat j2)), .val (.int (1 : Int32))] [(.int (1 : Int32))])) _
      refine XS.goto X110.here hx rfl (pc0 := 374) (pc' := 378) rfl (hb hby at_374) (by decide) (by decide) ?_
      show Steps p.tables e below (T110.setTop (mkF m 378 #[.val (.int p1), .val (.int p2), .val (.int p3), .val (.int p4), .val (.int p5), .val (.int n1), .val (.int n2), .val (.int dA), .val (.int qA), .val (.int dB), .val (.int qB), .val (.int dC), .val (.int qC), .val (.ref b1), .val (.ref r1), .val (.int (Int32.ofNat g1)), .val (.int (Int32.ofNat j1)), .val (.int (Int32.ofNat g2)), .val (.int (Int32.ofNat j2)), .val (.int (1 : Int32))] [(.int (1 : Int32))])) _
      refine XS.istore X110.here hx rfl (hb hby at_378) rfl (l' := #[.val (.int p1), .val (.int p2), .val (.int p3), .val (.int p4), .val (.int p5), .val (.int n1), .val (.int n2), .val (.int dA), .val (.int qA), .val (.int dB), .val (.int qB), .val (.int dC), .val (.int qC), .val (.ref b1), .val (.ref r1), .val (.int (Int32.ofNat g1)), .val (.int (Int32.ofNat j1)), .val (.int (Int32.ofNat g2)), .val (.int (Int32.ofNat j2)), .val (.int (1 : Int32))]) rfl ?_
      show Steps p.tables e below (T110.setTop (mkF m 380 #[.val (.int p1), .val (.int p2), .val (.int p3), .val (.int p4), .val (.int p5), .val (.int n1), .val (.int n2), .val (.int dA), .val (.int qA), .val (.int dB), .val (.int qB), .val (.int dC), .val (.int qC), .val (.ref b1), .val (.ref r1), .val (.int (Int32.ofNat g1)), .val (.int (Int32.ofNat j1)), .val (.int (Int32.ofNat g2)), .val (.int (Int32.ofNat j2)), .val (.int (1 : Int32))] [])) _
      refine XS.iload X110.here hx rfl (hb hby at_380) rfl ?_
      exact kT)
    by_cases hb112 : n2 = (0 : Int32)
    · have pre114 : ∀ t, Steps p.tables e below (T110.setTop (mkF m 420 #[.val (.int p1), .val (.int p2), .val (.int p3), .val (.int p4), .val (.int p5), .val (.int n1), .val (.int n2), .val (.int dA), .val (.int qA), .val (.int dB), .val (.int qB), .val (.int dC), .val (.int qC), .val (.ref b1), .val (.ref r1), .val (.int (Int32.ofNat g1)), .val (.int (Int32.ofNat j1)), .val (.int (Int32.ofNat g2)), .val (.int (Int32.ofNat j2)), .val (.int (1 : Int32))] [(.int (Int32.ofNat g2)), (.ref r1)])) t → Steps p.tables e below (s₁.setTop (entryFrame m #[(.int p1), (.int p2), (.int p3), (.int p4), (.int p5)] maxLocals)) t := fun t kT => pre113 t (by
        show Steps p.tables e below (T110.setTop (mkF m 382 #[.val (.int p1), .val (.int p2), .val (.int p3), .val (.int p4), .val (.int p5), .val (.int n1), .val (.int n2), .val (.int dA), .val (.int qA), .val (.int dB), .val (.int qB), .val (.int dC), .val (.int qC), .val (.ref b1), .val (.ref r1), .val (.int (Int32.ofNat g1)), .val (.int (Int32.ofNat j1)), .val (.int (Int32.ofNat g2)), .val (.int (Int32.ofNat j2)), .val (.int (1 : Int32))] [(.int n2)])) _
        refine XS.ifYes X110.here hx rfl (pc0 := 382) (pc' := 411) rfl (hb hby at_382) rfl ((if0 _ _).trans (teq hb112).1) (by decide) (by decide) ?_
        show Steps p.tables e below (T110.setTop (mkF m 411 #[.val (.int p1), .val (.int p2), .val (.int p3), .val (.int p4), .val (.int p5), .val (.int n1), .val (.int n2), .val (.int dA), .val (.int qA), .val (.int dB), .val (.int qB), .val (.int dC), .val (.int qC), .val (.ref b1), .val (.ref r1), .val (.int (Int32.ofNat g1)), .val (.int (Int32.ofNat j1)), .val (.int (Int32.ofNat g2)), .val (.int (Int32.ofNat j2)), .val (.int (1 : Int32))] [])) _
        refine XS.iload X110.here hx rfl (hb hby at_411) rfl ?_
        show Steps p.tables e below (T110.setTop (mkF m 413 #[.val (.int p1), .val (.int p2), .val (.int p3), .val (.int p4), .val (.int p5), .val (.int n1), .val (.int n2), .val (.int dA), .val (.int qA), .val (.int dB), .val (.int qB), .val (.int dC), .val (.int qC), .val (.ref b1), .val (.ref r1), .val (.int (Int32.ofNat g1)), .val (.int (Int32.ofNat j1)), .val (.int (Int32.ofNat g2)), .val (.int (Int32.ofNat j2)), .val (.int (1 : Int32))] [(.int (1 : Int32))])) _
        refine XS.ifNo X110.here hx rfl (hb hby at_413) rfl ((if0 _ _).trans (feq (by decide : ¬ ((1 : Int32) = (0 : Int32)))).1) ?_
        show Steps p.tables e below (T110.setTop (mkF m 416 #[.val (.int p1), .val (.int p2), .val (.int p3), .val (.int p4), .val (.int p5), .val (.int n1), .val (.int n2), .val (.int dA), .val (.int qA), .val (.int dB), .val (.int qB), .val (.int dC), .val (.int qC), .val (.ref b1), .val (.ref r1), .val (.int (Int32.ofNat g1)), .val (.int (Int32.ofNat j1)), .val (.int (Int32.ofNat g2)), .val (.int (Int32.ofNat j2)), .val (.int (1 : Int32))] [])) _
        refine XS.aload X110.here hx rfl (hb hby at_416) rfl rfl ?_
        show Steps p.tables e below (T110.setTop (mkF m 418 #[.val (.int p1), .val (.int p2), .val (.int p3), .val (.int p4), .val (.int p5), .val (.int n1), .val (.int n2), .val (.int dA), .val (.int qA), .val (.int dB), .val (.int qB), .val (.int dC), .val (.int qC), .val (.ref b1), .val (.ref r1), .val (.int (Int32.ofNat g1)), .val (.int (Int32.ofNat j1)), .val (.int (Int32.ofNat g2)), .val (.int (Int32.ofNat j2)), .val (.int (1 : Int32))] [(.ref r1)])) _
        refine XS.iload X110.here hx rfl (hb hby at_418) rfl ?_
        exact kT)
      obtain ⟨cI115, kI115, q115a, q115b, q115c⟩ := isOf hZ er11 BP.1.2.2.2
      have pre116 : ∀ t, Steps p.tables e below (T110.setTop (mkF m 420 #[.val (.int p1), .val (.int p2), .val (.int p3), .val (.int p4), .val (.int p5), .val (.int n1), .val (.int n2), .val (.int dA), .val (.int qA), .val (.int dB), .val (.int qB), .val (.int dC), .val (.int qC), .val (.ref b1), .val (.ref r1), .val (.int (Int32.ofNat g1)), .val (.int (Int32.ofNat j1)), .val (.int (Int32.ofNat g2)), .val (.int (Int32.ofNat j2)), .val (.int (1 : Int32))] [(.int (Int32.ofNat g2)), (.ref r1)])) t → Steps p.tables e below (s₁.setTop (entryFrame m #[(.int p1), (.int p2), (.int p3), (.int p4), (.int p5)] maxLocals)) t := fun t kT => pre114 t (by
        exact kT)
      obtain ⟨_, _, ⟨T117, L117, k117, n117⟩, -, X117, ⟨Lc117, hQ117, l117, y117, z117⟩, st117⟩ := X110.virtualBack hx (y := (⟨"com/example/esteem/esteem/index/Postings", "freq", "(I)I"⟩ : MethodName)) (z := (⟨"com/example/esteem/esteem/index/Postings", "freq", "(I)I"⟩ : MethodName)) hown (mvT hZ (hw _ (List.mem_of_getElem? (i := 85) rfl))) (mvT hZ (hw _ (List.mem_of_getElem? (i := 86) rfl))) (notFace_of_selects (args := #[]) (mvT hZ (hw _ (List.mem_of_getElem? (i := 88) rfl)))) (mvT hZ (hw _ (List.mem_of_getElem? (i := 88) rfl))) (mvT hZ (hw _ (List.mem_of_getElem? (i := 87) rfl))) (by decide) (backOf (W := 0) (rmFQ l Z a0 hw [] r1 g2 xd xs xp dc3 (0 + 1 + 1 + 1) df3 sf3 pf3 T38.heap n0 sz38 BP dc3' (by decide) (by omega)) hZ (hw _ (List.mem_of_getElem? (i := 89) rfl)) (hw _ (List.mem_of_getElem? (i := 50) rfl)) (by decide) (by decide)) q115a q115c (g := (mkF m 420 #[.val (.int p1), .val (.int p2), .val (.int p3), .val (.int p4), .val (.int p5), .val (.int n1), .val (.int n2), .val (.int dA), .val (.int qA), .val (.int dB), .val (.int qB), .val (.int dC), .val (.int qC), .val (.ref b1), .val (.ref r1), .val (.int (Int32.ofNat g1)), .val (.int (Int32.ofNat j1)), .val (.int (Int32.ofNat g2)), .val (.int (Int32.ofNat j2)), .val (.int (1 : Int32))] [(.int (Int32.ofNat g2)), (.ref r1)])) rfl (by rw [hml]; rfl) (Steps.refl _) (argsL := [(.int (Int32.ofNat g2))]) (rest := []) (lenOf pd__I_I rfl) rfl (by show 2 * 0 + _ ≤ _; exact Nat.le_of_eq rfl) (hb hby at_420) (fun _ _ => ⟨rfl, er11, (by decide : 17 + 0 ≤ _), (by decide : 61 + 0 ≤ _)⟩)
      dsimp only [Pt.U, Pt.locs, Pt.cells, Pt.slots] at X117 l117 y117 z117 st117 hQ117
      have X117 := own_st X117 (y117.trans (show _ = 17 from rfl)) (z117.trans (show _ = 61 from rfl))
      obtain ⟨rfl, N117q, er12⟩ := hQ117
      have N117 := own_fr l117 N110 N117q
      have pre118 : ∀ t, Steps p.tables e below (T117.setTop (mkF m 423 #[.val (.int p1), .val (.int p2), .val (.int p3), .val (.int p4), .val (.int p5), .val (.int n1), .val (.int n2), .val (.int dA), .val (.int qA), .val (.int dB), .val (.int qB), .val (.int dC), .val (.int qC), .val (.ref b1), .val (.ref r1), .val (.int (Int32.ofNat g1)), .val (.int (Int32.ofNat j1)), .val (.int (Int32.ofNat g2)), .val (.int (Int32.ofNat j2)), .val (.int (1 : Int32))] [(.int (sf3 (g2 + 1) - sf3 g2))])) t → Steps p.tables e below (s₁.setTop (entryFrame m #[(.int p1), (.int p2), (.int p3), (.int p4), (.int p5)] maxLocals)) t := fun t kT => pre116 t (st117.trans kT)
      have pre119 : ∀ t, Steps p.tables e below (T117.setTop (mkF m 427 #[.val (.int p1), .val (.int p2), .val (.int p3), .val (.int p4), .val (.int p5), .val (.int n1), .val (.int n2), .val (.int dA), .val (.int qA), .val (.int dB), .val (.int qB), .val (.int dC), .val (.int qC), .val (.ref b1), .val (.ref r1), .val (.int (Int32.ofNat g1)), .val (.int (Int32.ofNat j1)), .val (.int (Int32.ofNat g2)), .val (.int (Int32.ofNat j2)), .val (.int (1 : Int32))] [(.int ((Int32.ofNat j2) + (1 : Int32))), (.int (sf3 (g2 + 1) - sf3 g2))])) t → Steps p.tables e below (s₁.setTop (entryFrame m #[(.int p1), (.int p2), (.int p3), (.int p4), (.int p5)] maxLocals)) t := fun t kT => pre118 t (by
        show Steps p.tables e below (T117.setTop (mkF m 423 #[.val (.int p1), .val (.int p2), .val (.int p3), .val (.int p4), .val (.int p5), .val (.int n1), .val (.int n2), .val (.int dA), .val (.int qA), .val (.int dB), .val (.int qB), .val (.int dC), .val (.int qC), .val (.ref b1), .val (.ref r1), .val (.int (Int32.ofNat g1)), .val (.int (Int32.ofNat j1)), .val (.int (Int32.ofNat g2)), .val (.int (Int32.ofNat j2)), .val (.int (1 : Int32))] [(.int (sf3 (g2 + 1) - sf3 g2))])) _
        refine XS.iload X117.here hx rfl (hb hby at_423) rfl ?_
        show Steps p.tables e below (T117.setTop (mkF m 425 #[.val (.int p1), .val (.int p2), .val (.int p3), .val (.int p4), .val (.int p5), .val (.int n1), .val (.int n2), .val (.int dA), .val (.int qA), .val (.int dB), .val (.int qB), .val (.int dC), .val (.int qC), .val (.ref b1), .val (.ref r1), .val (.int (Int32.ofNat g1)), .val (.int (Int32.ofNat j1)), .val (.int (Int32.ofNat g2)), .val (.int (Int32.ofNat j2)), .val (.int (1 : Int32))] [(.int (Int32.ofNat j2)), (.int (sf3 (g2 + 1) - sf3 g2))])) _
        refine XS.iconst X117.here hx rfl (hb hby at_425) ?_
        show Steps p.tables e below (T117.setTop (mkF m 426 #[.val (.int p1), .val (.int p2), .val (.int p3), .val (.int p4), .val (.int p5), .val (.int n1), .val (.int n2), .val (.int dA), .val (.int qA), .val (.int dB), .val (.int qB), .val (.int dC), .val (.int qC), .val (.ref b1), .val (.ref r1), .val (.int (Int32.ofNat g1)), .val (.int (Int32.ofNat j1)), .val (.int (Int32.ofNat g2)), .val (.int (Int32.ofNat j2)), .val (.int (1 : Int32))] [(.int (1 : Int32)), (.int (Int32.ofNat j2)), (.int (sf3 (g2 + 1) - sf3 g2))])) _
        refine XS.iadd X117.here hx rfl (hb hby at_426) rfl ?_
        exact kT)
      rw [own_one] at pre119
      have pre120 : ∀ t, Steps p.tables e below (T117.setTop (mkF m 439 #[.val (.int p1), .val (.int p2), .val (.int p3), .val (.int p4), .val (.int p5), .val (.int n1), .val (.int n2), .val (.int dA), .val (.int qA), .val (.int dB), .val (.int qB), .val (.int dC), .val (.int qC), .val (.ref b1), .val (.ref r1), .val (.int (Int32.ofNat g1)), .val (.int (Int32.ofNat j1)), .val (.int (Int32.ofNat g2)), .val (.int (Int32.ofNat j2)), .val (.int (1 : Int32))] [(.int (1 : Int32))])) t → Steps p.tables e below (s₁.setTop (entryFrame m #[(.int p1), (.int p2), (.int p3), (.int p4), (.int p5)] maxLocals)) t := fun t kT => pre119 t (by
        show Steps p.tables e below (T117.setTop (mkF m 427 #[.val (.int p1), .val (.int p2), .val (.int p3), .val (.int p4), .val (.int p5), .val (.int n1), .val (.int n2), .val (.int dA), .val (.int qA), .val (.int dB), .val (.int qB), .val (.int dC), .val (.int qC), .val (.ref b1), .val (.ref r1), .val (.int (Int32.ofNat g1)), .val (.int (Int32.ofNat j1)), .val (.int (Int32.ofNat g2)), .val (.int (Int32.ofNat j2)), .val (.int (1 : Int32))] [(.int (Int32.ofNat (j2 + 1))), (.int (sf3 (g2 + 1) - sf3 g2))])) _
        refine XS.icmpNo X117.here hx rfl (hb hby at_427) rfl (teq xb).2 ?_
        show Steps p.tables e below (T117.setTop (mkF m 430 #[.val (.int p1), .val (.int p2), .val (.int p3), .val (.int p4), .val (.int p5), .val (.int n1), .val (.int n2), .val (.int dA), .val (.int qA), .val (.int dB), .val (.int qB), .val (.int dC), .val (.int qC), .val (.ref b1), .val (.ref r1), .val (.int (Int32.ofNat g1)), .val (.int (Int32.ofNat j1)), .val (.int (Int32.ofNat g2)), .val (.int (Int32.ofNat j2)), .val (.int (1 : Int32))] [])) _
        refine XS.iconst X117.here hx rfl (hb hby at_430) ?_
        show Steps p.tables e below (T117.setTop (mkF m 431 #[.val (.int p1), .val (.int p2), .val (.int p3), .val (.int p4), .val (.int p5), .val (.int n1), .val (.int n2), .val (.int dA), .val (.int qA), .val (.int dB), .val (.int qB), .val (.int dC), .val (.int qC), .val (.ref b1), .val (.ref r1), .val (.int (Int32.ofNat g1)), .val (.int (Int32.ofNat j1)), .val (.int (Int32.ofNat g2)), .val (.int (Int32.ofNat j2)), .val (.int (1 : Int32))] [(.int (1 : Int32))])) _
        refine XS.goto X117.here hx rfl (pc0 := 431) (pc' := 435) rfl (hb hby at_431) (by decide) (by decide) ?_
        show Steps p.tables e below (T117.setTop (mkF m 435 #[.val (.int p1), .val (.int p2), .val (.int p3), .val (.int p4), .val (.int p5), .val (.int n1), .val (.int n2), .val (.int dA), .val (.int qA), .val (.int dB), .val (.int qB), .val (.int dC), .val (.int qC), .val (.ref b1), .val (.ref r1), .val (.int (Int32.ofNat g1)), .val (.int (Int32.ofNat j1)), .val (.int (Int32.ofNat g2)), .val (.int (Int32.ofNat j2)), .val (.int (1 : Int32))] [(.int (1 : Int32))])) _
        refine XS.istore X117.here hx rfl (hb hby at_435) rfl (l' := #[.val (.int p1), .val (.int p2), .val (.int p3), .val (.int p4), .val (.int p5), .val (.int n1), .val (.int n2), .val (.int dA), .val (.int qA), .val (.int dB), .val (.int qB), .val (.int dC), .val (.int qC), .val (.ref b1), .val (.ref r1), .val (.int (Int32.ofNat g1)), .val (.int (Int32.ofNat j1)), .val (.int (Int32.ofNat g2)), .val (.int (Int32.ofNat j2)), .val (.int (1 : Int32))]) rfl ?_
        show Steps p.tables e below (T117.setTop (mkF m 437 #[.val (.int p1), .val (.int p2), .val (.int p3), .val (.int p4), .val (.int p5), .val (.int n1), .val (.int n2), .val (.int dA), .val (.int qA), .val (.int dB), .val (.int qB), .val (.int dC), .val (.int qC), .val (.ref b1), .val (.ref r1), .val (.int (Int32.ofNat g1)), .val (.int (Int32.ofNat j1)), .val (.int (Int32.ofNat g2)), .val (.int (Int32.ofNat j2)), .val (.int (1 : Int32))] [])) _
        refine XS.iload X117.here hx rfl (hb hby at_437) rfl ?_
        exact kT)
      obtain ⟨fs, hr, hrun, hended, hW, hsame⟩ := X117.leave (v := some (.int (1 : Int32))) (fun h => by rw [Bd.returns] at h; cases h)
      refine ⟨_, _, pre120 _ ?_, hrun, hended, _, _, rfl, ?_, ⟨_, rfl⟩, hW, hsame.mono (by decide) (by decide)⟩
      · exact retN X117 hx (t := .boolean) Bd.returns (by simp) (hb hby at_439) hr
      · exact ⟨rfl, N117⟩
    · have y2 := z2.resolve_left hb112
      have pre121 : ∀ t, Steps p.tables e below (T110.setTop (mkF m 394 #[.val (.int p1), .val (.int p2), .val (.int p3), .val (.int p4), .val (.int p5), .val (.int n1), .val (.int n2), .val (.int dA), .val (.int qA), .val (.int dB), .val (.int qB), .val (.int dC), .val (.int qC), .val (.ref b1), .val (.ref r1), .val (.int (Int32.ofNat g1)), .val (.int (Int32.ofNat j1)), .val (.int (Int32.ofNat g2)), .val (.int (Int32.ofNat j2)), .val (.int (1 : Int32))] [(.int (Int32.ofNat g1)), (.ref r1)])) t → Steps p.tables e below (s₁.setTop (entryFrame m #[(.int p1), (.int p2), (.int p3), (.int p4), (.int p5)] maxLocals)) t := fun t kT => pre113 t (by
        show Steps p.tables e below (T110.setTop (mkF m 382 #[.val (.int p1), .val (.int p2), .val (.int p3), .val (.int p4), .val (.int p5), .val (.int n1), .val (.int n2), .val (.int dA), .val (.int qA), .val (.int dB), .val (.int qB), .val (.int dC), .val (.int qC), .val (.ref b1), .val (.ref r1), .val (.int (Int32.ofNat g1)), .val (.int (Int32.ofNat j1)), .val (.int (Int32.ofNat g2)), .val (.int (Int32.ofNat j2)), .val (.int (1 : Int32))] [(.int n2)])) _
        refine XS.ifNo X110.here hx rfl (hb hby at_382) rfl ((if0 _ _).trans (feq hb112).1) ?_
        show Steps p.tables e below (T110.setTop (mkF m 385 #[.val (.int p1), .val (.int p2), .val (.int p3), .val (.int p4), .val (.int p5), .val (.int n1), .val (.int n2), .val (.int dA), .val (.int qA), .val (.int dB), .val (.int qB), .val (.int dC), .val (.int qC), .val (.ref b1), .val (.ref r1), .val (.int (Int32.ofNat g1)), .val (.int (Int32.ofNat j1)), .val (.int (Int32.ofNat g2)), .val (.int (Int32.ofNat j2)), .val (.int (1 : Int32))] [])) _
        refine XS.iload X110.here hx rfl (hb hby at_385) rfl ?_
        show Steps p.tables e below (T110.setTop (mkF m 387 #[.val (.int p1), .val (.int p2), .val (.int p3), .val (.int p4), .val (.int p5), .val (.int n1), .val (.int n2), .val (.int dA), .val (.int qA), .val (.int dB), .val (.int qB), .val (.int dC), .val (.int qC), .val (.ref b1), .val (.ref r1), .val (.int (Int32.ofNat g1)), .val (.int (Int32.ofNat j1)), .val (.int (Int32.ofNat g2)), .val (.int (Int32.ofNat j2)), .val (.int (1 : Int32))] [(.int (1 : Int32))])) _
        refine XS.ifNo X110.here hx rfl (hb hby at_387) rfl ((if0 _ _).trans (feq (by decide : ¬ ((1 : Int32) = (0 : Int32)))).1) ?_
        show Steps p.tables e below (T110.setTop (mkF m 390 #[.val (.int p1), .val (.int p2), .val (.int p3), .val (.int p4), .val (.int p5), .val (.int n1), .val (.int n2), .val (.int dA), .val (.int qA), .val (.int dB), .val (.int qB), .val (.int dC), .val (.int qC), .val (.ref b1), .val (.ref r1), .val (.int (Int32.ofNat g1)), .val (.int (Int32.ofNat j1)), .val (.int (Int32.ofNat g2)), .val (.int (Int32.ofNat j2)), .val (.int (1 : Int32))] [])) _
        refine XS.aload X110.here hx rfl (hb hby at_390) rfl rfl ?_
        show Steps p.tables e below (T110.setTop (mkF m 392 #[.val (.int p1), .val (.int p2), .val (.int p3), .val (.int p4), .val (.int p5), .val (.int n1), .val (.int n2), .val (.int dA), .val (.int qA), .val (.int dB), .val (.int qB), .val (.int dC), .val (.int qC), .val (.ref b1), .val (.ref r1), .val (.int (Int32.ofNat g1)), .val (.int (Int32.ofNat j1)), .val (.int (Int32.ofNat g2)), .val (.int (Int32.ofNat j2)), .val (.int (1 : Int32))] [(.ref r1)])) _
        refine XS.iload X110.here hx rfl (hb hby at_392) rfl ?_
        exact kT)
      obtain ⟨cI122, kI122, q122a, q122b, q122c⟩ := isOf hZ er11 BP.1.2.2.2
      have pre123 : ∀ t, Steps p.tables e below (T110.setTop (mkF m 394 #[.val (.int p1), .val (.int p2), .val (.int p3), .val (.int p4), .val (.int p5), .val (.int n1), .val (.int n2), .val (.int dA), .val (.int qA), .val (.int dB), .val (.int qB), .val (.int dC), .val (.int qC), .val (.ref b1), .val (.ref r1), .val (.int (Int32.ofNat g1)), .val (.int (Int32.ofNat j1)), .val (.int (Int32.ofNat g2)), .val (.int (Int32.ofNat j2)), .val (.int (1 : Int32))] [(.int (Int32.ofNat g1)), (.ref r1)])) t → Steps p.tables e below (s₁.setTop (entryFrame m #[(.int p1), (.int p2), (.int p3), (.int p4), (.int p5)] maxLocals)) t := fun t kT => pre121 t (by
        exact kT)
      obtain ⟨_, _, ⟨T124, L124, k124, n124⟩, -, X124, ⟨Lc124, hQ124, l124, y124, z124⟩, st124⟩ := X110.virtualBack hx (y := (⟨"com/example/esteem/esteem/index/Postings", "freq", "(I)I"⟩ : MethodName)) (z := (⟨"com/example/esteem/esteem/index/Postings", "freq", "(I)I"⟩ : MethodName)) hown (mvT hZ (hw _ (List.mem_of_getElem? (i := 85) rfl))) (mvT hZ (hw _ (List.mem_of_getElem? (i := 86) rfl))) (notFace_of_selects (args := #[]) (mvT hZ (hw _ (List.mem_of_getElem? (i := 88) rfl)))) (mvT hZ (hw _ (List.mem_of_getElem? (i := 88) rfl))) (mvT hZ (hw _ (List.mem_of_getElem? (i := 87) rfl))) (by decide) (backOf (W := 0) (rmFQ l Z a0 hw [] r1 g1 xd xs xp dc3 (0 + 1 + 1 + 1) df3 sf3 pf3 T38.heap n0 sz38 BP dc3' (by decide) x4) hZ (hw _ (List.mem_of_getElem? (i := 89) rfl)) (hw _ (List.mem_of_getElem? (i := 50) rfl)) (by decide) (by decide)) q122a q122c (g := (mkF m 394 #[.val (.int p1), .val (.int p2), .val (.int p3), .val (.int p4), .val (.int p5), .val (.int n1), .val (.int n2), .val (.int dA), .val (.int qA), .val (.int dB), .val (.int qB), .val (.int dC), .val (.int qC), .val (.ref b1), .val (.ref r1), .val (.int (Int32.ofNat g1)), .val (.int (Int32.ofNat j1)), .val (.int (Int32.ofNat g2)), .val (.int (Int32.ofNat j2)), .val (.int (1 : Int32))] [(.int (Int32.ofNat g1)), (.ref r1)])) rfl (by rw [hml]; rfl) (Steps.refl _) (argsL := [(.int (Int32.ofNat g1))]) (rest := []) (lenOf pd__I_I rfl) rfl (by show 2 * 0 + _ ≤ _; exact Nat.le_of_eq rfl) (hb hby at_394) (fun _ _ => ⟨rfl, er11, (by decide : 17 + 0 ≤ _), (by decide : 61 + 0 ≤ _)⟩)
      dsimp only [Pt.U, Pt.locs, Pt.cells, Pt.slots] at X124 l124 y124 z124 st124 hQ124
      have X124 := own_st X124 (y124.trans (show _ = 17 from rfl)) (z124.trans (show _ = 61 from rfl))
      obtain ⟨rfl, N124q, er13⟩ := hQ124
      have N124 := own_fr l124 N110 N124q
      have pre125 : ∀ t, Steps p.tables e below (T124.setTop (mkF m 397 #[.val (.int p1), .val (.int p2), .val (.int p3), .val (.int p4), .val (.int p5), .val (.int n1), .val (.int n2), .val (.int dA), .val (.int qA), .val (.int dB), .val (.int qB), .val (.int dC), .val (.int qC), .val (.ref b1), .val (.ref r1), .val (.int (Int32.ofNat g1)), .val (.int (Int32.ofNat j1)), .val (.int (Int32.ofNat g2)), .val (.int (Int32.ofNat j2)), .val (.int (1 : Int32))] [(.int (sf3 (g1 + 1) - sf3 g1))])) t → Steps p.tables e below (s₁.setTop (entryFrame m #[(.int p1), (.int p2), (.int p3), (.int p4), (.int p5)] maxLocals)) t := fun t kT => pre123 t (st124.trans kT)
      have pre126 : ∀ t, Steps p.tables e below (T124.setTop (mkF m 401 #[.val (.int p1), .val (.int p2), .val (.int p3), .val (.int p4), .val (.int p5), .val (.int n1), .val (.int n2), .val (.int dA), .val (.int qA), .val (.int dB), .val (.int qB), .val (.int dC), .val (.int qC), .val (.ref b1), .val (.ref r1), .val (.int (Int32.ofNat g1)), .val (.int (Int32.ofNat j1)), .val (.int (Int32.ofNat g2)), .val (.int (Int32.ofNat j2)), .val (.int (1 : Int32))] [(.int ((Int32.ofNat j1) + (1 : Int32))), (.int (sf3 (g1 + 1) - sf3 g1))])) t → Steps p.tables e below (s₁.setTop (entryFrame m #[(.int p1), (.int p2), (.int p3), (.int p4), (.int p5)] maxLocals)) t := fun t kT => pre125 t (by
        show Steps p.tables e below (T124.setTop (mkF m 397 #[.val (.int p1), .val (.int p2), .val (.int p3), .val (.int p4), .val (.int p5), .val (.int n1), .val (.int n2), .val (.int dA), .val (.int qA), .val (.int dB), .val (.int qB), .val (.int dC), .val (.int qC), .val (.ref b1), .val (.ref r1), .val (.int (Int32.ofNat g1)), .val (.int (Int32.ofNat j1)), .val (.int (Int32.ofNat g2)), .val (.int (Int32.ofNat j2)), .val (.int (1 : Int32))] [(.int (sf3 (g1 + 1) - sf3 g1))])) _
        refine XS.iload X124.here hx rfl (hb hby at_397) rfl ?_
        show Steps p.tables e below (T124.setTop (mkF m 399 #[.val (.int p1), .val (.int p2), .val (.int p3), .val (.int p4), .val (.int p5), .val (.int n1), .val (.int n2), .val (.int dA), .val (.int qA), .val (.int dB), .val (.int qB), .val (.int dC), .val (.int qC), .val (.ref b1), .val (.ref r1), .val (.int (Int32.ofNat g1)), .val (.int (Int32.ofNat j1)), .val (.int (Int32.ofNat g2)), .val (.int (Int32.ofNat j2)), .val (.int (1 : Int32))] [(.int (Int32.ofNat j1)), (.int (sf3 (g1 + 1) - sf3 g1))])) _
        refine XS.iconst X124.here hx rfl (hb hby at_399) ?_
        show Steps p.tables e below (T124.setTop (mkF m 400 #[.val (.int p1), .val (.int p2), .val (.int p3), .val (.int p4), .val (.int p5), .val (.int n1), .val (.int n2), .val (.int dA), .val (.int qA), .val (.int dB), .val (.int qB), .val (.int dC), .val (.int qC), .val (.ref b1), .val (.ref r1), .val (.int (Int32.ofNat g1)), .val (.int (Int32.ofNat j1)), .val (.int (Int32.ofNat g2)), .val (.int (Int32.ofNat j2)), .val (.int (1 : Int32))] [(.int (1 : Int32)), (.int (Int32.ofNat j1)), (.int (sf3 (g1 + 1) - sf3 g1))])) _
        refine XS.iadd X124.here hx rfl (hb hby at_400) rfl ?_
        exact kT)
      rw [own_one] at pre126
      have pre127 : ∀ t, Steps p.tables e below (T124.setTop (mkF m 420 #[.val (.int p1), .val (.int p2), .val (.int p3), .val (.int p4), .val (.int p5), .val (.int n1), .val (.int n2), .val (.int dA), .val (.int qA), .val (.int dB), .val (.int qB), .val (.int dC), .val (.int qC), .val (.ref b1), .val (.ref r1), .val (.int (Int32.ofNat g1)), .val (.int (Int32.ofNat j1)), .val (.int (Int32.ofNat g2)), .val (.int (Int32.ofNat j2)), .val (.int (1 : Int32))] [(.int (Int32.ofNat g2)), (.ref r1)])) t → Steps p.tables e below (s₁.setTop (entryFrame m #[(.int p1), (.int p2), (.int p3), (.int p4), (.int p5)] maxLocals)) t := fun t kT => pre126 t (by
        show Steps p.tables e below (T124.setTop (mkF m 401 #[.val (.int p1), .val (.int p2), .val (.int p3), .val (.int p4), .val (.int p5), .val (.int n1), .val (.int n2), .val (.int dA), .val (.int qA), .val (.int dB), .val (.int qB), .val (.int dC), .val (.int qC), .val (.ref b1), .val (.ref r1), .val (.int (Int32.ofNat g1)), .val (.int (Int32.ofNat j1)), .val (.int (Int32.ofNat g2)), .val (.int (Int32.ofNat j2)), .val (.int (1 : Int32))] [(.int (Int32.ofNat (j1 + 1))), (.int (sf3 (g1 + 1) - sf3 g1))])) _
        refine XS.icmpNo X124.here hx rfl (hb hby at_401) rfl (teq (xa y2)).2 ?_
        show Steps p.tables e below (T124.setTop (mkF m 404 #[.val (.int p1), .val (.int p2), .val (.int p3), .val (.int p4), .val (.int p5), .val (.int n1), .val (.int n2), .val (.int dA), .val (.int qA), .val (.int dB), .val (.int qB), .val (.int dC), .val (.int qC), .val (.ref b1), .val (.ref r1), .val (.int (Int32.ofNat g1)), .val (.int (Int32.ofNat j1)), .val (.int (Int32.ofNat g2)), .val (.int (Int32.ofNat j2)), .val (.int (1 : Int32))] [])) _
        refine XS.iconst X124.here hx rfl (hb hby at_404) ?_
        show Steps p.tables e below (T124.setTop (mkF m 405 #[.val (.int p1), .val (.int p2), .val (.int p3), .val (.int p4), .val (.int p5), .val (.int n1), .val (.int n2), .val (.int dA), .val (.int qA), .val (.int dB), .val (.int qB), .val (.int dC), .val (.int qC), .val (.ref b1), .val (.ref r1), .val (.int (Int32.ofNat g1)), .val (.int (Int32.ofNat j1)), .val (.int (Int32.ofNat g2)), .val (.int (Int32.ofNat j2)), .val (.int (1 : Int32))] [(.int (1 : Int32))])) _
        refine XS.goto X124.here hx rfl (pc0 := 405) (pc' := 409) rfl (hb hby at_405) (by decide) (by decide) ?_
        show Steps p.tables e below (T124.setTop (mkF m 409 #[.val (.int p1), .val (.int p2), .val (.int p3), .val (.int p4), .val (.int p5), .val (.int n1), .val (.int n2), .val (.int dA), .val (.int qA), .val (.int dB), .val (.int qB), .val (.int dC), .val (.int qC), .val (.ref b1), .val (.ref r1), .val (.int (Int32.ofNat g1)), .val (.int (Int32.ofNat j1)), .val (.int (Int32.ofNat g2)), .val (.int (Int32.ofNat j2)), .val (.int (1 : Int32))] [(.int (1 : Int32))])) _
        refine XS.istore X124.here hx rfl (hb hby at_409) rfl (l' := #[.val (.int p1), .val (.int p2), .val (.int p3), .val (.int p4), .val (.int p5), .val (.int n1), .val (.int n2), .val (.int dA), .val (.int qA), .val (.int dB), .val (.int qB), .val (.int dC), .val (.int qC), .val (.ref b1), .val (.ref r1), .val (.int (Int32.ofNat g1)), .val (.int (Int32.ofNat j1)), .val (.int (Int32.ofNat g2)), .val (.int (Int32.ofNat j2)), .val (.int (1 : Int32))]) rfl ?_
        show Steps p.tables e below (T124.setTop (mkF m 411 #[.val (.int p1), .val (.int p2), .val (.int p3), .val (.int p4), .val (.int p5), .val (.int n1), .val (.int n2), .val (.int dA), .val (.int qA), .val (.int dB), .val (.int qB), .val (.int dC), .val (.int qC), .val (.ref b1), .val (.ref r1), .val (.int (Int32.ofNat g1)), .val (.int (Int32.ofNat j1)), .val (.int (Int32.ofNat g2)), .val (.int (Int32.ofNat j2)), .val (.int (1 : Int32))] [])) _
        refine XS.iload X124.here hx rfl (hb hby at_411) rfl ?_
        show Steps p.tables e below (T124.setTop (mkF m 413 #[.val (.int p1), .val (.int p2), .val (.int p3), .val (.int p4), .val (.int p5), .val (.int n1), .val (.int n2), .val (.int dA), .val (.int qA), .val (.int dB), .val (.int qB), .val (.int dC), .val (.int qC), .val (.ref b1), .val (.ref r1), .val (.int (Int32.ofNat g1)), .val (.int (Int32.ofNat j1)), .val (.int (Int32.ofNat g2)), .val (.int (Int32.ofNat j2)), .val (.int (1 : Int32))] [(.int (1 : Int32))])) _
        refine XS.ifNo X124.here hx rfl (hb hby at_413) rfl ((if0 _ _).trans (feq (by decide : ¬ ((1 : Int32) = (0 : Int32)))).1) ?_
        show Steps p.tables e below (T124.setTop (mkF m 416 #[.val (.int p1), .val (.int p2), .val (.int p3), .val (.int p4), .val (.int p5), .val (.int n1), .val (.int n2), .val (.int dA), .val (.int qA), .val (.int dB), .val (.int qB), .val (.int dC), .val (.int qC), .val (.ref b1), .val (.ref r1), .val (.int (Int32.ofNat g1)), .val (.int (Int32.ofNat j1)), .val (.int (Int32.ofNat g2)), .val (.int (Int32.ofNat j2)), .val (.int (1 : Int32))] [])) _
        refine XS.aload X124.here hx rfl (hb hby at_416) rfl rfl ?_
        show Steps p.tables e below (T124.setTop (mkF m 418 #[.val (.int p1), .val (.int p2), .val (.int p3), .val (.int p4), .val (.int p5), .val (.int n1), .val (.int n2), .val (.int dA), .val (.int qA), .val (.int dB), .val (.int qB), .val (.int dC), .val (.int qC), .val (.ref b1), .val (.ref r1), .val (.int (Int32.ofNat g1)), .val (.int (Int32.ofNat j1)), .val (.int (Int32.ofNat g2)), .val (.int (Int32.ofNat j2)), .val (.int (1 : Int32))] [(.ref r1)])) _
        refine XS.iload X124.here hx rfl (hb hby at_418) rfl ?_
        exact kT)
      obtain ⟨cI128, kI128, q128a, q128b, q128c⟩ := isOf hZ er13 BP.1.2.2.2
      have pre129 : ∀ t, Steps p.tables e below (T124.setTop (mkF m 420 #[.val (.int p1), .val (.int p2), .val (.int p3), .val (.int p4), .val (.int p5), .val (.int n1), .val (.int n2), .val (.int dA), .val (.int qA), .val (.int dB), .val (.int qB), .val (.int dC), .val (.int qC), .val (.ref b1), .val (.ref r1), .val (.int (Int32.ofNat g1)), .val (.int (Int32.ofNat j1)), .val (.int (Int32.ofNat g2)), .val (.int (Int32.ofNat j2)), .val (.int (1 : Int32))] [(.int (Int32.ofNat g2)), (.ref r1)])) t → Steps p.tables e below (s₁.setTop (entryFrame m #[(.int p1), (.int p2), (.int p3), (.int p4), (.int p5)] maxLocals)) t := fun t kT => pre127 t (by
        exact kT)
      obtain ⟨_, _, ⟨T130, L130, k130, n130⟩, -, X130, ⟨Lc130, hQ130, l130, y130, z130⟩, st130⟩ := X124.virtualBack hx (y := (⟨"com/example/esteem/esteem/index/Postings", "freq", "(I)I"⟩ : MethodName)) (z := (⟨"com/example/esteem/esteem/index/Postings", "freq", "(I)I"⟩ : MethodName)) hown (mvT hZ (hw _ (List.mem_of_getElem? (i := 85) rfl))) (mvT hZ (hw _ (List.mem_of_getElem? (i := 86) rfl))) (notFace_of_selects (args := #[]) (mvT hZ (hw _ (List.mem_of_getElem? (i := 88) rfl)))) (mvT hZ (hw _ (List.mem_of_getElem? (i := 88) rfl))) (mvT hZ (hw _ (List.mem_of_getElem? (i := 87) rfl))) (by decide) (backOf (W := 0) (rmFQ l Z a0 hw [] r1 g2 xd xs xp dc3 (0 + 1 + 1 + 1) df3 sf3 pf3 T38.heap n0 sz38 BP dc3' (by decide) (by omega)) hZ (hw _ (List.mem_of_getElem? (i := 89) rfl)) (hw _ (List.mem_of_getElem? (i := 50) rfl)) (by decide) (by decide)) q128a q128c (g := (mkF m 420 #[.val (.int p1), .val (.int p2), .val (.int p3), .val (.int p4), .val (.int p5), .val (.int n1), .val (.int n2), .val (.int dA), .val (.int qA), .val (.int dB), .val (.int qB), .val (.int dC), .val (.int qC), .val (.ref b1), .val (.ref r1), .val (.int (Int32.ofNat g1)), .val (.int (Int32.ofNat j1)), .val (.int (Int32.ofNat g2)), .val (.int (Int32.ofNat j2)), .val (.int (1 : Int32))] [(.int (Int32.ofNat g2)), (.ref r1)])) rfl (by rw [hml]; rfl) (Steps.refl _) (argsL := [(.int (Int32.ofNat g2))]) (rest := []) (lenOf pd__I_I rfl) rfl (by show 2 * 0 + _ ≤ _; exact Nat.le_of_eq rfl) (hb hby at_420) (fun _ _ => ⟨rfl, er13, (by decide : 17 + 0 ≤ _), (by decide : 61 + 0 ≤ _)⟩)
      dsimp only [Pt.U, Pt.locs, Pt.cells, Pt.slots] at X130 l130 y130 z130 st130 hQ130
      have X130 := own_st X130 (y130.trans (show _ = 17 from rfl)) (z130.trans (show _ = 61 from rfl))
      obtain ⟨rfl, N130q, er14⟩ := hQ130
      have N130 := own_fr l130 N124 N130q
      have pre131 : ∀ t, Steps p.tables e below (T130.setTop (mkF m 423 #[.val (.int p1), .val (.int p2), .val (.int p3), .val (.int p4), .val (.int p5), .val (.int n1), .val (.int n2), .val (.int dA), .val (.int qA), .val (.int dB), .val (.int qB), .val (.int dC), .val (.int qC), .val (.ref b1), .val (.ref r1), .val (.int (Int32.ofNat g1)), .val (.int (Int32.ofNat j1)), .val (.int (Int32.ofNat g2)), .val (.int (Int32.ofNat j2)), .val (.int (1 : Int32))] [(.int (sf3 (g2 + 1) - sf3 g2))])) t → Steps p.tables e below (s₁.setTop (entryFrame m #[(.int p1), (.int p2), (.int p3), (.int p4), (.int p5)] maxLocals)) t := fun t kT => pre129 t (st130.trans kT)
      have pre132 : ∀ t, Steps p.tables e below (T130.setTop (mkF m 427 #[.val (.int p1), .val (.int p2), .val (.int p3), .val (.int p4), .val (.int p5), .val (.int n1), .val (.int n2), .val (.int dA), .val (.int qA), .val (.int dB), .val (.int qB), .val (.int dC), .val (.int qC), .val (.ref b1), .val (.ref r1), .val (.int (Int32.ofNat g1)), .val (.int (Int32.ofNat j1)), .val (.int (Int32.ofNat g2)), .val (.int (Int32.ofNat j2)), .val (.int (1 : Int32))] [(.int ((Int32.ofNat j2) + (1 : Int32))), (.int (sf3 (g2 + 1) - sf3 g2))])) t → Steps p.tables e below (s₁.setTop (entryFrame m #[(.int p1), (.int p2), (.int p3), (.int p4), (.int p5)] maxLocals)) t := fun t kT => pre131 t (by
        show Steps p.tables e below (T130.setTop (mkF m 423 #[.val (.int p1), .val (.int p2), .val (.int p3), .val (.int p4), .val (.int p5), .val (.int n1), .val (.int n2), .val (.int dA), .val (.int qA), .val (.int dB), .val (.int qB), .val (.int dC), .val (.int qC), .val (.ref b1), .val (.ref r1), .val (.int (Int32.ofNat g1)), .val (.int (Int32.ofNat j1)), .val (.int (Int32.ofNat g2)), .val (.int (Int32.ofNat j2)), .val (.int (1 : Int32))] [(.int (sf3 (g2 + 1) - sf3 g2))])) _
        refine XS.iload X130.here hx rfl (hb hby at_423) rfl ?_
        show Steps p.tables e below (T130.setTop (mkF m 425 #[.val (.int p1), .val (.int p2), .val (.int p3), .val (.int p4), .val (.int p5), .val (.int n1), .val (.int n2), .val (.int dA), .val (.int qA), .val (.int dB), .val (.int qB), .val (.int dC), .val (.int qC), .val (.ref b1), .val (.ref r1), .val (.int (Int32.ofNat g1)), .val (.int (Int32.ofNat j1)), .val (.int (Int32.ofNat g2)), .val (.int (Int32.ofNat j2)), .val (.int (1 : Int32))] [(.int (Int32.ofNat j2)), (.int (sf3 (g2 + 1) - sf3 g2))])) _
        refine XS.iconst X130.here hx rfl (hb hby at_425) ?_
        show Steps p.tables e below (T130.setTop (mkF m 426 #[.val (.int p1), .val (.int p2), .val (.int p3), .val (.int p4), .val (.int p5), .val (.int n1), .val (.int n2), .val (.int dA), .val (.int qA), .val (.int dB), .val (.int qB), .val (.int dC), .val (.int qC), .val (.ref b1), .val (.ref r1), .val (.int (Int32.ofNat g1)), .val (.int (Int32.ofNat j1)), .val (.int (Int32.ofNat g2)), .val (.int (Int32.ofNat j2)), .val (.int (1 : Int32))] [(.int (1 : Int32)), (.int (Int32.ofNat j2)), (.int (sf3 (g2 + 1) - sf3 g2))])) _
        refine XS.iadd X130.here hx rfl (hb hby at_426) rfl ?_
        exact kT)
      rw [own_one] at pre132
      have pre133 : ∀ t, Steps p.tables e below (T130.setTop (mkF m 439 #[.val (.int p1), .val (.int p2), .val (.int p3), .val (.int p4), .val (.int p5), .val (.int n1), .val (.int n2), .val (.int dA), .val (.int qA), .val (.int dB), .val (.int qB), .val (.int dC), .val (.int qC), .val (.ref b1), .val (.ref r1), .val (.int (Int32.ofNat g1)), .val (.int (Int32.ofNat j1)), .val (.int (Int32.ofNat g2)), .val (.int (Int32.ofNat j2)), .val (.int (1 : Int32))] [(.int (1 : Int32))])) t → Steps p.tables e below (s₁.setTop (entryFrame m #[(.int p1), (.int p2), (.int p3), (.int p4), (.int p5)] maxLocals)) t := fun t kT => pre132 t (by
        show Steps p.tables e below (T130.setTop (mkF m 427 #[.val (.int p1), .val (.int p2), .val (.int p3), .val (.int p4), .val (.int p5), .val (.int n1), .val (.int n2), .val (.int dA), .val (.int qA), .val (.int dB), .val (.int qB), .val (.int dC), .val (.int qC), .val (.ref b1), .val (.ref r1), .val (.int (Int32.ofNat g1)), .val (.int (Int32.ofNat j1)), .val (.int (Int32.ofNat g2)), .val (.int (Int32.ofNat j2)), .val (.int (1 : Int32))] [(.int (Int32.ofNat (j2 + 1))), (.int (sf3 (g2 + 1) - sf3 g2))])) _
        refine XS.icmpNo X130.here hx rfl (hb hby at_427) rfl (teq xb).2 ?_
        show Steps p.tables e below (T130.setTop (mkF m 430 #[.val (.int p1), .val (.int p2), .val (.int p3), .val (.int p4), .val (.int p5), .val (.int n1), .val (.int n2), .val (.int dA), .val (.int qA), .val (.int dB), .val (.int qB), .val (.int dC), .val (.int qC), .val (.ref b1), .val (.ref r1), .val (.int (Int32.ofNat g1)), .val (.int (Int32.ofNat j1)), .val (.int (Int32.ofNat g2)), .val (.int (Int32.ofNat j2)), .val (.int (1 : Int32))] [])) _
        refine XS.iconst X130.here hx rfl (hb hby at_430) ?_
        show Steps p.tables e below (T130.setTop (mkF m 431 #[.val (.int p1), .val (.int p2), .val (.int p3), .val (.int p4), .val (.int p5), .val (.int n1), .val (.int n2), .val (.int dA), .val (.int qA), .val (.int dB), .val (.int qB), .val (.int dC), .val (.int qC), .val (.ref b1), .val (.ref r1), .val (.int (Int32.ofNat g1)), .val (.int (Int32.ofNat j1)), .val (.int (Int32.ofNat g2)), .val (.int (Int32.ofNat j2)), .val (.int (1 : Int32))] [(.int (1 : Int32))])) _
        refine XS.goto X130.here hx rfl (pc0 := 431) (pc' := 435) rfl (hb hby at_431) (by decide) (by decide) ?_
        show Steps p.tables e below (T130.setTop (mkF m 435 #[.val (.int p1), .val (.int p2), .val (.int p3), .val (.int p4), .val (.int p5), .val (.int n1), .val (.int n2), .val (.int dA), .val (.int qA), .val (.int dB), .val (.int qB), .val (.int dC), .val (.int qC), .val (.ref b1), .val (.ref r1), .val (.int (Int32.ofNat g1)), .val (.int (Int32.ofNat j1)), .val (.int (Int32.ofNat g2)), .val (.int (Int32.ofNat j2)), .val (.int (1 : Int32))] [(.int (1 : Int32))])) _
        refine XS.istore X130.here hx rfl (hb hby at_435) rfl (l' := #[.val (.int p1), .val (.int p2), .val (.int p3), .val (.int p4), .val (.int p5), .val (.int n1), .val (.int n2), .val (.int dA), .val (.int qA), .val (.int dB), .val (.int qB), .val (.int dC), .val (.int qC), .val (.ref b1), .val (.ref r1), .val (.int (Int32.ofNat g1)), .val (.int (Int32.ofNat j1)), .val (.int (Int32.ofNat g2)), .val (.int (Int32.ofNat j2)), .val (.int (1 : Int32))]) rfl ?_
        show Steps p.tables e below (T130.setTop (mkF m 437 #[.val (.int p1), .val (.int p2), .val (.int p3), .val (.int p4), .val (.int p5), .val (.int n1), .val (.int n2), .val (.int dA), .val (.int qA), .val (.int dB), .val (.int qB), .val (.int dC), .val (.int qC), .val (.ref b1), .val (.ref r1), .val (.int (Int32.ofNat g1)), .val (.int (Int32.ofNat j1)), .val (.int (Int32.ofNat g2)), .val (.int (Int32.ofNat j2)), .val (.int (1 : Int32))] [])) _
        refine XS.iload X130.here hx rfl (hb hby at_437) rfl ?_
        exact kT)
      obtain ⟨fs, hr, hrun, hended, hW, hsame⟩ := X130.leave (v := some (.int (1 : Int32))) (fun h => by rw [Bd.returns] at h; cases h)
      refine ⟨_, _, pre133 _ ?_, hrun, hended, _, _, rfl, ?_, ⟨_, rfl⟩, hW, hsame.mono (by decide) (by decide)⟩
      · exact retN X130 hx (t := .boolean) Bd.returns (by simp) (hb hby at_439) hr
      · exact ⟨rfl, N130⟩
set_option maxRecDepth 65536 in
set_option maxHeartbeats 40000000 in
theorem comes_1 {Post : Tables → Env → Array Value → State → Outcome → State → Prop} (hpost : ∀ tb e args s v u, (limb_1_1.after args s (.returned v) u = true ∧ limb_1_2.after args s (.returned v) u = true ∧ True) → FrameEnd s (.returned v) u (Jvm.fieldLocs frame_1_writes args s ++ Jvm.arrayLocs frame_1_arrays args s ++ Jvm.staticLocs frame_1_statics s) 40 192 → Post tb e args s (.returned v) u) :
    ArmFor flags0 classFile x code maxLocals ret World_1 tables_1 room_1 Calls_1 rest_1 Pre_1 Post := by
  intro l hfl _ _ p e ha hc hk s m args below hf hA hF happ hP
  obtain ⟨hcalls, hrest, hpre⟩ := hP
  obtain ⟨-, -, -, hnamed, -, -, -, hat⟩ := (Spec.applies_iff hf).mp happ
  obtain ⟨hg, hn⟩ := and_e (Cond.before_iff.mp (show (Jvm.Cond.and given_1 narrow_1).before args s = true from hpre))
  obtain ⟨gc, gr0⟩ := and_e hg
  obtain ⟨ga0, gr1⟩ := and_e gr0
  obtain ⟨ga1, gr2⟩ := and_e gr1
  obtain ⟨ga2, gr3⟩ := and_e gr2
  obtain ⟨ga3, gr4⟩ := and_e gr3
  obtain ⟨w0, w1, w2, w3, w4, rfl⟩ : ∃ w0 w1 w2 w3 w4 : Value, args = #[w0, w1, w2, w3, w4] := by
    have hs : args.size = 5 := by simpa [Cond.value, given_1] using gc
    obtain ⟨L⟩ := args
    match L, hs with
    | [w0, w1, w2, w3, w4], _ => exact ⟨w0, w1, w2, w3, w4, rfl⟩
  have hw := fun d (hd : d ∈ tables_1) => atoms_spec (ws := Jvm.Cond.code x code maxLocals ret :: tables_1) hat d (List.mem_cons_of_mem _ hd)
  obtain ⟨i0, ei0⟩ := is_v ga0
  obtain rfl : w0 = (.int i0) := Option.some.inj ei0
  obtain ⟨i1, ei1⟩ := is_v ga1
  obtain rfl : w1 = (.int i1) := Option.some.inj ei1
  obtain ⟨i2, ei2⟩ := is_v ga2
  obtain rfl : w2 = (.int i2) := Option.some.inj ei2
  obtain ⟨i3, ei3⟩ := is_v ga3
  obtain rfl : w3 = (.int i3) := Option.some.inj ei3
  obtain ⟨i4, ei4⟩ := is_v gr4
  obtain rfl : w4 = (.int i4) := Option.some.inj ei4
  obtain ⟨n, o, h1, h2, h3, _, L, rfl, ⟨rfl, N⟩, hq⟩ := rm0 l s _ hw tables_1 i0 i1 i2 i3 i4 s.heap s.heap.size (Nat.le_refl _) p e ha hc hk s m _ below hf ((Spec.applies_iff_loose hf).mp happ).1 ⟨rfl, State.Warmed39.refl s, rfl⟩ trivial
  refine ⟨n, _, h1, h2, h3, hpost _ _ _ _ _ _ ⟨Cond.after_iff.mpr rfl, Cond.after_iff.mpr (eq_i res_at (Term.int_eval (1)) rfl), trivial⟩ ⟨hq.1, hq.2.1, (hq.2.2.sift fun y hy => Or.inr (N y hy)).mono (by decide) (by decide)⟩⟩
theorem main_1_1 : Claimed_1_1 := comes_1 fun _ _ _ _ _ _ h hF => ⟨h.1, hF⟩
theorem main_1_2 : Claimed_1_2 := comes_1 fun _ _ _ _ _ _ h hF => ⟨h.2.1, hF⟩
end Jvm.Pilot.@@N@@
namespace Jvm.Pilot.@@N@@
open Jvm Jvm.ClassFile Sem Op Lib Jvm.Free Jvm.Stand Jvm.Pilot.@@N@@.Jvm.D
/-! MADE BY PROGRAM (witnessworld.py) out of the Statement's table words and the real class files: 13 classes; the members and pool entries that the words name. The judged class is class 1, her method 1. -/
namespace start1
open Jvm.ClassFile
def u (s : String) : CpInfo := .utf8 (stringToUtf16 s)
/-- a pool by its gaps: so many unusable entries, then the entry; so many at the end -/
def gap : Nat → List CpInfo → List CpInfo
  | 0, r => r
  | n + 1, r => .unusable :: gap n r
def poolList (es : List (Nat × CpInfo)) (last : Nat) : List CpInfo := es.foldr (fun e r => gap e.1 (e.2 :: r)) (gap last [])
def pool (es : List (Nat × CpInfo)) (last : Nat) : Array CpInfo := ⟨poolList es last⟩
def fileOf (pool : Array CpInfo) (this : Nat) (attrs : Array Attribute := #[]) (ms : Array MethodInfo := #[]) (fl : Nat := 33) (sup : Nat := 0) (ifs : Array Nat := #[]) (fds : Array FieldInfo := #[]) : ClassFile where
  minorVersion := 0
  majorVersion := 65
  constantPool := pool
  accessFlags := fl
  thisClass := this
  superClass := sup
  interfaces := ifs
  fields := fds
  methods := ms
  attributes := attrs
def plain (name : String) (sup : Option ClassId) : Class where
  name := name
  kind := .ordinary
  loader := none
  accessFlags := 33
  super := sup
  interfaces := #[]
  cf := none
  fields := #[]
  methods := #[]
  instanceTypes := #[]
  staticTypes := #[]
  resolved := #[]
  callSites := []
  init := .initialized
  statics := none
  mirror := none

def pool0 : Array CpInfo := pool [(5, u "<init>"), (0, u "()V"), (1, .class_ 10), (1, u "java/lang/Object"), (85, u "clone"), (0, u "()Ljava/lang/Object;")] 26

def k0c0 : Code := { maxStack := 0, maxLocals := 1, code := object_method_1_code, exceptionTable := #[], attributes := #[] }
def k0m0 : Method := { name := "<init>", desc := "()V", sig := { parameters := [], returnType := none }, accessFlags := 1, code := some k0c0 }
def k0m1 : Method := { name := "clone", desc := "()Ljava/lang/Object;", sig := { parameters := [], returnType := some (.object "java/lang/Object") }, accessFlags := 260, code := none }
/-- java/lang/Object -/
def k0 : Class := { plain "java/lang/Object" none with
  accessFlags := 33
  interfaces := #[]
  cf := some (fileOf pool0 8 #[] #[{ accessFlags := 1, nameIndex := 5, descriptorIndex := 6, attributes := #[] }, { accessFlags := 260, nameIndex := 96, descriptorIndex := 97, attributes := #[] }] 33 0 #[] #[])
  fields := #[]
  methods := #[k0m0, k0m1]
  instanceTypes := #[]
  staticTypes := #[]
  resolved := Array.replicate 124 none
  statics := none }

def pool1 : Array CpInfo := pool [(2, .class_ 4), (0, .nameAndType 5 6), (0, u "java/lang/Object"), (0, u "<init>"), (0, u "()V"), (0, .integer 1073741823), (0, .integer 65535), (0, .class_ 10), (0, u "com/example/esteem/esteem/index/Postings$Builder"), (0, .methodref 9 3), (0, .methodref 9 13), (0, .nameAndType 14 15), (0, u "add"), (0, u "(II)V"), (0, .methodref 9 17), (0, .nameAndType 18 19), (0, u "build"), (0, u "()Lcom/example/esteem/esteem/index/Postings;"), (0, .methodref 21 22), (0, .class_ 23), (0, .nameAndType 24 25), (0, u "com/example/esteem/esteem/index/Postings"), (0, u "docFreq"), (0, u "()I"), (0, .methodref 21 27), (0, .nameAndType 28 29), (0, u "doc"), (0, u "(I)I"), (0, .methodref 21 31), (0, .nameAndType 32 33), (0, u "position"), (0, u "(II)I"), (0, .methodref 21 35), (0, .nameAndType 36 29), (0, u "freq"), (0, .class_ 38), (0, u "com/example/esteem/esteem/index/BuilderAddPinLaw"), (2, u "law"), (0, u "(IIIII)Z")] 5

def k1m0 : Method := { name := "<init>", desc := "()V", sig := { parameters := [], returnType := none }, accessFlags := 1, code := none }
def k1c1 : Code := { maxStack := 3, maxLocals := 20, code := code, exceptionTable := #[], attributes := #[] }
def k1m1 : Method := { name := "law", desc := "(IIIII)Z", sig := { parameters := [.int, .int, .int, .int, .int], returnType := some .boolean }, accessFlags := 9, code := some k1c1 }
/-- com/example/esteem/esteem/index/BuilderAddPinLaw -/
def k1 : Class := { plain "com/example/esteem/esteem/index/BuilderAddPinLaw" (some 0) with
  accessFlags := 49
  interfaces := #[]
  cf := some (fileOf pool1 37 #[] #[{ accessFlags := 1, nameIndex := 5, descriptorIndex := 6, attributes := #[] }, { accessFlags := 9, nameIndex := 41, descriptorIndex := 42, attributes := #[] }] 49 2 #[] #[])
  fields := #[]
  methods := #[k1m0, k1m1]
  instanceTypes := #[]
  staticTypes := #[]
  resolved := Array.replicate 48 none
  statics := none }

def pool2 : Array CpInfo := pool [(1, .methodref 2 3), (0, .class_ 4), (0, .nameAndType 5 6), (0, u "java/lang/Object"), (0, u "<init>"), (0, u "()V"), (0, .fieldref 8 9), (0, .class_ 10), (0, .nameAndType 11 12), (0, u "com/example/esteem/esteem/index/Postings$Builder"), (0, u "docs"), (0, u "[I"), (0, .fieldref 8 14), (0, .nameAndType 15 12), (0, u "starts"), (0, .fieldref 8 17), (0, .nameAndType 18 12), (0, u "positions"), (0, .fieldref 8 20), (0, .nameAndType 21 22), (0, u "docCount"), (0, u "I"), (0, .methodref 8 24), (0, .nameAndType 25 26), (0, u "lastPosition"), (0, u "()I"), (9, .methodref 37 38), (0, .class_ 39), (0, .nameAndType 40 41), (0, u "java/util/Arrays"), (0, u "copyOf"), (0, u "([II)[I"), (0, .fieldref 8 43), (0, .nameAndType 44 22), (0, u "positionCount"), (0, .class_ 46), (0, u "com/example/esteem/esteem/index/Postings"), (0, .methodref 45 48), (0, .nameAndType 5 49), (0, u "([I[I[I)V"), (2, u "add"), (0, u "(II)V"), (1, u "build"), (0, u "()Lcom/example/esteem/esteem/index/Postings;")] 19

def k2c0 : Code := { maxStack := 2, maxLocals := 1, code := prog_22_method_1_code, exceptionTable := #[], attributes := #[] }
def k2m0 : Method := { name := "<init>", desc := "()V", sig := { parameters := [], returnType := none }, accessFlags := 0, code := some k2c0 }
def k2c1 : Code := { maxStack := 4, maxLocals := 5, code := prog_22_method_2_code, exceptionTable := #[], attributes := #[] }
def k2m1 : Method := { name := "add", desc := "(II)V", sig := { parameters := [.int, .int], returnType := none }, accessFlags := 0, code := some k2c1 }
def k2c2 : Code := { maxStack := 6, maxLocals := 1, code := prog_22_method_3_code, exceptionTable := #[], attributes := #[] }
def k2m2 : Method := { name := "build", desc := "()Lcom/example/esteem/esteem/index/Postings;", sig := { parameters := [], returnType := some (.object "com/example/esteem/esteem/index/Postings") }, accessFlags := 0, code := some k2c2 }
def k2c3 : Code := { maxStack := 3, maxLocals := 1, code := prog_22_method_4_code, exceptionTable := #[], attributes := #[] }
def k2m3 : Method := { name := "lastPosition", desc := "()I", sig := { parameters := [], returnType := some .int }, accessFlags := 2, code := some k2c3 }
/-- com/example/esteem/esteem/index/Postings$Builder -/
def k2 : Class := { plain "com/example/esteem/esteem/index/Postings$Builder" (some 0) with
  accessFlags := 48
  interfaces := #[]
  cf := some (fileOf pool2 8 #[.nestHost 45] #[{ accessFlags := 0, nameIndex := 5, descriptorIndex := 6, attributes := #[] }, { accessFlags := 0, nameIndex := 52, descriptorIndex := 53, attributes := #[] }, { accessFlags := 0, nameIndex := 55, descriptorIndex := 56, attributes := #[] }, { accessFlags := 2, nameIndex := 25, descriptorIndex := 26, attributes := #[] }] 48 2 #[] #[{ accessFlags := 2, nameIndex := 11, descriptorIndex := 12, attributes := #[] }, { accessFlags := 2, nameIndex := 15, descriptorIndex := 12, attributes := #[] }, { accessFlags := 2, nameIndex := 18, descriptorIndex := 12, attributes := #[] }, { accessFlags := 2, nameIndex := 21, descriptorIndex := 22, attributes := #[] }, { accessFlags := 2, nameIndex := 44, descriptorIndex := 22, attributes := #[] }])
  fields := #[{ name := "docs", type := (.array .int), accessFlags := 2, slot := 0, constantValue := 0 }, { name := "starts", type := (.array .int), accessFlags := 2, slot := 1, constantValue := 0 }, { name := "positions", type := (.array .int), accessFlags := 2, slot := 2, constantValue := 0 }, { name := "docCount", type := .int, accessFlags := 2, slot := 3, constantValue := 0 }, { name := "positionCount", type := .int, accessFlags := 2, slot := 4, constantValue := 0 }]
  methods := #[k2m0, k2m1, k2m2, k2m3]
  instanceTypes := #[(.array .int), (.array .int), (.array .int), .int, .int]
  staticTypes := #[]
  resolved := Array.replicate 76 none
  statics := none }

def pool3 : Array CpInfo := pool [(2, .class_ 4), (1, u "java/lang/Object"), (0, u "<init>"), (0, u "()V"), (7, .class_ 16), (1, u "java/util/Arrays"), (57, .class_ 76), (1, u "java/util/Arrays$NaturalOrder"), (32, u "()Ljava/lang/Object;"), (3, .class_ 115), (1, u "java/util/Arrays$LegacyMergeSort"), (1, u "Z"), (10, .nameAndType 129 109), (0, u "clone"), (20, .methodref 151 152), (0, .class_ 153), (0, .nameAndType 154 155), (0, u "java/lang/System"), (0, u "arraycopy"), (0, u "(Ljava/lang/Object;ILjava/lang/Object;II)V"), (146, u "copyOf"), (1, .methodref 305 306), (0, .class_ 307), (0, .nameAndType 308 309), (0, u "java/lang/Math"), (0, u "min"), (0, u "(II)I"), (6, .methodref 317 128), (0, .class_ 318), (0, u "[I"), (56, .class_ 376), (0, u "java/util/Arrays$ArrayList"), (68, u "$assertionsDisabled"), (269, u "MIN_ARRAY_SORT_GRAN"), (0, u "I"), (2, u "INSERTIONSORT_THRESHOLD"), (151, u "([II)[I"), (103, .class_ 976), (0, u "java/util/Arrays$ArrayItr")] 52

def k3m0 : Method := { name := "<init>", desc := "()V", sig := { parameters := [], returnType := none }, accessFlags := 2, code := none }
def k3c1 : Code := { maxStack := 6, maxLocals := 3, code := jdk_65_method_123_code, exceptionTable := #[], attributes := #[] }
def k3m1 : Method := { name := "copyOf", desc := "([II)[I", sig := { parameters := [(.array .int), .int], returnType := some (.array .int) }, accessFlags := 9, code := some k3c1 }
/-- java/util/Arrays -/
def k3 : Class := { plain "java/util/Arrays" (some 0) with
  accessFlags := 49
  interfaces := #[]
  cf := some (fileOf pool3 14 #[.nestMembers #[975, 375, 113, 74]] #[{ accessFlags := 2, nameIndex := 5, descriptorIndex := 6, attributes := #[] }, { accessFlags := 9, nameIndex := 302, descriptorIndex := 871, attributes := #[] }] 49 2 #[] #[{ accessFlags := 26, nameIndex := 715, descriptorIndex := 716, attributes := #[] }, { accessFlags := 26, nameIndex := 719, descriptorIndex := 716, attributes := #[] }, { accessFlags := 4120, nameIndex := 445, descriptorIndex := 117, attributes := #[] }])
  fields := #[{ name := "MIN_ARRAY_SORT_GRAN", type := .int, accessFlags := 26, slot := 0, constantValue := 0 }, { name := "INSERTIONSORT_THRESHOLD", type := .int, accessFlags := 26, slot := 1, constantValue := 0 }, { name := "$assertionsDisabled", type := .boolean, accessFlags := 4120, slot := 2, constantValue := 0 }]
  methods := #[k3m0, k3m1]
  instanceTypes := #[]
  staticTypes := #[.int, .int, .boolean]
  resolved := Array.replicate 1029 none
  statics := none }

def pool4 : Array CpInfo := pool [(1, .class_ 2), (0, u "java/lang/Math"), (1, .class_ 6), (1, u "java/lang/Object"), (0, u "<init>"), (0, u "()V"), (89, .class_ 100), (1, u "java/lang/Math$RandomNumberGeneratorHolder"), (71, u "negativeZeroFloatBits"), (0, u "J"), (2, u "negativeZeroDoubleBits"), (24, u "min"), (43, u "$assertionsDisabled"), (0, u "Z"), (88, u "(II)I"), (2, u "twoToTheDoubleScaleDown"), (0, u "D"), (4, u "twoToTheDoubleScaleUp"), (9, u "E"), (3, u "PI"), (2, u "TAU"), (2, u "DEGREES_TO_RADIANS"), (0, u "RADIANS_TO_DEGREES")] 94

def k4m0 : Method := { name := "<init>", desc := "()V", sig := { parameters := [], returnType := none }, accessFlags := 2, code := none }
def k4c1 : Code := { maxStack := 2, maxLocals := 2, code := jdk_29_method_69_code, exceptionTable := #[], attributes := #[] }
def k4m1 : Method := { name := "min", desc := "(II)I", sig := { parameters := [.int, .int], returnType := some .int }, accessFlags := 9, code := some k4c1 }
/-- java/lang/Math -/
def k4 : Class := { plain "java/lang/Math" (some 0) with
  accessFlags := 49
  interfaces := #[]
  cf := some (fileOf pool4 1 #[.nestMembers #[98]] #[{ accessFlags := 2, nameIndex := 7, descriptorIndex := 8, attributes := #[] }, { accessFlags := 9, nameIndex := 201, descriptorIndex := 335, attributes := #[] }] 49 4 #[] #[{ accessFlags := 25, nameIndex := 354, descriptorIndex := 339, attributes := #[] }, { accessFlags := 25, nameIndex := 358, descriptorIndex := 339, attributes := #[] }, { accessFlags := 25, nameIndex := 361, descriptorIndex := 339, attributes := #[] }, { accessFlags := 26, nameIndex := 364, descriptorIndex := 339, attributes := #[] }, { accessFlags := 26, nameIndex := 365, descriptorIndex := 339, attributes := #[] }, { accessFlags := 26, nameIndex := 172, descriptorIndex := 173, attributes := #[] }, { accessFlags := 26, nameIndex := 176, descriptorIndex := 173, attributes := #[] }, { accessFlags := 8, nameIndex := 344, descriptorIndex := 339, attributes := #[] }, { accessFlags := 8, nameIndex := 338, descriptorIndex := 339, attributes := #[] }, { accessFlags := 4120, nameIndex := 245, descriptorIndex := 246, attributes := #[] }])
  fields := #[{ name := "E", type := .double, accessFlags := 25, slot := 0, constantValue := 0 }, { name := "PI", type := .double, accessFlags := 25, slot := 1, constantValue := 0 }, { name := "TAU", type := .double, accessFlags := 25, slot := 2, constantValue := 0 }, { name := "DEGREES_TO_RADIANS", type := .double, accessFlags := 26, slot := 3, constantValue := 0 }, { name := "RADIANS_TO_DEGREES", type := .double, accessFlags := 26, slot := 4, constantValue := 0 }, { name := "negativeZeroFloatBits", type := .long, accessFlags := 26, slot := 5, constantValue := 0 }, { name := "negativeZeroDoubleBits", type := .long, accessFlags := 26, slot := 6, constantValue := 0 }, { name := "twoToTheDoubleScaleUp", type := .double, accessFlags := 8, slot := 7, constantValue := 0 }, { name := "twoToTheDoubleScaleDown", type := .double, accessFlags := 8, slot := 8, constantValue := 0 }, { name := "$assertionsDisabled", type := .boolean, accessFlags := 4120, slot := 9, constantValue := 0 }]
  methods := #[k4m0, k4m1]
  instanceTypes := #[]
  staticTypes := #[.double, .double, .double, .double, .double, .long, .long, .double, .double, .boolean]
  resolved := Array.replicate 460 none
  statics := none }

def pool5 : Array CpInfo := pool [(2, .class_ 4), (1, u "java/lang/Object"), (0, u "<init>"), (0, u "()V"), (1, .class_ 10), (1, u "java/lang/System"), (0, u "allowSecurityManager"), (0, u "I"), (16, u "cons"), (0, u "Ljava/io/Console;"), (77, .class_ 110), (1, u "java/lang/System$CallersHolder"), (43, u "initialErrStream"), (0, u "Ljava/io/PrintStream;"), (19, u "security"), (0, u "Ljava/lang/SecurityManager;"), (31, .class_ 209), (0, u "java/lang/System$1"), (7, u "props"), (0, u "Ljava/util/Properties;"), (2, u "lineSeparator"), (0, u "Ljava/lang/String;"), (96, .class_ 321), (1, u "java/lang/System$LoggerFinder"), (5, .class_ 328), (0, u "java/lang/System$Logger"), (67, u "err"), (2, u "out"), (91, u "notSupportedJnuEncoding"), (15, u "in"), (17, u "initialIn"), (0, u "Ljava/io/InputStream;"), (35, u "bootLayer"), (0, u "Ljava/lang/ModuleLayer;"), (99, .class_ 664), (0, u "java/lang/System$2"), (9, u "NEVER"), (2, u "MAYBE"), (49, u "arraycopy"), (0, u "(Ljava/lang/Object;ILjava/lang/Object;II)V"), (72, .class_ 802), (0, u "java/lang/System$Logger$Level")] 31

def k5m0 : Method := { name := "<init>", desc := "()V", sig := { parameters := [], returnType := none }, accessFlags := 2, code := none }
def k5m1 : Method := { name := "arraycopy", desc := "(Ljava/lang/Object;ILjava/lang/Object;II)V", sig := { parameters := [(.object "java/lang/Object"), .int, (.object "java/lang/Object"), .int, .int], returnType := none }, accessFlags := 265, code := none }
/-- java/lang/System -/
def k5 : Class := { plain "java/lang/System" (some 0) with
  accessFlags := 49
  interfaces := #[]
  cf := some (fileOf pool5 8 #[.nestMembers #[319, 327, 801, 108, 663, 208]] #[{ accessFlags := 2, nameIndex := 5, descriptorIndex := 6, attributes := #[] }, { accessFlags := 265, nameIndex := 727, descriptorIndex := 728, attributes := #[] }] 49 2 #[] #[{ accessFlags := 25, nameIndex := 507, descriptorIndex := 526, attributes := #[] }, { accessFlags := 25, nameIndex := 399, descriptorIndex := 155, attributes := #[] }, { accessFlags := 25, nameIndex := 396, descriptorIndex := 155, attributes := #[] }, { accessFlags := 10, nameIndex := 525, descriptorIndex := 526, attributes := #[] }, { accessFlags := 26, nameIndex := 674, descriptorIndex := 12, attributes := #[] }, { accessFlags := 26, nameIndex := 677, descriptorIndex := 12, attributes := #[] }, { accessFlags := 10, nameIndex := 11, descriptorIndex := 12, attributes := #[] }, { accessFlags := 74, nameIndex := 175, descriptorIndex := 176, attributes := #[] }, { accessFlags := 10, nameIndex := 491, descriptorIndex := 222, attributes := #[] }, { accessFlags := 74, nameIndex := 29, descriptorIndex := 30, attributes := #[] }, { accessFlags := 74, nameIndex := 154, descriptorIndex := 155, attributes := #[] }, { accessFlags := 10, nameIndex := 217, descriptorIndex := 218, attributes := #[] }, { accessFlags := 10, nameIndex := 221, descriptorIndex := 222, attributes := #[] }, { accessFlags := 8, nameIndex := 562, descriptorIndex := 563, attributes := #[] }])
  fields := #[{ name := "in", type := (.object "java/io/InputStream"), accessFlags := 25, slot := 0, constantValue := 0 }, { name := "out", type := (.object "java/io/PrintStream"), accessFlags := 25, slot := 1, constantValue := 0 }, { name := "err", type := (.object "java/io/PrintStream"), accessFlags := 25, slot := 2, constantValue := 0 }, { name := "initialIn", type := (.object "java/io/InputStream"), accessFlags := 10, slot := 3, constantValue := 0 }, { name := "NEVER", type := .int, accessFlags := 26, slot := 4, constantValue := 0 }, { name := "MAYBE", type := .int, accessFlags := 26, slot := 5, constantValue := 0 }, { name := "allowSecurityManager", type := .int, accessFlags := 10, slot := 6, constantValue := 0 }, { name := "security", type := (.object "java/lang/SecurityManager"), accessFlags := 74, slot := 7, constantValue := 0 }, { name := "notSupportedJnuEncoding", type := (.object "java/lang/String"), accessFlags := 10, slot := 8, constantValue := 0 }, { name := "cons", type := (.object "java/io/Console"), accessFlags := 74, slot := 9, constantValue := 0 }, { name := "initialErrStream", type := (.object "java/io/PrintStream"), accessFlags := 74, slot := 10, constantValue := 0 }, { name := "props", type := (.object "java/util/Properties"), accessFlags := 10, slot := 11, constantValue := 0 }, { name := "lineSeparator", type := (.object "java/lang/String"), accessFlags := 10, slot := 12, constantValue := 0 }, { name := "bootLayer", type := (.object "java/lang/ModuleLayer"), accessFlags := 8, slot := 13, constantValue := 0 }]
  methods := #[k5m0, k5m1]
  instanceTypes := #[]
  staticTypes := #[(.object "java/io/InputStream"), (.object "java/io/PrintStream"), (.object "java/io/PrintStream"), (.object "java/io/InputStream"), .int, .int, .int, (.object "java/lang/SecurityManager"), (.object "java/lang/String"), (.object "java/io/Console"), (.object "java/io/PrintStream"), (.object "java/util/Properties"), (.object "java/lang/String"), (.object "java/lang/ModuleLayer")]
  resolved := Array.replicate 834 none
  statics := none }

def pool6 : Array CpInfo := pool [(1, .methodref 2 3), (0, .class_ 4), (0, .nameAndType 5 6), (0, u "java/lang/Object"), (0, u "<init>"), (0, u "()V"), (0, .fieldref 8 9), (0, .class_ 10), (0, .nameAndType 11 12), (0, u "com/example/esteem/esteem/index/Postings"), (0, u "docs"), (0, u "[I"), (0, .fieldref 8 14), (0, .nameAndType 15 12), (0, u "starts"), (0, .fieldref 8 17), (0, .nameAndType 18 12), (0, u "positions"), (3, u "(I)I"), (2, u "freq"), (38, u "docFreq"), (0, u "()I"), (3, .class_ 70), (0, u "com/example/esteem/esteem/index/Postings$Builder"), (3, u "doc"), (6, u "position"), (0, u "(II)I"), (21, u "EMPTY"), (0, u "Lcom/example/esteem/esteem/index/Postings;"), (0, u "([I[I[I)V")] 17

def k6c0 : Code := { maxStack := 2, maxLocals := 4, code := prog_21_method_1_code, exceptionTable := #[], attributes := #[] }
def k6m0 : Method := { name := "<init>", desc := "([I[I[I)V", sig := { parameters := [(.array .int), (.array .int), (.array .int)], returnType := none }, accessFlags := 2, code := some k6c0 }
def k6c1 : Code := { maxStack := 1, maxLocals := 1, code := prog_21_method_2_code, exceptionTable := #[], attributes := #[] }
def k6m1 : Method := { name := "docFreq", desc := "()I", sig := { parameters := [], returnType := some .int }, accessFlags := 1, code := some k6c1 }
def k6c2 : Code := { maxStack := 2, maxLocals := 2, code := prog_21_method_3_code, exceptionTable := #[], attributes := #[] }
def k6m2 : Method := { name := "doc", desc := "(I)I", sig := { parameters := [.int], returnType := some .int }, accessFlags := 1, code := some k6c2 }
def k6c3 : Code := { maxStack := 3, maxLocals := 2, code := prog_21_method_4_code, exceptionTable := #[], attributes := #[] }
def k6m3 : Method := { name := "freq", desc := "(I)I", sig := { parameters := [.int], returnType := some .int }, accessFlags := 1, code := some k6c3 }
def k6c4 : Code := { maxStack := 3, maxLocals := 3, code := prog_21_method_5_code, exceptionTable := #[], attributes := #[] }
def k6m4 : Method := { name := "position", desc := "(II)I", sig := { parameters := [.int, .int], returnType := some .int }, accessFlags := 1, code := some k6c4 }
/-- com/example/esteem/esteem/index/Postings -/
def k6 : Class := { plain "com/example/esteem/esteem/index/Postings" (some 0) with
  accessFlags := 49
  interfaces := #[]
  cf := some (fileOf pool6 8 #[.nestMembers #[69]] #[{ accessFlags := 2, nameIndex := 5, descriptorIndex := 106, attributes := #[] }, { accessFlags := 1, nameIndex := 64, descriptorIndex := 65, attributes := #[] }, { accessFlags := 1, nameIndex := 74, descriptorIndex := 22, attributes := #[] }, { accessFlags := 1, nameIndex := 25, descriptorIndex := 22, attributes := #[] }, { accessFlags := 1, nameIndex := 81, descriptorIndex := 82, attributes := #[] }] 49 2 #[] #[{ accessFlags := 25, nameIndex := 104, descriptorIndex := 105, attributes := #[] }, { accessFlags := 18, nameIndex := 11, descriptorIndex := 12, attributes := #[] }, { accessFlags := 18, nameIndex := 15, descriptorIndex := 12, attributes := #[] }, { accessFlags := 18, nameIndex := 18, descriptorIndex := 12, attributes := #[] }])
  fields := #[{ name := "EMPTY", type := (.object "com/example/esteem/esteem/index/Postings"), accessFlags := 25, slot := 0, constantValue := 0 }, { name := "docs", type := (.array .int), accessFlags := 18, slot := 0, constantValue := 0 }, { name := "starts", type := (.array .int), accessFlags := 18, slot := 1, constantValue := 0 }, { name := "positions", type := (.array .int), accessFlags := 18, slot := 2, constantValue := 0 }]
  methods := #[k6m0, k6m1, k6m2, k6m3, k6m4]
  instanceTypes := #[(.array .int), (.array .int), (.array .int)]
  staticTypes := #[(.object "com/example/esteem/esteem/index/Postings")]
  resolved := Array.replicate 124 none
  statics := none }

def pool7 : Array CpInfo := pool [(1, .class_ 2), (0, u "java/lang/Cloneable"), (0, .class_ 4), (0, u "java/lang/Object")] 2

/-- java/lang/Cloneable -/
def k7 : Class := { plain "java/lang/Cloneable" (some 0) with
  accessFlags := 1537
  interfaces := #[]
  cf := some (fileOf pool7 1 #[] #[] 1537 3 #[] #[])
  fields := #[]
  methods := #[]
  instanceTypes := #[]
  staticTypes := #[]
  resolved := Array.replicate 7 none
  statics := none }

def pool8 : Array CpInfo := pool [(1, u "java/io/Serializable"), (0, .class_ 1), (0, u "java/lang/Object"), (0, .class_ 3)] 3

/-- java/io/Serializable -/
def k8 : Class := { plain "java/io/Serializable" (some 0) with
  accessFlags := 1537
  interfaces := #[]
  cf := some (fileOf pool8 2 #[] #[] 1537 4 #[] #[])
  fields := #[]
  methods := #[]
  instanceTypes := #[]
  staticTypes := #[]
  resolved := Array.replicate 8 none
  statics := none }

/-- the primitive byte -/
def k9 : Class := { plain "byte" none with kind := .primitive 'B', accessFlags := 0x411 }
/-- [B -/
def k10 : Class := { plain "[B" (some 0) with kind := .array 9 .byte, interfaces := #[7, 8], accessFlags := 1041 }

/-- the primitive int -/
def k11 : Class := { plain "int" none with kind := .primitive 'I', accessFlags := 0x411 }
/-- [I -/
def k12 : Class := { plain "[I" (some 0) with kind := .array 11 .int, interfaces := #[7, 8], accessFlags := 1041 }

def heap : Heap := #[]
def classes : Array Class := #[k0, k1, k2, k3, k4, k5, k6, k7, k8, k9, k10, k11, k12]
def interned : List (Array UInt16 × Addr) := []
def slotsUsed : Nat := 0
def theMethod : MethodId := ⟨1, 1⟩
def args0 : Array Value := #[.int 5, .int 7, .int 3, .int 9, .int 1]
def aboutOver (below : List Frame) : State where
  vm := { classes := classes, interned := interned.toArray }
  heap := heap
  slotsUsed := slotsUsed
  threads := #[{ frames := .invoking theMethod args0 :: below }]
def below0 : List Frame := [.native { method := ⟨0, 0⟩, args := #[] }]
def about1 : State := aboutOver below0
def p0 : Program := .bare "" "" ""
def e0 : Env := launch0.env 0 0 0
theorem w_frames : about1.frames = Frame.invoking theMethod args0 :: below0 := rfl
set_option maxRecDepth 65536 in
theorem w_args : argsFit about1.vm theMethod args0 = true := by decide +kernel
set_option maxRecDepth 65536 in
theorem w_heap : heapFits about1 = true := by decide +kernel
set_option maxRecDepth 65536 in
theorem w_runnable : about1.curStatus? = some .runnable := by decide +kernel
set_option maxRecDepth 65536 in
theorem w_alone : about1.alone = true := by decide +kernel
set_option maxRecDepth 65536 in
theorem w_named : about1.methodNamed? x = some theMethod := by decide +kernel
set_option maxRecDepth 65536 in
theorem w_hears : about1.hears theMethod below0 = true := by decide +kernel
set_option maxRecDepth 65536 in
theorem w_ripe : about1.ripe theMethod args0 below0 = true := by decide +kernel
theorem w_running : about1.status = .running := rfl
set_option maxRecDepth 65536 in
theorem w_room : about1.hasRoom e0.platform room_1 = true :=
  launch0.hasRoom_least _ room_1 (by decide +kernel) (by decide +kernel) (by decide +kernel) (by decide +kernel) (by decide +kernel) (by decide +kernel)
theorem allAtoms_all (ts : List Jvm.Cond) (a : Array Jvm.Value) (st : Jvm.State) : (allAtoms ts).before a st = ts.all (fun c => c.before a st) := by
  induction ts with
  | nil => rfl
  | cons c t ih =>
    show (Jvm.Cond.and c (allAtoms t)).before a st = _
    rw [Jvm.Cond.before_and, ih, List.all_cons]
def words1 : List Jvm.Cond := Jvm.Cond.code x code maxLocals ret :: tables_1
/-- a 'code' word, met by the world's own term for the bytes: nothing is compared byte by byte -/
theorem code_word {y : MethodName} {bytes : ByteArray} {mx : Nat} {rt : Option FieldType} {a : Array Value} {s : State} {m : MethodId} {meth : Method} {c : Code} (h1 : s.methodNamed? y = some m) (h2 : s.vm.method? m = some meth) (h3 : meth.code = some c) (h4 : c.code = bytes)
    (h5 : (c.maxLocals == mx && c.exceptionTable.isEmpty && decide (c.maxStack ≤ mostOperands) && decide (meth.sig.returnType = rt) && !meth.locks && decide (parseMethodDescriptor y.desc = some meth.sig)) = true) : (Jvm.Cond.code y bytes mx rt).before a s = true := by
  simp only [Bool.and_eq_true, beq_iff_eq, Bool.not_eq_true', decide_eq_true_eq] at h5
  obtain ⟨⟨⟨⟨⟨g1, g2⟩, g3⟩, g4⟩, g5⟩, g6⟩ := h5
  simp [Cond.before, Cond.holds, Cond.value, h1, h2, h3, h4, g1, g2, g3, g4, g5, g6]
def isCode : Jvm.Cond → Bool
  | .code _ _ _ _ => true
  | _ => false
theorem all_split {L : List Jvm.Cond} {P : Jvm.Cond → Bool} (h1 : L.all (fun c => isCode c || P c) = true) (h2 : ∀ c ∈ L.filter isCode, P c = true) : L.all P = true := by
  refine List.all_eq_true.mpr fun c hc => ?_
  have h := List.all_eq_true.mp h1 c hc
  rcases Bool.eq_false_or_eq_true (isCode c) with hi | hi
  · exact h2 c (List.mem_filter.mpr ⟨hc, hi⟩)
  · simpa [hi] using h
set_option maxRecDepth 65536 in
theorem w_c0 : (Jvm.Cond.code x code maxLocals ret).before args0 about1 = true := code_word (m := ⟨1, 1⟩) (meth := k1m1) (c := k1c1) (by decide +kernel) rfl rfl rfl (by decide +kernel)
set_option maxRecDepth 65536 in
theorem w_c1 : (Jvm.Cond.code ({ cls := "com/example/esteem/esteem/index/Postings$Builder", name := "<init>", desc := "()V" } : Jvm.MethodName) prog_22_method_1_code (1 : Nat) (Option.none : Option Jvm.ClassFile.FieldType)).before args0 about1 = true := code_word (m := ⟨2, 0⟩) (meth := k2m0) (c := k2c0) (by decide +kernel) rfl rfl rfl (by decide +kernel)
set_option maxRecDepth 65536 in
theorem w_c2 : (Jvm.Cond.code ({ cls := "java/lang/Object", name := "<init>", desc := "()V" } : Jvm.MethodName) object_method_1_code (1 : Nat) (Option.none : Option Jvm.ClassFile.FieldType)).before args0 about1 = true := code_word (m := ⟨0, 0⟩) (meth := k0m0) (c := k0c0) (by decide +kernel) rfl rfl rfl (by decide +kernel)
set_option maxRecDepth 65536 in
theorem w_c3 : (Jvm.Cond.code ({ cls := "com/example/esteem/esteem/index/Postings$Builder", name := "add", desc := "(II)V" } : Jvm.MethodName) prog_22_method_2_code (5 : Nat) (Option.none : Option Jvm.ClassFile.FieldType)).before args0 about1 = true := code_word (m := ⟨2, 1⟩) (meth := k2m1) (c := k2c1) (by decide +kernel) rfl rfl rfl (by decide +kernel)
set_option maxRecDepth 65536 in
theorem w_c4 : (Jvm.Cond.code ({ cls := "com/example/esteem/esteem/index/Postings$Builder", name := "lastPosition", desc := "()I" } : Jvm.MethodName) prog_22_method_4_code (1 : Nat) (Option.some Jvm.ClassFile.FieldType.int)).before args0 about1 = true := code_word (m := ⟨2, 3⟩) (meth := k2m3) (c := k2c3) (by decide +kernel) rfl rfl rfl (by decide +kernel)
set_option maxRecDepth 65536 in
theorem w_c5 : (Jvm.Cond.code ({ cls := "java/util/Arrays", name := "copyOf", desc := "([II)[I" } : Jvm.MethodName) jdk_65_method_123_code (3 : Nat) (Option.some (Jvm.ClassFile.FieldType.array Jvm.ClassFile.FieldType.int))).before args0 about1 = true := code_word (m := ⟨3, 1⟩) (meth := k3m1) (c := k3c1) (by decide +kernel) rfl rfl rfl (by decide +kernel)
set_option maxRecDepth 65536 in
theorem w_c6 : (Jvm.Cond.code ({ cls := "java/lang/Math", name := "min", desc := "(II)I" } : Jvm.MethodName) jdk_29_method_69_code (2 : Nat) (Option.some Jvm.ClassFile.FieldType.int)).before args0 about1 = true := code_word (m := ⟨4, 1⟩) (meth := k4m1) (c := k4c1) (by decide +kernel) rfl rfl rfl (by decide +kernel)
set_option maxRecDepth 65536 in
theorem w_c7 : (Jvm.Cond.code ({ cls := "com/example/esteem/esteem/index/Postings$Builder", name := "build", desc := "()Lcom/example/esteem/esteem/index/Postings;" } : Jvm.MethodName) prog_22_method_3_code (1 : Nat) (Option.some (Jvm.ClassFile.FieldType.object "com/example/esteem/esteem/index/Postings"))).before args0 about1 = true := code_word (m := ⟨2, 2⟩) (meth := k2m2) (c := k2c2) (by decide +kernel) rfl rfl rfl (by decide +kernel)
set_option maxRecDepth 65536 in
theorem w_c8 : (Jvm.Cond.code ({ cls := "com/example/esteem/esteem/index/Postings", name := "<init>", desc := "([I[I[I)V" } : Jvm.MethodName) prog_21_method_1_code (4 : Nat) (Option.none : Option Jvm.ClassFile.FieldType)).before args0 about1 = true := code_word (m := ⟨6, 0⟩) (meth := k6m0) (c := k6c0) (by decide +kernel) rfl rfl rfl (by decide +kernel)
set_option maxRecDepth 65536 in
theorem w_c9 : (Jvm.Cond.code ({ cls := "com/example/esteem/esteem/index/Postings", name := "docFreq", desc := "()I" } : Jvm.MethodName) prog_21_method_2_code (1 : Nat) (Option.some Jvm.ClassFile.FieldType.int)).before args0 about1 = true := code_word (m := ⟨6, 1⟩) (meth := k6m1) (c := k6c1) (by decide +kernel) rfl rfl rfl (by decide +kernel)
set_option maxRecDepth 65536 in
theorem w_c10 : (Jvm.Cond.code ({ cls := "com/example/esteem/esteem/index/Postings", name := "doc", desc := "(I)I" } : Jvm.MethodName) prog_21_method_3_code (2 : Nat) (Option.some Jvm.ClassFile.FieldType.int)).before args0 about1 = true := code_word (m := ⟨6, 2⟩) (meth := k6m2) (c := k6c2) (by decide +kernel) rfl rfl rfl (by decide +kernel)
set_option maxRecDepth 65536 in
theorem w_c11 : (Jvm.Cond.code ({ cls := "com/example/esteem/esteem/index/Postings", name := "position", desc := "(II)I" } : Jvm.MethodName) prog_21_method_5_code (3 : Nat) (Option.some Jvm.ClassFile.FieldType.int)).before args0 about1 = true := code_word (m := ⟨6, 4⟩) (meth := k6m4) (c := k6c4) (by decide +kernel) rfl rfl rfl (by decide +kernel)
set_option maxRecDepth 65536 in
theorem w_c12 : (Jvm.Cond.code ({ cls := "com/example/esteem/esteem/index/Postings", name := "freq", desc := "(I)I" } : Jvm.MethodName) prog_21_method_4_code (2 : Nat) (Option.some Jvm.ClassFile.FieldType.int)).before args0 about1 = true := code_word (m := ⟨6, 3⟩) (meth := k6m3) (c := k6c3) (by decide +kernel) rfl rfl rfl (by decide +kernel)
def codes1 : List Jvm.Cond := [Jvm.Cond.code x code maxLocals ret, Jvm.Cond.code ({ cls := "com/example/esteem/esteem/index/Postings$Builder", name := "<init>", desc := "()V" } : Jvm.MethodName) prog_22_method_1_code (1 : Nat) (Option.none : Option Jvm.ClassFile.FieldType), Jvm.Cond.code ({ cls := "java/lang/Object", name := "<init>", desc := "()V" } : Jvm.MethodName) object_method_1_code (1 : Nat) (Option.none : Option Jvm.ClassFile.FieldType), Jvm.Cond.code ({ cls := "com/example/esteem/esteem/index/Postings$Builder", name := "add", desc := "(II)V" } : Jvm.MethodName) prog_22_method_2_code (5 : Nat) (Option.none : Option Jvm.ClassFile.FieldType), Jvm.Cond.code ({ cls := "com/example/esteem/esteem/index/Postings$Builder", name := "lastPosition", desc := "()I" } : Jvm.MethodName) prog_22_method_4_code (1 : Nat) (Option.some Jvm.ClassFile.FieldType.int), Jvm.Cond.code ({ cls := "java/util/Arrays", name := "copyOf", desc := "([II)[I" } : Jvm.MethodName) jdk_65_method_123_code (3 : Nat) (Option.some (Jvm.ClassFile.FieldType.array Jvm.ClassFile.FieldType.int)), Jvm.Cond.code ({ cls := "java/lang/Math", name := "min", desc := "(II)I" } : Jvm.MethodName) jdk_29_method_69_code (2 : Nat) (Option.some Jvm.ClassFile.FieldType.int), Jvm.Cond.code ({ cls := "com/example/esteem/esteem/index/Postings$Builder", name := "build", desc := "()Lcom/example/esteem/esteem/index/Postings;" } : Jvm.MethodName) prog_22_method_3_code (1 : Nat) (Option.some (Jvm.ClassFile.FieldType.object "com/example/esteem/esteem/index/Postings")), Jvm.Cond.code ({ cls := "com/example/esteem/esteem/index/Postings", name := "<init>", desc := "([I[I[I)V" } : Jvm.MethodName) prog_21_method_1_code (4 : Nat) (Option.none : Option Jvm.ClassFile.FieldType), Jvm.Cond.code ({ cls := "com/example/esteem/esteem/index/Postings", name := "docFreq", desc := "()I" } : Jvm.MethodName) prog_21_method_2_code (1 : Nat) (Option.some Jvm.ClassFile.FieldType.int), Jvm.Cond.code ({ cls := "com/example/esteem/esteem/index/Postings", name := "doc", desc := "(I)I" } : Jvm.MethodName) prog_21_method_3_code (2 : Nat) (Option.some Jvm.ClassFile.FieldType.int), Jvm.Cond.code ({ cls := "com/example/esteem/esteem/index/Postings", name := "position", desc := "(II)I" } : Jvm.MethodName) prog_21_method_5_code (3 : Nat) (Option.some Jvm.ClassFile.FieldType.int), Jvm.Cond.code ({ cls := "com/example/esteem/esteem/index/Postings", name := "freq", desc := "(I)I" } : Jvm.MethodName) prog_21_method_4_code (2 : Nat) (Option.some Jvm.ClassFile.FieldType.int)]
set_option maxRecDepth 65536 in
theorem codes_eq : words1.filter isCode = codes1 := rfl
theorem w_codes : ∀ c ∈ words1.filter isCode, c.before args0 about1 = true := by
  rw [codes_eq]
  intro c hc
  simp only [codes1, List.mem_cons, List.not_mem_nil, or_false] at hc
  rcases hc with rfl | rfl | rfl | rfl | rfl | rfl | rfl | rfl | rfl | rfl | rfl | rfl | rfl
  · exact w_c0
  · exact w_c1
  · exact w_c2
  · exact w_c3
  · exact w_c4
  · exact w_c5
  · exact w_c6
  · exact w_c7
  · exact w_c8
  · exact w_c9
  · exact w_c10
  · exact w_c11
  · exact w_c12
set_option maxRecDepth 65536 in
theorem w_t1 : (words1.take 24).all (fun c => isCode c || c.before args0 about1) = true := by decide +kernel
set_option maxRecDepth 65536 in
theorem w_t2 : ((words1.drop 24).take 24).all (fun c => isCode c || c.before args0 about1) = true := by decide +kernel
set_option maxRecDepth 65536 in
theorem w_t3 : (((words1.drop 24).drop 24).take 24).all (fun c => isCode c || c.before args0 about1) = true := by decide +kernel
set_option maxRecDepth 65536 in
theorem w_t4 : (((words1.drop 24).drop 24).drop 24).all (fun c => isCode c || c.before args0 about1) = true := by decide +kernel
theorem w_tables : (allAtoms (Jvm.Cond.code x code maxLocals ret :: tables_1)).before args0 about1 = true := by
  rw [allAtoms_all]
  show words1.all (fun c => c.before args0 about1) = true
  refine all_split ?_ w_codes
  rw [← List.take_append_drop 24 words1, List.all_append, w_t1, ← List.take_append_drop 24 (words1.drop 24), List.all_append, w_t2, ← List.take_append_drop 24 ((words1.drop 24).drop 24), List.all_append, w_t3, w_t4]
  rfl
set_option maxRecDepth 65536 in
theorem w_case : (Jvm.Cond.and given_1 narrow_1).before args0 about1 = true := by decide +kernel
theorem w_applies : (headSpec (Jvm.Cond.code x code maxLocals ret :: tables_1) room_1).applies x e0.platform about1 = true :=
  (Spec.applies_iff w_frames).mpr ⟨w_running, w_runnable, w_alone, w_named, w_hears, w_ripe, w_room, w_tables⟩
theorem atStart : AtStart classFile x code maxLocals ret World_1 tables_1 room_1 Calls_1 rest_1 Pre_1 launch0 p0 e0 about1 theMethod args0 below0 :=
  ⟨lists_1, trivial, launch0.admits_env _ _ _, launch0.least_env, fairChoices_fair.cas, fairChoices_fair.clock, w_frames, w_args, w_heap, w_applies, trivial, trivial, w_case⟩
end start1
theorem witness_1 : WitnessClaimed_1 := ⟨start1.p0, start1.e0, start1.about1, start1.theMethod, start1.args0, start1.below0, start1.atStart⟩
end Jvm.Pilot.@@N@@
