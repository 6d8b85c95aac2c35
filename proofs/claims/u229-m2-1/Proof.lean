import JvmDerived
import JvmDerived.Pilot.@@N@@Statement
import JvmDerived.Pilot.@@N@@Code
set_option linter.unusedVariables false
set_option linter.unusedSimpArgs false
namespace Jvm.RoadKit
open Sem ClassFile Op Lib Jvm.Stand Jvm.Free Jvm.LawKit
section New
variable {p : Program} {l : Launch} {e : Env} {R : Room} {s : State} {m : MethodId} {args : Array Value} {below : List Frame} {meth : Method} {c : Code} {T : State} {locs : List Loc} {cells slots : Nat}
theorem retI (X : Stand p l e R s m args below meth c T locs cells slots) (hx : p.tables.exec = Jvm.exec) {pc : Nat} {Ls : Array Slot} {z : Int32} {rest : List Value} (hret : meth.sig.returnType = some .int) (hd : decode c.code pc = .ok (.ireturn, 1)) {fs : List Frame}
    (hl : ∀ (f : JFrame) (acts : List Action), f.method = m → f.locked = none → f.entered = [] → (doReturn e (T.setTop f) acts (some (.int z))).1 = T.setFrames fs) : Steps p.tables e below (T.setTop (mkF m pc Ls (.int z :: rest))) (T.setFrames fs) := by
  have hm' : T.vm.method? m = some meth := X.method'
  have hn : narrow .int (.int z) = .int z := rfl
  show Steps p.tables e below (T.setTop { method := m, pc := pc, locals := Ls, stack := _ :: rest, locked := none }) _
  jvm_step X.here [X.here.top, hx, hd, hm', hret, hn]
  first | (intro acts; rw [hl _ acts rfl rfl rfl]) | rw [hl _ _ rfl rfl rfl]
  exact Steps.refl _
end New
end Jvm.RoadKit
namespace Jvm.Pilot.@@N@@
open Jvm Jvm.ClassFile Sem Op Lib Jvm.Free Jvm.Stand Jvm.LawKit Jvm.RoadKit Bundle Jvm.Pilot.@@N@@.Jvm.D
theorem own_st {p : Program} {l : Launch} {e : Env} {R : Room} {s : State} {m : MethodId} {args : Array Value} {below : List Frame} {meth : Method} {c : Code} {T : State} {L : List Loc} {k n k' n' : Nat} (X : Stand p l e R s m args below meth c T L k n) (hk : k = k') (hn : n = n') : Stand p l e R s m args below meth c T L k' n' := by subst hk; subst hn; exact X
theorem own_fr {n : Nat} {L L' L2 : List Loc} (h : L = L' ++ L2) (N : Fr n L') (N2 : Fr n L2) : Fr n L := by rw [h]; exact Fr.app N N2
theorem own_frm {n n' : Nat} {L : List Loc} (h : n ≤ n') (N : Fr n' L) : Fr n L := fun y hy => Nat.le_trans h (N y hy)
def own_Ar (Z : State) (h : Heap) (a : Addr) (ty : FieldType) (n : Nat) (f : Nat → Value) : Prop := ∃ c : Cell, (Arr Z h a c ty ∧ Z.vm.findClass ("[" ++ ty.toString) = some c.cls) ∧ c.slots.size = n ∧ ∀ i, i < n → c.slots[i]? = some (f i)
def own_upd (f : Nat → Value) (k : Nat) (v : Value) : Nat → Value := fun i => if i = k then v else f i
section OwnArr
variable {Z : State} {h h' : Heap} {a b : Addr} {ty : FieldType} {n : Nat} {f g : Nat → Value} {v : Value} {sl : Nat} {ws : List Addr}
theorem own_slots (c : Cell) (i : Nat) (v : Value) : (c.setSlot i v).slots = c.slots.setIfInBounds i v := rfl
theorem own_Ar.lt (F : own_Ar Z h a ty n f) : a < h.size := by obtain ⟨c, A, -⟩ := F; exact A.1.lt
theorem own_Ar.ext (F : own_Ar Z h a ty n f) (E : Ext h h') : own_Ar Z h' a ty n f := by obtain ⟨c, A, r⟩ := F; exact ⟨c, ⟨A.1.ext E, A.2⟩, r⟩
theorem own_Ar.other (F : own_Ar Z h b ty n f) (W : Wr h h' a sl v) (q : b ≠ a) : own_Ar Z h' b ty n f := by obtain ⟨c, A, r⟩ := F; exact ⟨c, ⟨A.1.other W q, A.2⟩, r⟩
theorem own_Ar.keep (F : own_Ar Z h a ty n f) (K : Keep h h' ws) (q : a ∉ ws) : own_Ar Z h' a ty n f := by obtain ⟨c, A, r⟩ := F; exact ⟨c, ⟨⟨K.2.1 a c A.1.1 q, A.1.2⟩, A.2⟩, r⟩
theorem own_Ar.set (F : own_Ar Z h a ty n f) (W : Wr h h' a sl v) : own_Ar Z h' a ty n (own_upd f sl v) := by
  obtain ⟨c, A, S, H⟩ := F
  refine ⟨_, ⟨A.1.same W, A.2⟩, by rw [sz_set]; exact S, fun i hi => ?_⟩
  rw [own_slots]
  by_cases q : i = sl
  · subst q
    rw [Array.getElem?_setIfInBounds_self_of_lt (by rw [S]; exact hi)]
    exact congrArg some (if_pos rfl).symm
  · rw [Array.getElem?_setIfInBounds_ne (Ne.symm q), H i hi]
    exact congrArg some (if_neg q).symm
theorem own_Ar.congr (F : own_Ar Z h a ty n f) (q : ∀ i, i < n → f i = g i) : own_Ar Z h a ty n g := by
  obtain ⟨c, A, S, H⟩ := F; exact ⟨c, A, S, fun i hi => by rw [H i hi, q i hi]⟩
theorem own_ld {c : Cell} (S : c.slots.size = n) (H : ∀ i, i < n → c.slots[i]? = some (f i)) {j : Int32} {i : Nat} (hj : ¬ j < 0) (hji : j.toNatClampNeg = i) (hi : i < n) {v : Value} (hv : f i = v) : ¬ (j < 0 ∨ c.slots.size ≤ j.toNatClampNeg) ∧ c.slots[j.toNatClampNeg]? = some v :=
  ⟨by rw [S, hji]; intro q; rcases q with q | q
      · exact hj q
      · omega, by rw [hji, H i hi, hv]⟩
end OwnArr
section OwnLaws
variable {p : Program} {l : Launch} {e : Env} {R : Room} {s : State} {m : MethodId} {args : Array Value} {below : List Frame} {meth : Method} {c : Code} {T : State} {locs : List Loc} {cells slots : Nat} {Z : State} {a0 : Array Value} {h : Heap}
theorem own_newP (X : Stand p l e R s m args below meth c T locs cells slots) (hx : p.tables.exec = Jvm.exec) (hZ : Z.Warmed39 s.vm) {aty : ArrayType} (w : (Cond.arrayClass (newarray.typeOf aty)).before a0 Z = true) (eT : T.heap = h) {g : JFrame} (hg : g.method = m) (hd : decode c.code g.pc = .ok (.newarray aty, 2)) {n : Int32} {rest : List Value} (hs : g.stack = .int n :: rest)
    (hn : ¬ n < 0) {cap : Nat} (hcap : n.toNatClampNeg ≤ cap) (hb : cap * 8 ≤ 536870912) (hc : cells + 1 ≤ R.cells) (hl : slots + cap ≤ R.slots) :
    ∃ T' h', Stand p l e R s m args below meth c T' locs (cells + 1) (slots + cap) ∧ T'.heap = h' ∧ Ext h h' ∧ own_Ar Z h' h.size (newarray.typeOf aty) n.toNatClampNeg (fun _ => defaultValue (newarray.typeOf aty)) ∧
      ∀ target, Steps p.tables e below (T'.setTop { g with pc := g.pc + 2, stack := .ref h.size :: rest }) target → Steps p.tables e below (T.setTop g) target := by
  have hcb : componentBytes (newarray.typeOf aty) ≤ 8 := by cases aty <;> decide
  obtain ⟨cA, kA, comp, h1, h2, h3, X', st⟩ := X.newarrayPrim hx (mvA hZ w) hg hd hs hn (Nat.le_trans (Nat.mul_le_mul hcap hcb) hb) hc (Nat.le_trans (Nat.add_le_add_left hcap _) hl)
  subst eT
  have hat : (T.heap.push { cls := cA, slots := Array.replicate n.toNatClampNeg (defaultValue (newarray.typeOf aty)), vm := .none })[T.heap.size]? = some { cls := cA, slots := Array.replicate n.toNatClampNeg (defaultValue (newarray.typeOf aty)), vm := .none } := Array.getElem?_push_size
  refine ⟨_, _, X'.more (Nat.le_refl _) (Nat.add_le_add_left hcap _), rfl, ⟨?_, fun y cy hy => ?_⟩, ⟨_, ⟨⟨hat, State.isArrayOf_alike hZ.alike.symm ⟨fun k => (nomatch ·), kA, h2, comp, h3⟩, (nomatch ·)⟩, ?_⟩, ?_, fun i hi => ?_⟩, st⟩
  · show T.heap.size ≤ (T.heap.push _).size
    rw [Array.size_push]; exact Nat.le_succ _
  · show (T.heap.push _)[y]? = some cy
    rw [Array.getElem?_push_lt (Array.getElem?_eq_some_iff.mp hy).1]; exact (Array.getElem?_eq_getElem _).symm.trans hy
  · rw [hZ.alike.findClass] at h1; exact h1
  · exact Array.size_replicate
  · show (Array.replicate _ _)[i]? = _
    rw [Array.getElem?_replicate, if_pos hi]
theorem own_copy (X : Stand p l e R s m args below meth c T locs cells slots) (hx : p.tables.exec = Jvm.exec) (hZ : Z.Warmed39 s.vm) {own : String} {idx : Nat} (hown : s.vm.findClass own = some m.cls)
    (wl : (Cond.methodLink own idx Jvm.Free.JA.CopyOfI.yN).before a0 Z = true) (ws : (Cond.static Jvm.Free.JA.CopyOfI.yN).before a0 Z = true) (wt : ∀ (a' : Array Value), Jvm.Free.JA.CopyOfI.tab.before a' s = true) (wi : (Cond.initialized "java/util/Arrays").before a0 Z = true) (wc : (Cond.code Jvm.Free.JA.CopyOfI.yN Jvm.Free.JA.CopyOfI.yB 3 (some (.array .int))).before a0 Z = true)
    (eT : T.heap = h) {d : Addr} {N n : Nat} {v : Nat → Int32} (V : own_Ar Z h d .int N (fun i => .int (v i))) (hN : N < 2 ^ 31) (hn : n ≤ 134217728) {g : JFrame} (hg : g.method = m) (hsize : g.locals.size = c.maxLocals) {rest : List Value} (hs : g.stack = .int (Int32.ofNat n) :: .ref d :: rest) {W : Nat} (hW : 2 * g.monitorRoom + (rest.map fun v => v.category).sum ≤ W) (hd : decode c.code g.pc = .ok (.invokestatic idx, 3))
    (hfr : 2 ≤ R.frames) (hlo : W + 54 ≤ R.locals) (hc : cells + 1 ≤ R.cells) (hl : slots + n ≤ R.slots) :
    ∃ T' h', Stand p l e R s m args below meth c T' locs (cells + 1) (slots + n) ∧ T'.heap = h' ∧ Ext h h' ∧ own_Ar Z h' h.size .int n (fun i => .int (if i < N then v i else 0)) ∧
      ∀ target, Steps p.tables e below (T'.setTop { g with pc := g.pc + 3, stack := .ref h.size :: rest }) target → Steps p.tables e below (T.setTop g) target := by
  obtain ⟨A, ⟨A1, A2⟩, S, H⟩ := V
  subst eT
  have hty : Jvm.Free.XT.Typed .int A := fun i x hx => by
    have hi : i < N := by rw [← S]; exact (Array.getElem?_eq_some_iff.mp hx).1
    rw [H i hi] at hx
    cases hx; rfl
  obtain ⟨r, vm₁, ⟨T', L', k', j'⟩, hW1, X', ⟨hE, l1, l2, l3⟩, st⟩ := Jvm.LawKit.callS X hx (y := Jvm.Free.JA.CopyOfI.yN) hown (mvT hZ wl) (mvT hZ ws) (mvT hZ wi) (mvT hZ wc) (by decide) (Jvm.Free.JA.CopyOfI.pays (W := W) d A n (wt args) hfr hlo) (g := g) hg hsize (argsL := [.ref d, .int (Int32.ofNat n)]) (rest := rest) (lenOf (ps := [.array .int, .int]) (r := some (.array .int)) (by decide +kernel) rfl) hs hW hd
    (fun vm hvm => ⟨hc, hl, rfl, ⟨A1.1, State.isArrayOf_alike (hZ.alike.trans hvm.alike) A1.2.1, A1.2.2, by rw [S]; exact hN⟩, by show vm.findClass "[I" = _; rw [(hZ.alike.trans hvm.alike).findClass]; exact A2, hty, hn⟩)
  dsimp only [Pt.U, Pt.locs, Pt.cells, Pt.slots] at X' l1 l2 l3 st hE
  rw [List.append_nil] at l1
  subst l1 l2 l3
  obtain ⟨rfl, B, B1, B2, B3, B4, B5, B6⟩ := hE
  have hal : Z.vm.Alike T'.vm := hZ.alike.trans X'.warmed.alike
  refine ⟨T', _, X', rfl, ⟨Nat.le_of_lt (Array.getElem?_eq_some_iff.mp B1.1).1, fun y cy hy => B6 y cy hy⟩, ⟨B, ⟨⟨B1.1, State.isArrayOf_alike hal.symm B1.2.1, B1.2.2.1⟩, by rw [← hal.findClass]; exact B3⟩, B4, fun i hi => ?_⟩, st⟩
  rw [B5 i hi]
  show some (A.slots.getD i (defaultValue .int)) = some (Value.int (if i < N then v i else 0))
  by_cases q : i < N
  · rw [if_pos q, Array.getD_eq_getD_getElem?, H i q]; rfl
  · rw [if_neg q, Array.getD_eq_getD_getElem?, Array.getElem?_eq_none (by rw [S]; omega)]; rfl
end OwnLaws
theorem own_i32 {i : Nat} (h : i < 2 ^ 31) : (Int32.ofNat i).toInt = i := Int32.toInt_ofNat_small h
theorem own_lt {i n : Nat} (hi : i < 2 ^ 31) (hn : n < 2 ^ 31) : Int32.ofNat i < Int32.ofNat n ↔ i < n := by
  rw [Int32.lt_iff_toInt_lt, own_i32 hi, own_i32 hn]; omega
theorem own_n0 {n : Nat} (hn : n < 2 ^ 31) : ¬ Int32.ofNat n < 0 := by
  rw [Int32.lt_iff_toInt_lt, own_i32 hn, show (0 : Int32).toInt = 0 from rfl]; omega
theorem own_n32 {n : Nat} (hn : n < 2 ^ 31) : (Int32.ofNat n).toNatClampNeg = n := by
  rw [Int32.toNatClampNeg, own_i32 hn]; rfl
theorem own_one (i : Nat) : Int32.ofNat i + (1 : Int32) = Int32.ofNat (i + 1) := (Int32.ofNat_add i 1).symm
theorem own_two (i : Nat) : Int32.ofNat i * (2 : Int32) = Int32.ofNat (i * 2) := (Int32.ofNat_mul i 2).symm
theorem own_plus (i j : Nat) : Int32.ofNat i + Int32.ofNat j = Int32.ofNat (i + j) := (Int32.ofNat_add i j).symm
theorem own_ij {i j : Nat} (hi : i < 2 ^ 31) (hj : j < 2 ^ 31) : Int32.ofNat i = Int32.ofNat j ↔ i = j := by
  constructor
  · intro h
    have := congrArg Int32.toInt h
    rw [own_i32 hi, own_i32 hj] at this
    omega
  · intro h; rw [h]
theorem own_sub {i q : Nat} (h : q ≤ i) (hi : i < 2 ^ 31) : Int32.ofNat i - Int32.ofNat q = Int32.ofNat (i - q) := by
  apply Int32.toInt_inj.mp
  have a := c_isub (Int32.ofNat i) (Int32.ofNat q)
  have b := rng32 (Int32.ofNat i - Int32.ofNat q)
  rw [own_i32 hi, own_i32 (show q < 2 ^ 31 by omega)] at a
  rw [own_i32 (show i - q < 2 ^ 31 by omega)]
  omega
theorem own_sub1 {n : Nat} (h : 1 ≤ n) (hi : n < 2 ^ 31) : Int32.ofNat n - (1 : Int32) = Int32.ofNat (n - 1) := own_sub h hi
def own_updI (f : Nat → Int32) (k : Nat) (v : Int32) : Nat → Int32 := fun i => if i = k then v else f i
def own_Pf (Z : State) (h : Heap) (a : Addr) (n k : Nat) (f : Nat → Int32) : Prop := ∃ g : Nat → Int32, own_Ar Z h a .int n (fun i => .int (g i)) ∧ ∀ i, i < k → g i = f i
theorem own_Pf.of {Z : State} {h : Heap} {a : Addr} {n k : Nat} {f g : Nat → Int32} (V : own_Ar Z h a .int n (fun i => .int (g i))) (q : ∀ i, i < k → g i = f i) : own_Pf Z h a n k f := ⟨g, V, q⟩
theorem own_Pf.put {Z : State} {h : Heap} {a : Addr} {n k : Nat} {f g : Nat → Int32} {x : Int32} (V : own_Ar Z h a .int n (own_upd (fun i => .int (g i)) k (.int x))) (q : ∀ i, i < k → g i = f i) : own_Pf Z h a n (k + 1) (own_updI f k x) :=
  ⟨own_updI g k x, V.congr fun i _ => by unfold own_upd own_updI; split <;> rfl, fun i hi => by
    unfold own_updI
    by_cases z : i = k
    · rw [if_pos z, if_pos z]
    · rw [if_neg z, if_neg z]; exact q i (by omega)⟩
theorem own_Pf.le {Z : State} {h : Heap} {a : Addr} {n k k' : Nat} {f : Nat → Int32} (V : own_Pf Z h a n k f) (q : k' ≤ k) : own_Pf Z h a n k' f := by
  obtain ⟨g, V, hg⟩ := V; exact ⟨g, V, fun i hi => hg i (by omega)⟩
theorem own_Pf.grown {Z : State} {h : Heap} {a : Addr} {n N k : Nat} {f g : Nat → Int32} (V : own_Ar Z h a .int n (fun i => .int (if i < N then g i else 0))) (q : ∀ i, i < k → g i = f i) (hk : k ≤ N) : own_Pf Z h a n k f :=
  ⟨fun i => if i < N then g i else 0, V, fun i hi => by show (if i < N then g i else 0) = f i; rw [if_pos (show i < N by omega)]; exact q i hi⟩
def own_Bd (Z : State) (h : Heap) (n0 : Nat) (a dd ds dp : Addr) (dl sl pl dc ks pc : Nat) (df sf pf : Nat → Int32) : Prop :=
  (Fld Z h a "com/example/esteem/esteem/index/Postings$Builder" "docs" "[I" (.ref dd) ∧ Fld Z h a "com/example/esteem/esteem/index/Postings$Builder" "starts" "[I" (.ref ds) ∧ Fld Z h a "com/example/esteem/esteem/index/Postings$Builder" "positions" "[I" (.ref dp) ∧ Fld Z h a "com/example/esteem/esteem/index/Postings$Builder" "docCount" "I" (.int (Int32.ofNat dc)) ∧ Fld Z h a "com/example/esteem/esteem/index/Postings$Builder" "positionCount" "I" (.int (Int32.ofNat pc)) ∧ Exa Z h a "com/example/esteem/esteem/index/Postings$Builder") ∧ (own_Pf Z h dd dl dc df ∧ own_Pf Z h ds sl ks sf ∧ own_Pf Z h dp pl pc pf) ∧ (dd ≠ ds ∧ dd ≠ dp ∧ ds ≠ dp ∧ a ≠ dd ∧ a ≠ ds ∧ a ≠ dp) ∧ (n0 ≤ a ∧ n0 ≤ dd ∧ n0 ≤ ds ∧ n0 ≤ dp) ∧ (dc ≤ dl ∧ 1 ≤ dl ∧ dl ≤ 8 ∧ dl + 1 ≤ sl ∧ sl ≤ 16 ∧ pc ≤ pl ∧ 1 ≤ pl ∧ pl ≤ 8)
def own_Po (Z : State) (h : Heap) (n0 : Nat) (a dd ds dp : Addr) (dc pc : Nat) (df sf pf : Nat → Int32) : Prop :=
  (Fld Z h a "com/example/esteem/esteem/index/Postings" "docs" "[I" (.ref dd) ∧ Fld Z h a "com/example/esteem/esteem/index/Postings" "starts" "[I" (.ref ds) ∧ Fld Z h a "com/example/esteem/esteem/index/Postings" "positions" "[I" (.ref dp) ∧ Exa Z h a "com/example/esteem/esteem/index/Postings") ∧ (own_Pf Z h dd dc dc df ∧ own_Pf Z h ds (dc + 1) (dc + 1) sf ∧ own_Pf Z h dp pc pc pf)
theorem own_mvn {Z s : State} {a0 args : Array Value} {own host : String} {idx : Nat} {y : MethodName} (hZ : Z.Warmed39 s.vm) (w : (Cond.methodLinkNest own idx y host).before a0 Z = true) : (Cond.methodLinkNest own idx y host).before args s = true := (Cond.methodLinkNest_wide hZ w :)
theorem own_st2 {p : Program} {l : Launch} {e : Env} {R : Room} {s : State} {m : MethodId} {args : Array Value} {below : List Frame} {meth : Method} {c : Code} {T : State} {L : List Loc} {k n k' n' : Nat} (X : Stand p l e R s m args below meth c T L k n) (hk : k ≤ k') (hn : n ≤ n') : Stand p l e R s m args below meth c T L k' n' := X.more hk hn
theorem own_rem (x y : Int32) (d : Int) (hy : y.toInt = d) (hd : 0 < d) (hx : 0 ≤ x.toInt) : (x - (x / y) * y).toInt = x.toInt % d := by
  have hn : y ≠ -1 := fun q => by
    rw [q] at hy
    have : (-1 : Int32).toInt = -1 := rfl
    omega
  have q := (c_idiv x y d hy hn).1 hx
  have m := c_imul (x / y) y
  have r := rng32 ((x / y) * y)
  have t := c_isub x ((x / y) * y)
  have u := rng32 (x - (x / y) * y)
  have v := rng32 x
  rw [q, hy] at m
  have e := Int.mul_ediv_add_emod x.toInt d
  have e1 := Int.emod_nonneg x.toInt (show d ≠ 0 by omega)
  have e2 := Int.emod_lt_of_pos x.toInt hd
  have e3 : 0 ≤ d * (x.toInt / d) := Int.mul_nonneg (by omega) (Int.ediv_nonneg hx (by omega))
  rw [Int.mul_comm] at m
  generalize d * (x.toInt / d) = P at *
  omega
theorem own_nn (x : Int32) : 0 ≤ (x &&& (2147483647 : Int32)).toInt := (c_and x 2147483647 (by decide)).1
theorem own_nat {j : Int32} (h : 0 ≤ j.toInt) : ¬ j < 0 ∧ j.toNatClampNeg = j.toInt.toNat := ⟨fun q => by
  rw [Int32.lt_iff_toInt_lt] at q
  have : (0 : Int32).toInt = 0 := rfl
  omega, rfl⟩
theorem own_tab {Z s : State} {a0 : Array Value} (hZ : Z.Warmed39 s.vm) (hw : ∀ d ∈ tables_1, d.before a0 Z = true) (a' : Array Value) : Jvm.Free.JA.CopyOfI.tab.before a' s = true := by
  refine Jvm.Free.XT.unparts (mvT hZ (hw _ (List.mem_of_getElem? (i := 33) rfl))) ?_
  intro w hwm
  have hq : w ∈ ([.initialized "java/util/Arrays", .classLink "java/util/Arrays" 317 "[I", .castable "[I" "[I", .arrayClass .int, Jvm.Free.JP.Math_min_II.tab, .methodLink "java/util/Arrays" 316 (⟨"[I", "clone", "()Ljava/lang/Object;"⟩ : MethodName), .sameMethod "[I" "java/lang/Object" "clone" "()Ljava/lang/Object;", .native (⟨"java/lang/Object", "clone", "()Ljava/lang/Object;"⟩ : MethodName), .instanceMethod (⟨"java/lang/Object", "clone", "()Ljava/lang/Object;"⟩ : MethodName), .selects "[I" (⟨"[I", "clone", "()Ljava/lang/Object;"⟩ : MethodName) (⟨"java/lang/Object", "clone", "()Ljava/lang/Object;"⟩ : MethodName), .castable "[I" "java/lang/Cloneable", .methodLink "java/util/Arrays" 304 (⟨"java/lang/Math", "min", "(II)I"⟩ : MethodName), .static (⟨"java/lang/Math", "min", "(II)I"⟩ : MethodName), .methodLink "java/util/Arrays" 150 (⟨"java/lang/System", "arraycopy", "(Ljava/lang/Object;ILjava/lang/Object;II)V"⟩ : MethodName), .native (⟨"java/lang/System", "arraycopy", "(Ljava/lang/Object;ILjava/lang/Object;II)V"⟩ : MethodName), .static (⟨"java/lang/System", "arraycopy", "(Ljava/lang/Object;ILjava/lang/Object;II)V"⟩ : MethodName), .initialized "java/lang/System"] : List Jvm.Cond) := hwm
  simp only [List.mem_cons, List.not_mem_nil, or_false] at hq
  rcases hq with rfl | rfl | rfl | rfl | rfl | rfl | rfl | rfl | rfl | rfl | rfl | rfl | rfl | rfl | rfl | rfl | rfl
  · exact mvT hZ (hw _ (List.mem_of_getElem? (i := 32) rfl))
  · exact mvT hZ (hw _ (List.mem_of_getElem? (i := 71) rfl))
  · exact mvT hZ (hw _ (List.mem_of_getElem? (i := 72) rfl))
  · exact mvA hZ (hw _ (List.mem_of_getElem? (i := 2) rfl))
  · exact Jvm.Free.XT.unparts (mvT hZ (hw _ (List.mem_of_getElem? (i := 37) rfl))) (fun w hq => by cases List.mem_singleton.mp hq; exact mvT hZ (hw _ (List.mem_of_getElem? (i := 36) rfl)))
  · exact mvT hZ (hw _ (List.mem_of_getElem? (i := 64) rfl))
  · exact mvT hZ (hw _ (List.mem_of_getElem? (i := 65) rfl))
  · exact mvT hZ (hw _ (List.mem_of_getElem? (i := 69) rfl))
  · exact mvT hZ (hw _ (List.mem_of_getElem? (i := 67) rfl))
  · exact mvT hZ (hw _ (List.mem_of_getElem? (i := 68) rfl))
  · exact mvT hZ (hw _ (List.mem_of_getElem? (i := 70) rfl))
  · exact mvT hZ (hw _ (List.mem_of_getElem? (i := 34) rfl))
  · exact mvT hZ (hw _ (List.mem_of_getElem? (i := 35) rfl))
  · exact mvT hZ (hw _ (List.mem_of_getElem? (i := 38) rfl))
  · exact mvT hZ (hw _ (List.mem_of_getElem? (i := 41) rfl))
  · exact mvT hZ (hw _ (List.mem_of_getElem? (i := 39) rfl))
  · exact mvT hZ (hw _ (List.mem_of_getElem? (i := 40) rfl))
def own_last (dc : Nat) (df : Nat → Int32) : Int32 := if dc = 0 then (-1 : Int32) else df (dc - 1)
def own_same (x y : Int32) : Int32 := if x = y then 1 else 0
theorem d8_77 : decode prog_21_method_2_code 77 = .ok (.aload_n 0, 1) := by decide +kernel
theorem d8_78 : decode prog_21_method_2_code 78 = .ok (.getfield 19, 3) := by decide +kernel
theorem d8_81 : decode prog_21_method_2_code 81 = .ok (.aload_n 0, 1) := by decide +kernel
theorem d8_82 : decode prog_21_method_2_code 82 = .ok (.getfield 7, 3) := by decide +kernel
theorem d8_85 : decode prog_21_method_2_code 85 = .ok (.arraylength, 1) := by decide +kernel
theorem d8_86 : decode prog_21_method_2_code 86 = .ok (.if_icmp .ne 39, 3) := by decide +kernel
theorem d8_89 : decode prog_21_method_2_code 89 = .ok (.aload_n 0, 1) := by decide +kernel
theorem d8_90 : decode prog_21_method_2_code 90 = .ok (.aload_n 0, 1) := by decide +kernel
theorem d8_91 : decode prog_21_method_2_code 91 = .ok (.getfield 7, 3) := by decide +kernel
theorem d8_94 : decode prog_21_method_2_code 94 = .ok (.aload_n 0, 1) := by decide +kernel
theorem d8_95 : decode prog_21_method_2_code 95 = .ok (.getfield 19, 3) := by decide +kernel
theorem d8_98 : decode prog_21_method_2_code 98 = .ok (.iconst 2, 1) := by decide +kernel
theorem d8_99 : decode prog_21_method_2_code 99 = .ok (.imul, 1) := by decide +kernel
theorem d8_100 : decode prog_21_method_2_code 100 = .ok (.invokestatic 36, 3) := by decide +kernel
theorem d8_103 : decode prog_21_method_2_code 103 = .ok (.putfield 7, 3) := by decide +kernel
theorem d8_106 : decode prog_21_method_2_code 106 = .ok (.aload_n 0, 1) := by decide +kernel
theorem d8_107 : decode prog_21_method_2_code 107 = .ok (.aload_n 0, 1) := by decide +kernel
theorem d8_108 : decode prog_21_method_2_code 108 = .ok (.getfield 13, 3) := by decide +kernel
theorem d8_111 : decode prog_21_method_2_code 111 = .ok (.aload_n 0, 1) := by decide +kernel
theorem d8_112 : decode prog_21_method_2_code 112 = .ok (.getfield 19, 3) := by decide +kernel
theorem d8_115 : decode prog_21_method_2_code 115 = .ok (.iconst 2, 1) := by decide +kernel
theorem d8_116 : decode prog_21_method_2_code 116 = .ok (.imul, 1) := by decide +kernel
theorem d8_117 : decode prog_21_method_2_code 117 = .ok (.iconst 1, 1) := by decide +kernel
theorem d8_118 : decode prog_21_method_2_code 118 = .ok (.iadd, 1) := by decide +kernel
theorem d8_119 : decode prog_21_method_2_code 119 = .ok (.invokestatic 36, 3) := by decide +kernel
theorem d8_122 : decode prog_21_method_2_code 122 = .ok (.putfield 13, 3) := by decide +kernel
set_option maxRecDepth 65536 in
set_option maxHeartbeats 40000000 in
theorem tn_grow {p : Program} {l : Launch} {e : Env} {R : Room} {s : State} {m : MethodId} {args : Array Value} {below : List Frame} {meth : Method} {c : Code} {T0 : State} {locs : List Loc} {cells slots : Nat} {Z : State} {a0 : Array Value} {h0 : Heap} {n0 : Nat} (a1 : Addr) (p1 p2 p3 p4 : Int32) (dd ds dp : Addr) (dl sl pl dc ks pc : Nat) (df sf pf : Nat → Int32)
    (X0 : Stand p l e R s m args below meth c T0 locs cells slots) (hx : p.tables.exec = Jvm.exec) (hZ : Z.Warmed39 s.vm) (hw : ∀ d ∈ tables_1, d.before a0 Z = true) (hby : c.code = prog_21_method_2_code) (hml : c.maxLocals = 5) (hown : s.vm.findClass "com/example/esteem/esteem/index/Postings$Builder" = some m.cls) (e0 : T0.heap = h0) (B : own_Bd Z h0 n0 a1 dd ds dp dl sl pl dc ks pc df sf pf) (hRf : 2 ≤ R.frames) (hRl : 70 ≤ R.locals) (N0 : Fr n0 locs) (Z0 : n0 ≤ h0.size) (hdc : dc ≤ 2) (hks : ks ≤ dc + 1) (hRc : cells + 2 ≤ R.cells) (hRs : slots + 9 ≤ R.slots) :
    ∃ (T' : State) (locs' : List Loc) (dd' ds' : Addr) (dl' sl' : Nat), Stand p l e R s m args below meth c T' locs' (cells + 2) (slots + 9) ∧ Fr n0 locs' ∧ Keep h0 T'.heap [a1] ∧ own_Bd Z T'.heap n0 a1 dd' ds' dp dl' sl' pl dc ks pc df sf pf ∧ dc < dl' ∧ (dd' = dd ∨ h0.size ≤ dd') ∧ (ds' = ds ∨ h0.size ≤ ds') ∧
      ∀ t, Steps p.tables e below (T'.setTop (mkF m 125 #[.val (.ref a1), .val (.int p1), .val (.int p2), .val (.int p3), .val (.int p4)] [])) t → Steps p.tables e below (T0.setTop (mkF m 77 #[.val (.ref a1), .val (.int p1), .val (.int p2), .val (.int p3), .val (.int p4)] [])) t := by
  have pre0 : ∀ t, Steps p.tables e below (T0.setTop (mkF m 77 #[.val (.ref a1), .val (.int p1), .val (.int p2), .val (.int p3), .val (.int p4)] [])) t → Steps p.tables e below (T0.setTop (mkF m 77 #[.val (.ref a1), .val (.int p1), .val (.int p2), .val (.int p3), .val (.int p4)] [])) t := fun t kT => kT
  obtain ⟨⟨F0, F1, F2, F3, F4, E0⟩, ⟨⟨gd, VD, hgd⟩, ⟨gs, VS, hgs⟩, ⟨gp, VP, hgp⟩⟩, ⟨n1, n2, n3, n4, n5, n6⟩, ⟨q0, q1, q2, q3⟩, ⟨b0, b1, b2, b3, b4, b5, b6, b7⟩⟩ := id B
  have pre1 : ∀ t, Steps p.tables e below (T0.setTop (mkF m 78 #[.val (.ref a1), .val (.int p1), .val (.int p2), .val (.int p3), .val (.int p4)] [(.ref a1)])) t → Steps p.tables e below (T0.setTop (mkF m 77 #[.val (.ref a1), .val (.int p1), .val (.int p2), .val (.int p3), .val (.int p4)] [])) t := fun t kT => pre0 t (by
    show Steps p.tables e below (T0.setTop (mkF m 77 #[.val (.ref a1), .val (.int p1), .val (.int p2), .val (.int p3), .val (.int p4)] [])) _
    refine XS.aloadN X0.here hx rfl (hb hby d8_77) rfl rfl ?_
    exact kT)
  obtain ⟨T2, X2, e2, st2⟩ := getF X0 hx hZ hown (host := "") (Or.inl (hw _ (List.mem_of_getElem? (i := 28) rfl))) Via.refl e0 F3 (g := (mkF m 78 #[.val (.ref a1), .val (.int p1), .val (.int p2), .val (.int p3), .val (.int p4)] [(.ref a1)])) rfl rfl (hb hby d8_78)
  have pre3 : ∀ t, Steps p.tables e below (T2.setTop (mkF m 81 #[.val (.ref a1), .val (.int p1), .val (.int p2), .val (.int p3), .val (.int p4)] [(.int (Int32.ofNat dc))])) t → Steps p.tables e below (T0.setTop (mkF m 77 #[.val (.ref a1), .val (.int p1), .val (.int p2), .val (.int p3), .val (.int p4)] [])) t := fun t kT => pre1 t (st2 t kT)
  have pre4 : ∀ t, Steps p.tables e below (T2.setTop (mkF m 82 #[.val (.ref a1), .val (.int p1), .val (.int p2), .val (.int p3), .val (.int p4)] [(.ref a1), (.int (Int32.ofNat dc))])) t → Steps p.tables e below (T0.setTop (mkF m 77 #[.val (.ref a1), .val (.int p1), .val (.int p2), .val (.int p3), .val (.int p4)] [])) t := fun t kT => pre3 t (by
    show Steps p.tables e below (T2.setTop (mkF m 81 #[.val (.ref a1), .val (.int p1), .val (.int p2), .val (.int p3), .val (.int p4)] [(.int (Int32.ofNat dc))])) _
    refine XS.aloadN X2.here hx rfl (hb hby d8_81) rfl rfl ?_
    exact kT)
  obtain ⟨T5, X5, e5, st5⟩ := getF X2 hx hZ hown (host := "") (Or.inl (hw _ (List.mem_of_getElem? (i := 14) rfl))) Via.refl e2 F0 (g := (mkF m 82 #[.val (.ref a1), .val (.int p1), .val (.int p2), .val (.int p3), .val (.int p4)] [(.ref a1), (.int (Int32.ofNat dc))])) rfl rfl (hb hby d8_82)
  have pre6 : ∀ t, Steps p.tables e below (T5.setTop (mkF m 85 #[.val (.ref a1), .val (.int p1), .val (.int p2), .val (.int p3), .val (.int p4)] [(.ref dd), (.int (Int32.ofNat dc))])) t → Steps p.tables e below (T0.setTop (mkF m 77 #[.val (.ref a1), .val (.int p1), .val (.int p2), .val (.int p3), .val (.int p4)] [])) t := fun t kT => pre4 t (st5 t kT)
  obtain ⟨co7, ⟨Ao7, Ko7⟩, So7, Ho7⟩ := id VD
  have pre8 : ∀ t, Steps p.tables e below (T5.setTop (mkF m 86 #[.val (.ref a1), .val (.int p1), .val (.int p2), .val (.int p3), .val (.int p4)] [(.int (Int32.ofNat dl)), (.int (Int32.ofNat dc))])) t → Steps p.tables e below (T0.setTop (mkF m 77 #[.val (.ref a1), .val (.int p1), .val (.int p2), .val (.int p3), .val (.int p4)] [])) t := fun t kT => pre6 t (by
    show Steps p.tables e below (T5.setTop (mkF m 85 #[.val (.ref a1), .val (.int p1), .val (.int p2), .val (.int p3), .val (.int p4)] [(.ref dd), (.int (Int32.ofNat dc))])) _
    refine X5.arraylength hx (by rw [e5]; exact Ao7.1) (State.isArrayOf_alike hZ.alike Ao7.2.1) (g := (mkF m 85 #[.val (.ref a1), .val (.int p1), .val (.int p2), .val (.int p3), .val (.int p4)] [(.ref dd), (.int (Int32.ofNat dc))])) rfl rfl (hb hby d8_85) _ ?_
    rw [So7]
    exact kT)
  by_cases hgr : (Int32.ofNat dc) = (Int32.ofNat dl)
  · have hg := (own_ij (by omega) (by omega)).mp hgr
    have pre9 : ∀ t, Steps p.tables e below (T5.setTop (mkF m 91 #[.val (.ref a1), .val (.int p1), .val (.int p2), .val (.int p3), .val (.int p4)] [(.ref a1), (.ref a1)])) t → Steps p.tables e below (T0.setTop (mkF m 77 #[.val (.ref a1), .val (.int p1), .val (.int p2), .val (.int p3), .val (.int p4)] [])) t := fun t kT => pre8 t (by
      show Steps p.tables e below (T5.setTop (mkF m 86 #[.val (.ref a1), .val (.int p1), .val (.int p2), .val (.int p3), .val (.int p4)] [(.int (Int32.ofNat dl)), (.int (Int32.ofNat dc))])) _
      refine XS.icmpNo X5.here hx rfl (hb hby d8_86) rfl (teq hgr).2 ?_
      show Steps p.tables e below (T5.setTop (mkF m 89 #[.val (.ref a1), .val (.int p1), .val (.int p2), .val (.int p3), .val (.int p4)] [])) _
      refine XS.aloadN X5.here hx rfl (hb hby d8_89) rfl rfl ?_
      show Steps p.tables e below (T5.setTop (mkF m 90 #[.val (.ref a1), .val (.int p1), .val (.int p2), .val (.int p3), .val (.int p4)] [(.ref a1)])) _
      refine XS.aloadN X5.here hx rfl (hb hby d8_90) rfl rfl ?_
      exact kT)
    obtain ⟨T10, X10, e10, st10⟩ := getF X5 hx hZ hown (host := "") (Or.inl (hw _ (List.mem_of_getElem? (i := 14) rfl))) Via.refl e5 F0 (g := (mkF m 91 #[.val (.ref a1), .val (.int p1), .val (.int p2), .val (.int p3), .val (.int p4)] [(.ref a1), (.ref a1)])) rfl rfl (hb hby d8_91)
    have pre11 : ∀ t, Steps p.tables e below (T10.setTop (mkF m 94 #[.val (.ref a1), .val (.int p1), .val (.int p2), .val (.int p3), .val (.int p4)] [(.ref dd), (.ref a1)])) t → Steps p.tables e below (T0.setTop (mkF m 77 #[.val (.ref a1), .val (.int p1), .val (.int p2), .val (.int p3), .val (.int p4)] [])) t := fun t kT => pre9 t (st10 t kT)
    have pre12 : ∀ t, Steps p.tables e below (T10.setTop (mkF m 95 #[.val (.ref a1), .val (.int p1), .val (.int p2), .val (.int p3), .val (.int p4)] [(.ref a1), (.ref dd), (.ref a1)])) t → Steps p.tables e below (T0.setTop (mkF m 77 #[.val (.ref a1), .val (.int p1), .val (.int p2), .val (.int p3), .val (.int p4)] [])) t := fun t kT => pre11 t (by
      show Steps p.tables e below (T10.setTop (mkF m 94 #[.val (.ref a1), .val (.int p1), .val (.int p2), .val (.int p3), .val (.int p4)] [(.ref dd), (.ref a1)])) _
      refine XS.aloadN X10.here hx rfl (hb hby d8_94) rfl rfl ?_
      exact kT)
    obtain ⟨T13, X13, e13, st13⟩ := getF X10 hx hZ hown (host := "") (Or.inl (hw _ (List.mem_of_getElem? (i := 28) rfl))) Via.refl e10 F3 (g := (mkF m 95 #[.val (.ref a1), .val (.int p1), .val (.int p2), .val (.int p3), .val (.int p4)] [(.ref a1), (.ref dd), (.ref a1)])) rfl rfl (hb hby d8_95)
    have pre14 : ∀ t, Steps p.tables e below (T13.setTop (mkF m 98 #[.val (.ref a1), .val (.int p1), .val (.int p2), .val (.int p3), .val (.int p4)] [(.int (Int32.ofNat dc)), (.ref dd), (.ref a1)])) t → Steps p.tables e below (T0.setTop (mkF m 77 #[.val (.ref a1), .val (.int p1), .val (.int p2), .val (.int p3), .val (.int p4)] [])) t := fun t kT => pre12 t (st13 t kT)
    have pre15 : ∀ t, Steps p.tables e below (T13.setTop (mkF m 100 #[.val (.ref a1), .val (.int p1), .val (.int p2), .val (.int p3), .val (.int p4)] [(.int ((Int32.ofNat dc) * (2 : Int32))), (.ref dd), (.ref a1)])) t → Steps p.tables e below (T0.setTop (mkF m 77 #[.val (.ref a1), .val (.int p1), .val (.int p2), .val (.int p3), .val (.int p4)] [])) t := fun t kT => pre14 t (by
      show Steps p.tables e below (T13.setTop (mkF m 98 #[.val (.ref a1), .val (.int p1), .val (.int p2), .val (.int p3), .val (.int p4)] [(.int (Int32.ofNat dc)), (.ref dd), (.ref a1)])) _
      refine XS.iconst X13.here hx rfl (hb hby d8_98) ?_
      show Steps p.tables e below (T13.setTop (mkF m 99 #[.val (.ref a1), .val (.int p1), .val (.int p2), .val (.int p3), .val (.int p4)] [(.int (2 : Int32)), (.int (Int32.ofNat dc)), (.ref dd), (.ref a1)])) _
      refine XS.imul X13.here hx rfl (hb hby d8_99) rfl ?_
      exact kT)
    rw [own_two] at pre15
    have pre16 : ∀ t, Steps p.tables e below (T13.setTop (mkF m 100 #[.val (.ref a1), .val (.int p1), .val (.int p2), .val (.int p3), .val (.int p4)] [(.int (Int32.ofNat (dc * 2))), (.ref dd), (.ref a1)])) t → Steps p.tables e below (T0.setTop (mkF m 77 #[.val (.ref a1), .val (.int p1), .val (.int p2), .val (.int p3), .val (.int p4)] [])) t := fun t kT => pre15 t (by
      exact kT)
    obtain ⟨T17, h17, X17, e17, E17, A17, st17⟩ := own_copy X13 hx hZ hown (hw _ (List.mem_of_getElem? (i := 30) rfl)) (hw _ (List.mem_of_getElem? (i := 31) rfl)) (fun a' => own_tab hZ hw a') (hw _ (List.mem_of_getElem? (i := 32) rfl)) (hw _ (List.mem_of_getElem? (i := 33) rfl)) e13 VD (by omega) (by omega) (g := (mkF m 100 #[.val (.ref a1), .val (.int p1), .val (.int p2), .val (.int p3), .val (.int p4)] [(.int (Int32.ofNat (dc * 2))), (.ref dd), (.ref a1)])) rfl (by rw [hml]; rfl) rfl (W := 1) (by show 2 * 0 + _ ≤ _; exact Nat.le_of_eq rfl) (hb hby d8_100) hRf (by omega) (by omega) (by show slots + (dc * 2) ≤ _; omega)
    obtain ⟨xd, g17⟩ : ∃ z, z = h0.size := ⟨_, rfl⟩
    rw [← g17] at A17 st17
    have ne_a1_xd : a1 ≠ xd := Nat.ne_of_lt (Nat.lt_of_lt_of_le F0.lt (Nat.le_of_eq g17.symm))
    have ne_dd_xd : dd ≠ xd := Nat.ne_of_lt (Nat.lt_of_lt_of_le VD.lt (Nat.le_of_eq g17.symm))
    have ne_ds_xd : ds ≠ xd := Nat.ne_of_lt (Nat.lt_of_lt_of_le VS.lt (Nat.le_of_eq g17.symm))
    have ne_dp_xd : dp ≠ xd := Nat.ne_of_lt (Nat.lt_of_lt_of_le VP.lt (Nat.le_of_eq g17.symm))
    have g_xd : n0 ≤ xd := Nat.le_trans Z0 (Nat.le_of_eq g17.symm)
    have fr_xd : h0.size ≤ xd := Nat.le_trans (Keep.refl h0 [a1]).1 (Nat.le_of_eq g17.symm)
    have pre18 : ∀ t, Steps p.tables e below (T17.setTop (mkF m 103 #[.val (.ref a1), .val (.int p1), .val (.int p2), .val (.int p3), .val (.int p4)] [(.ref xd), (.ref a1)])) t → Steps p.tables e below (T0.setTop (mkF m 77 #[.val (.ref a1), .val (.int p1), .val (.int p2), .val (.int p3), .val (.int p4)] [])) t := fun t kT => pre16 t (st17 t kT)
    have F0_e17 : Fld Z h17 a1 "com/example/esteem/esteem/index/Postings$Builder" "docs" "[I" (.ref dd) := F0.ext E17
    have F1_e17 : Fld Z h17 a1 "com/example/esteem/esteem/index/Postings$Builder" "starts" "[I" (.ref ds) := F1.ext E17
    have F2_e17 : Fld Z h17 a1 "com/example/esteem/esteem/index/Postings$Builder" "positions" "[I" (.ref dp) := F2.ext E17
    have F3_e17 : Fld Z h17 a1 "com/example/esteem/esteem/index/Postings$Builder" "docCount" "I" (.int (Int32.ofNat dc)) := F3.ext E17
    have F4_e17 : Fld Z h17 a1 "com/example/esteem/esteem/index/Postings$Builder" "positionCount" "I" (.int (Int32.ofNat pc)) := F4.ext E17
    have E0_e17 : Exa Z h17 a1 "com/example/esteem/esteem/index/Postings$Builder" := E0.ext E17
    have VD_e17 : own_Ar Z h17 dd .int dl (fun i => .int (gd i)) := VD.ext E17
    have VS_e17 : own_Ar Z h17 ds .int sl (fun i => .int (gs i)) := VS.ext E17
    have VP_e17 : own_Ar Z h17 dp .int pl (fun i => .int (gp i)) := VP.ext E17
    have sz17 : n0 ≤ h17.size := Nat.le_trans Z0 E17.1
    have KK17 : Keep h0 h17 [a1] := (Keep.refl h0 [a1]).ext E17
    have V_xd : own_Ar Z h17 xd .int (dc * 2) (fun i => .int (if i < dl then gd i else 0)) := A17
    have pre19 : ∀ t, Steps p.tables e below (T17.setTop (mkF m 103 #[.val (.ref a1), .val (.int p1), .val (.int p2), .val (.int p3), .val (.int p4)] [(.ref xd), (.ref a1)])) t → Steps p.tables e below (T0.setTop (mkF m 77 #[.val (.ref a1), .val (.int p1), .val (.int p2), .val (.int p3), .val (.int p4)] [])) t := fun t kT => pre18 t (by
      exact kT)
    obtain ⟨T20, h20, X20, e20, W20, st20⟩ := putF X17 hx hZ hown (host := "") (Or.inl (hw _ (List.mem_of_getElem? (i := 14) rfl))) Via.refl e17 F0_e17 E0_e17 (Or.inl (hw _ (List.mem_of_getElem? (i := 15) rfl))) (hw _ (List.mem_of_getElem? (i := 6) rfl)) (ty := (.array .int)) (by decide) rfl rfl (g := (mkF m 103 #[.val (.ref a1), .val (.int p1), .val (.int p2), .val (.int p3), .val (.int p4)] [(.ref xd), (.ref a1)])) rfl rfl (hb hby d8_103)
    have pre21 : ∀ t, Steps p.tables e below (T20.setTop (mkF m 106 #[.val (.ref a1), .val (.int p1), .val (.int p2), .val (.int p3), .val (.int p4)] [])) t → Steps p.tables e below (T0.setTop (mkF m 77 #[.val (.ref a1), .val (.int p1), .val (.int p2), .val (.int p3), .val (.int p4)] [])) t := fun t kT => pre19 t (st20 t kT)
    have N20 := Fr.snoc X20 N0 q0
    have F1_e20 : Fld Z h20 a1 "com/example/esteem/esteem/index/Postings$Builder" "starts" "[I" (.ref ds) := F1_e17.other W20 (Or.inr (slot_ne (Or.inl (hw _ (List.mem_of_getElem? (i := 17) rfl))) (Or.inl (hw _ (List.mem_of_getElem? (i := 15) rfl))) (by decide) (t := (.array .int)) (t' := (.array .int)) (by decide) (by decide)))
    have F2_e20 : Fld Z h20 a1 "com/example/esteem/esteem/index/Postings$Builder" "positions" "[I" (.ref dp) := F2_e17.other W20 (Or.inr (slot_ne (Or.inl (hw _ (List.mem_of_getElem? (i := 19) rfl))) (Or.inl (hw _ (List.mem_of_getElem? (i := 15) rfl))) (by decide) (t := (.array .int)) (t' := (.array .int)) (by decide) (by decide)))
    have F3_e20 : Fld Z h20 a1 "com/example/esteem/esteem/index/Postings$Builder" "docCount" "I" (.int (Int32.ofNat dc)) := F3_e17.other W20 (Or.inr (slot_ne (Or.inl (hw _ (List.mem_of_getElem? (i := 29) rfl))) (Or.inl (hw _ (List.mem_of_getElem? (i := 15) rfl))) (by decide) (t := .int) (t' := (.array .int)) (by decide) (by decide)))
    have F4_e20 : Fld Z h20 a1 "com/example/esteem/esteem/index/Postings$Builder" "positionCount" "I" (.int (Int32.ofNat pc)) := F4_e17.other W20 (Or.inr (slot_ne (Or.inl (hw _ (List.mem_of_getElem? (i := 43) rfl))) (Or.inl (hw _ (List.mem_of_getElem? (i := 15) rfl))) (by decide) (t := .int) (t' := (.array .int)) (by decide) (by decide)))
    have E0_e20 : Exa Z h20 a1 "com/example/esteem/esteem/index/Postings$Builder" := E0_e17.wr W20
    have VD_e20 : own_Ar Z h20 dd .int dl (fun i => .int (gd i)) := VD_e17.other W20 (Ne.symm n4)
    have VS_e20 : own_Ar Z h20 ds .int sl (fun i => .int (gs i)) := VS_e17.other W20 (Ne.symm n5)
    have VP_e20 : own_Ar Z h20 dp .int pl (fun i => .int (gp i)) := VP_e17.other W20 (Ne.symm n6)
    have V_xd_e20 : own_Ar Z h20 xd .int (dc * 2) (fun i => .int (if i < dl then gd i else 0)) := V_xd.other W20 (Ne.symm ne_a1_xd)
    have sz20 : n0 ≤ h20.size := Nat.le_trans sz17 (Keep.of_wr W20).1
    have KK20 : Keep h0 h20 [a1] := KK17.wr W20 (Or.inl (List.mem_of_getElem? (i := 0) rfl))
    have F_a1_docs_e20 : Fld Z h20 a1 "com/example/esteem/esteem/index/Postings$Builder" "docs" "[I" (.ref xd) := F0_e17.same W20
    have pre22 : ∀ t, Steps p.tables e below (T20.setTop (mkF m 108 #[.val (.ref a1), .val (.int p1), .val (.int p2), .val (.int p3), .val (.int p4)] [(.ref a1), (.ref a1)])) t → Steps p.tables e below (T0.setTop (mkF m 77 #[.val (.ref a1), .val (.int p1), .val (.int p2), .val (.int p3), .val (.int p4)] [])) t := fun t kT => pre21 t (by
      show Steps p.tables e below (T20.setTop (mkF m 106 #[.val (.ref a1), .val (.int p1), .val (.int p2), .val (.int p3), .val (.int p4)] [])) _
      refine XS.aloadN X20.here hx rfl (hb hby d8_106) rfl rfl ?_
      show Steps p.tables e below (T20.setTop (mkF m 107 #[.val (.ref a1), .val (.int p1), .val (.int p2), .val (.int p3), .val (.int p4)] [(.ref a1)])) _
      refine XS.aloadN X20.here hx rfl (hb hby d8_107) rfl rfl ?_
      exact kT)
    obtain ⟨T23, X23, e23, st23⟩ := getF X20 hx hZ hown (host := "") (Or.inl (hw _ (List.mem_of_getElem? (i := 16) rfl))) Via.refl e20 F1_e20 (g := (mkF m 108 #[.val (.ref a1), .val (.int p1), .val (.int p2), .val (.int p3), .val (.int p4)] [(.ref a1), (.ref a1)])) rfl rfl (hb hby d8_108)
    have pre24 : ∀ t, Steps p.tables e below (T23.setTop (mkF m 111 #[.val (.ref a1), .val (.int p1), .val (.int p2), .val (.int p3), .val (.int p4)] [(.ref ds), (.ref a1)])) t → Steps p.tables e below (T0.setTop (mkF m 77 #[.val (.ref a1), .val (.int p1), .val (.int p2), .val (.int p3), .val (.int p4)] [])) t := fun t kT => pre22 t (st23 t kT)
    have pre25 : ∀ t, Steps p.tables e below (T23.setTop (mkF m 112 #[.val (.ref a1), .val (.int p1), .val (.int p2), .val (.int p3), .val (.int p4)] [(.ref a1), (.ref ds), (.ref a1)])) t → Steps p.tables e below (T0.setTop (mkF m 77 #[.val (.ref a1), .val (.int p1), .val (.int p2), .val (.int p3), .val (.int p4)] [])) t := fun t kT => pre24 t (by
      show Steps p.tables e below (T23.setTop (mkF m 111 #[.val (.ref a1), .val (.int p1), .val (.int p2), .val (.int p3), .val (.int p4)] [(.ref ds), (.ref a1)])) _
      refine XS.aloadN X23.here hx rfl (hb hby d8_111) rfl rfl ?_
      exact kT)
    obtain ⟨T26, X26, e26, st26⟩ := getF X23 hx hZ hown (host := "") (Or.inl (hw _ (List.mem_of_getElem? (i := 28) rfl))) Via.refl e23 F3_e20 (g := (mkF m 112 #[.val (.ref a1), .val (.int p1), .val (.int p2), .val (.int p3), .val (.int p4)] [(.ref a1), (.ref ds), (.ref a1)])) rfl rfl (hb hby d8_112)
    have pre27 : ∀ t, Steps p.tables e below (T26.setTop (mkF m 115 #[.val (.ref a1), .val (.int p1), .val (.int p2), .val (.int p3), .val (.int p4)] [(.int (Int32.ofNat dc)), (.ref ds), (.ref a1)])) t → Steps p.tables e below (T0.setTop (mkF m 77 #[.val (.ref a1), .val (.int p1), .val (.int p2), .val (.int p3), .val (.int p4)] [])) t := fun t kT => pre25 t (st26 t kT)
    have pre28 : ∀ t, Steps p.tables e below (T26.setTop (mkF m 119 #[.val (.ref a1), .val (.int p1), .val (.int p2), .val (.int p3), .val (.int p4)] [(.int (((Int32.ofNat dc) * (2 : Int32)) + (1 : Int32))), (.ref ds), (.ref a1)])) t → Steps p.tables e below (T0.setTop (mkF m 77 #[.val (.ref a1), .val (.int p1), .val (.int p2), .val (.int p3), .val (.int p4)] [])) t := fun t kT => pre27 t (by
      show Steps p.tables e below (T26.setTop (mkF m 115 #[.val (.ref a1), .val (.int p1), .val (.int p2), .val (.int p3), .val (.int p4)] [(.int (Int32.ofNat dc)), (.ref ds), (.ref a1)])) _
      refine XS.iconst X26.here hx rfl (hb hby d8_115) ?_
      show Steps p.tables e below (T26.setTop (mkF m 116 #[.val (.ref a1), .val (.int p1), .val (.int p2), .val (.int p3), .val (.int p4)] [(.int (2 : Int32)), (.int (Int32.ofNat dc)), (.ref ds), (.ref a1)])) _
      refine XS.imul X26.here hx rfl (hb hby d8_116) rfl ?_
      show Steps p.tables e below (T26.setTop (mkF m 117 #[.val (.ref a1), .val (.int p1), .val (.int p2), .val (.int p3), .val (.int p4)] [(.int ((Int32.ofNat dc) * (2 : Int32))), (.ref ds), (.ref a1)])) _
      refine XS.iconst X26.here hx rfl (hb hby d8_117) ?_
      show Steps p.tables e below (T26.setTop (mkF m 118 #[.val (.ref a1), .val (.int p1), .val (.int p2), .val (.int p3), .val (.int p4)] [(.int (1 : Int32)), (.int ((Int32.ofNat dc) * (2 : Int32))), (.ref ds), (.ref a1)])) _
      refine XS.iadd X26.here hx rfl (hb hby d8_118) rfl ?_
      exact kT)
    rw [own_two, own_one] at pre28
    have pre29 : ∀ t, Steps p.tables e below (T26.setTop (mkF m 119 #[.val (.ref a1), .val (.int p1), .val (.int p2), .val (.int p3), .val (.int p4)] [(.int (Int32.ofNat (dc * 2 + 1))), (.ref ds), (.ref a1)])) t → Steps p.tables e below (T0.setTop (mkF m 77 #[.val (.ref a1), .val (.int p1), .val (.int p2), .val (.int p3), .val (.int p4)] [])) t := fun t kT => pre28 t (by
      exact kT)
    obtain ⟨T30, h30, X30, e30, E30, A30, st30⟩ := own_copy X26 hx hZ hown (hw _ (List.mem_of_getElem? (i := 30) rfl)) (hw _ (List.mem_of_getElem? (i := 31) rfl)) (fun a' => own_tab hZ hw a') (hw _ (List.mem_of_getElem? (i := 32) rfl)) (hw _ (List.mem_of_getElem? (i := 33) rfl)) e26 VS_e20 (by omega) (by omega) (g := (mkF m 119 #[.val (.ref a1), .val (.int p1), .val (.int p2), .val (.int p3), .val (.int p4)] [(.int (Int32.ofNat (dc * 2 + 1))), (.ref ds), (.ref a1)])) rfl (by rw [hml]; rfl) rfl (W := 1) (by show 2 * 0 + _ ≤ _; exact Nat.le_of_eq rfl) (hb hby d8_119) hRf (by omega) (by omega) (by show slots + (dc * 2) + (dc * 2 + 1) ≤ _; omega)
    obtain ⟨xs, g30⟩ : ∃ z, z = h20.size := ⟨_, rfl⟩
    rw [← g30] at A30 st30
    have ne_a1_xs : a1 ≠ xs := Nat.ne_of_lt (Nat.lt_of_lt_of_le F_a1_docs_e20.lt (Nat.le_of_eq g30.symm))
    have ne_dd_xs : dd ≠ xs := Nat.ne_of_lt (Nat.lt_of_lt_of_le VD_e20.lt (Nat.le_of_eq g30.symm))
    have ne_ds_xs : ds ≠ xs := Nat.ne_of_lt (Nat.lt_of_lt_of_le VS_e20.lt (Nat.le_of_eq g30.symm))
    have ne_dp_xs : dp ≠ xs := Nat.ne_of_lt (Nat.lt_of_lt_of_le VP_e20.lt (Nat.le_of_eq g30.symm))
    have ne_xd_xs : xd ≠ xs := Nat.ne_of_lt (Nat.lt_of_lt_of_le V_xd_e20.lt (Nat.le_of_eq g30.symm))
    have g_xs : n0 ≤ xs := Nat.le_trans sz20 (Nat.le_of_eq g30.symm)
    have fr_xs : h0.size ≤ xs := Nat.le_trans KK20.1 (Nat.le_of_eq g30.symm)
    have pre31 : ∀ t, Steps p.tables e below (T30.setTop (mkF m 122 #[.val (.ref a1), .val (.int p1), .val (.int p2), .val (.int p3), .val (.int p4)] [(.ref xs), (.ref a1)])) t → Steps p.tables e below (T0.setTop (mkF m 77 #[.val (.ref a1), .val (.int p1), .val (.int p2), .val (.int p3), .val (.int p4)] [])) t := fun t kT => pre29 t (st30 t kT)
    have F_a1_docs_e30 : Fld Z h30 a1 "com/example/esteem/esteem/index/Postings$Builder" "docs" "[I" (.ref xd) := F_a1_docs_e20.ext E30
    have F1_e30 : Fld Z h30 a1 "com/example/esteem/esteem/index/Postings$Builder" "starts" "[I" (.ref ds) := F1_e20.ext E30
    have F2_e30 : Fld Z h30 a1 "com/example/esteem/esteem/index/Postings$Builder" "positions" "[I" (.ref dp) := F2_e20.ext E30
    have F3_e30 : Fld Z h30 a1 "com/example/esteem/esteem/index/Postings$Builder" "docCount" "I" (.int (Int32.ofNat dc)) := F3_e20.ext E30
    have F4_e30 : Fld Z h30 a1 "com/example/esteem/esteem/index/Postings$Builder" "positionCount" "I" (.int (Int32.ofNat pc)) := F4_e20.ext E30
    have E0_e30 : Exa Z h30 a1 "com/example/esteem/esteem/index/Postings$Builder" := E0_e20.ext E30
    have VD_e30 : own_Ar Z h30 dd .int dl (fun i => .int (gd i)) := VD_e20.ext E30
    have VS_e30 : own_Ar Z h30 ds .int sl (fun i => .int (gs i)) := VS_e20.ext E30
    have VP_e30 : own_Ar Z h30 dp .int pl (fun i => .int (gp i)) := VP_e20.ext E30
    have V_xd_e30 : own_Ar Z h30 xd .int (dc * 2) (fun i => .int (if i < dl then gd i else 0)) := V_xd_e20.ext E30
    have sz30 : n0 ≤ h30.size := Nat.le_trans sz20 E30.1
    have KK30 : Keep h0 h30 [a1] := KK20.ext E30
    have V_xs : own_Ar Z h30 xs .int (dc * 2 + 1) (fun i => .int (if i < sl then gs i else 0)) := A30
    have pre32 : ∀ t, Steps p.tables e below (T30.setTop (mkF m 122 #[.val (.ref a1), .val (.int p1), .val (.int p2), .val (.int p3), .val (.int p4)] [(.ref xs), (.ref a1)])) t → Steps p.tables e below (T0.setTop (mkF m 77 #[.val (.ref a1), .val (.int p1), .val (.int p2), .val (.int p3), .val (.int p4)] [])) t := fun t kT => pre31 t (by
      exact kT)
    obtain ⟨T33, h33, X33, e33, W33, st33⟩ := putF X30 hx hZ hown (host := "") (Or.inl (hw _ (List.mem_of_getElem? (i := 16) rfl))) Via.refl e30 F1_e30 E0_e30 (Or.inl (hw _ (List.mem_of_getElem? (i := 17) rfl))) (hw _ (List.mem_of_getElem? (i := 6) rfl)) (ty := (.array .int)) (by decide) rfl rfl (g := (mkF m 122 #[.val (.ref a1), .val (.int p1), .val (.int p2), .val (.int p3), .val (.int p4)] [(.ref xs), (.ref a1)])) rfl rfl (hb hby d8_122)
    have pre34 : ∀ t, Steps p.tables e below (T33.setTop (mkF m 125 #[.val (.ref a1), .val (.int p1), .val (.int p2), .val (.int p3), .val (.int p4)] [])) t → Steps p.tables e below (T0.setTop (mkF m 77 #[.val (.ref a1), .val (.int p1), .val (.int p2), .val (.int p3), .val (.int p4)] [])) t := fun t kT => pre32 t (st33 t kT)
    have N33 := Fr.snoc X33 N20 q0
    have F_a1_docs_e33 : Fld Z h33 a1 "com/example/esteem/esteem/index/Postings$Builder" "docs" "[I" (.ref xd) := F_a1_docs_e30.other W33 (Or.inr (slot_ne (Or.inl (hw _ (List.mem_of_getElem? (i := 15) rfl))) (Or.inl (hw _ (List.mem_of_getElem? (i := 17) rfl))) (by decide) (t := (.array .int)) (t' := (.array .int)) (by decide) (by decide)))
    have F2_e33 : Fld Z h33 a1 "com/example/esteem/esteem/index/Postings$Builder" "positions" "[I" (.ref dp) := F2_e30.other W33 (Or.inr (slot_ne (Or.inl (hw _ (List.mem_of_getElem? (i := 19) rfl))) (Or.inl (hw _ (List.mem_of_getElem? (i := 17) rfl))) (by decide) (t := (.array .int)) (t' := (.array .int)) (by decide) (by decide)))
    have F3_e33 : Fld Z h33 a1 "com/example/esteem/esteem/index/Postings$Builder" "docCount" "I" (.int (Int32.ofNat dc)) := F3_e30.other W33 (Or.inr (slot_ne (Or.inl (hw _ (List.mem_of_getElem? (i := 29) rfl))) (Or.inl (hw _ (List.mem_of_getElem? (i := 17) rfl))) (by decide) (t := .int) (t' := (.array .int)) (by decide) (by decide)))
    have F4_e33 : Fld Z h33 a1 "com/example/esteem/esteem/index/Postings$Builder" "positionCount" "I" (.int (Int32.ofNat pc)) := F4_e30.other W33 (Or.inr (slot_ne (Or.inl (hw _ (List.mem_of_getElem? (i := 43) rfl))) (Or.inl (hw _ (List.mem_of_getElem? (i := 17) rfl))) (by decide) (t := .int) (t' := (.array .int)) (by decide) (by decide)))
    have E0_e33 : Exa Z h33 a1 "com/example/esteem/esteem/index/Postings$Builder" := E0_e30.wr W33
    have VD_e33 : own_Ar Z h33 dd .int dl (fun i => .int (gd i)) := VD_e30.other W33 (Ne.symm n4)
    have VS_e33 : own_Ar Z h33 ds .int sl (fun i => .int (gs i)) := VS_e30.other W33 (Ne.symm n5)
    have VP_e33 : own_Ar Z h33 dp .int pl (fun i => .int (gp i)) := VP_e30.other W33 (Ne.symm n6)
    have V_xd_e33 : own_Ar Z h33 xd .int (dc * 2) (fun i => .int (if i < dl then gd i else 0)) := V_xd_e30.other W33 (Ne.symm ne_a1_xd)
    have V_xs_e33 : own_Ar Z h33 xs .int (dc * 2 + 1) (fun i => .int (if i < sl then gs i else 0)) := V_xs.other W33 (Ne.symm ne_a1_xs)
    have sz33 : n0 ≤ h33.size := Nat.le_trans sz30 (Keep.of_wr W33).1
    have KK33 : Keep h0 h33 [a1] := KK30.wr W33 (Or.inl (List.mem_of_getElem? (i := 0) rfl))
    have F_a1_starts_e33 : Fld Z h33 a1 "com/example/esteem/esteem/index/Postings$Builder" "starts" "[I" (.ref xs) := F1_e30.same W33
    have pre35 : ∀ t, Steps p.tables e below (T33.setTop (mkF m 125 #[.val (.ref a1), .val (.int p1), .val (.int p2), .val (.int p3), .val (.int p4)] [])) t → Steps p.tables e below (T0.setTop (mkF m 77 #[.val (.ref a1), .val (.int p1), .val (.int p2), .val (.int p3), .val (.int p4)] [])) t := fun t kT => pre34 t (by
      exact kT)
    exact ⟨T33, _, xd, xs, (dc * 2), (dc * 2 + 1), X33.more (by omega) (by omega), N33, by rw [e33]; exact KK33, by rw [e33]; exact ⟨⟨F_a1_docs_e33, F_a1_starts_e33, F2_e33, F3_e33, F4_e33, E0_e33⟩, ⟨own_Pf.grown V_xd_e33 hgd (by omega), own_Pf.grown V_xs_e33 hgs (by omega), own_Pf.of VP_e33 hgp⟩, ⟨ne_xd_xs, (Ne.symm ne_dp_xd), (Ne.symm ne_dp_xs), ne_a1_xd, ne_a1_xs, n6⟩, ⟨q0, g_xd, g_xs, q3⟩, ⟨by omega, by omega, by omega, by omega, by omega, by omega, by omega, by omega⟩⟩, by omega, Or.inr fr_xd, Or.inr fr_xs, pre35⟩
  · have pre36 : ∀ t, Steps p.tables e below (T5.setTop (mkF m 125 #[.val (.ref a1), .val (.int p1), .val (.int p2), .val (.int p3), .val (.int p4)] [])) t → Steps p.tables e below (T0.setTop (mkF m 77 #[.val (.ref a1), .val (.int p1), .val (.int p2), .val (.int p3), .val (.int p4)] [])) t := fun t kT => pre8 t (by
      show Steps p.tables e below (T5.setTop (mkF m 86 #[.val (.ref a1), .val (.int p1), .val (.int p2), .val (.int p3), .val (.int p4)] [(.int (Int32.ofNat dl)), (.int (Int32.ofNat dc))])) _
      refine XS.icmpYes X5.here hx rfl (pc0 := 86) (pc' := 125) rfl (hb hby d8_86) rfl (feq hgr).2 (by decide) (by decide) ?_
      exact kT)
    have hg := mt (own_ij (i := dc) (j := dl) (by omega) (by omega)).mpr hgr
    exact ⟨T5, _, dd, ds, dl, sl, X5.more (by omega) (by omega), N0, by rw [e5]; exact (Keep.refl h0 [a1]), by rw [e5]; exact B, by omega, Or.inl rfl, Or.inl rfl, pre36⟩
theorem d8_125 : decode prog_21_method_2_code 125 = .ok (.aload_n 0, 1) := by decide +kernel
theorem d8_126 : decode prog_21_method_2_code 126 = .ok (.getfield 7, 3) := by decide +kernel
theorem d8_129 : decode prog_21_method_2_code 129 = .ok (.aload_n 0, 1) := by decide +kernel
theorem d8_130 : decode prog_21_method_2_code 130 = .ok (.getfield 19, 3) := by decide +kernel
theorem d8_133 : decode prog_21_method_2_code 133 = .ok (.iload_n 1, 1) := by decide +kernel
theorem d8_134 : decode prog_21_method_2_code 134 = .ok (.iastore, 1) := by decide +kernel
theorem d8_135 : decode prog_21_method_2_code 135 = .ok (.aload_n 0, 1) := by decide +kernel
theorem d8_136 : decode prog_21_method_2_code 136 = .ok (.getfield 13, 3) := by decide +kernel
theorem d8_139 : decode prog_21_method_2_code 139 = .ok (.aload_n 0, 1) := by decide +kernel
theorem d8_140 : decode prog_21_method_2_code 140 = .ok (.getfield 19, 3) := by decide +kernel
theorem d8_143 : decode prog_21_method_2_code 143 = .ok (.aload_n 0, 1) := by decide +kernel
theorem d8_144 : decode prog_21_method_2_code 144 = .ok (.getfield 42, 3) := by decide +kernel
theorem d8_147 : decode prog_21_method_2_code 147 = .ok (.iastore, 1) := by decide +kernel
theorem d8_148 : decode prog_21_method_2_code 148 = .ok (.aload_n 0, 1) := by decide +kernel
theorem d8_149 : decode prog_21_method_2_code 149 = .ok (.dup, 1) := by decide +kernel
theorem d8_150 : decode prog_21_method_2_code 150 = .ok (.getfield 19, 3) := by decide +kernel
theorem d8_153 : decode prog_21_method_2_code 153 = .ok (.iconst 1, 1) := by decide +kernel
theorem d8_154 : decode prog_21_method_2_code 154 = .ok (.iadd, 1) := by decide +kernel
theorem d8_155 : decode prog_21_method_2_code 155 = .ok (.putfield 19, 3) := by decide +kernel
set_option maxRecDepth 65536 in
set_option maxHeartbeats 40000000 in
theorem tn_doc {p : Program} {l : Launch} {e : Env} {R : Room} {s : State} {m : MethodId} {args : Array Value} {below : List Frame} {meth : Method} {c : Code} {T0 : State} {locs : List Loc} {cells slots : Nat} {Z : State} {a0 : Array Value} {h0 : Heap} {n0 : Nat} (a1 : Addr) (p1 p2 p3 p4 : Int32) (dd ds dp : Addr) (dl sl pl dc ks pc : Nat) (df sf pf : Nat → Int32)
    (X0 : Stand p l e R s m args below meth c T0 locs cells slots) (hx : p.tables.exec = Jvm.exec) (hZ : Z.Warmed39 s.vm) (hw : ∀ d ∈ tables_1, d.before a0 Z = true) (hby : c.code = prog_21_method_2_code) (hml : c.maxLocals = 5) (hown : s.vm.findClass "com/example/esteem/esteem/index/Postings$Builder" = some m.cls) (e0 : T0.heap = h0) (B : own_Bd Z h0 n0 a1 dd ds dp dl sl pl dc ks pc df sf pf) (hRf : 2 ≤ R.frames) (hRl : 70 ≤ R.locals) (N0 : Fr n0 locs) (Z0 : n0 ≤ h0.size) (hdl : dc < dl) (hks : dc ≤ ks) :
    ∃ (T' : State) (locs' : List Loc), Stand p l e R s m args below meth c T' locs' cells slots ∧ Fr n0 locs' ∧ Keep h0 T'.heap [a1, dd, ds] ∧ own_Bd Z T'.heap n0 a1 dd ds dp dl sl pl (dc + 1) (dc + 1) pc (own_updI df dc p1) (own_updI sf dc (Int32.ofNat pc)) pf ∧
      ∀ t, Steps p.tables e below (T'.setTop (mkF m 158 #[.val (.ref a1), .val (.int p1), .val (.int p2), .val (.int p3), .val (.int p4)] [])) t → Steps p.tables e below (T0.setTop (mkF m 125 #[.val (.ref a1), .val (.int p1), .val (.int p2), .val (.int p3), .val (.int p4)] [])) t := by
  have pre0 : ∀ t, Steps p.tables e below (T0.setTop (mkF m 125 #[.val (.ref a1), .val (.int p1), .val (.int p2), .val (.int p3), .val (.int p4)] [])) t → Steps p.tables e below (T0.setTop (mkF m 125 #[.val (.ref a1), .val (.int p1), .val (.int p2), .val (.int p3), .val (.int p4)] [])) t := fun t kT => kT
  obtain ⟨⟨F0, F1, F2, F3, F4, E0⟩, ⟨⟨gd, VD, hgd⟩, ⟨gs, VS, hgs⟩, ⟨gp, VP, hgp⟩⟩, ⟨n1, n2, n3, n4, n5, n6⟩, ⟨q0, q1, q2, q3⟩, ⟨b0, b1, b2, b3, b4, b5, b6, b7⟩⟩ := id B
  have pre1 : ∀ t, Steps p.tables e below (T0.setTop (mkF m 126 #[.val (.ref a1), .val (.int p1), .val (.int p2), .val (.int p3), .val (.int p4)] [(.ref a1)])) t → Steps p.tables e below (T0.setTop (mkF m 125 #[.val (.ref a1), .val (.int p1), .val (.int p2), .val (.int p3), .val (.int p4)] [])) t := fun t kT => pre0 t (by
    show Steps p.tables e below (T0.setTop (mkF m 125 #[.val (.ref a1), .val (.int p1), .val (.int p2), .val (.int p3), .val (.int p4)] [])) _
    refine XS.aloadN X0.here hx rfl (hb hby d8_125) rfl rfl ?_
    exact kT)
  obtain ⟨T2, X2, e2, st2⟩ := getF X0 hx hZ hown (host := "") (Or.inl (hw _ (List.mem_of_getElem? (i := 14) rfl))) Via.refl e0 F0 (g := (mkF m 126 #[.val (.ref a1), .val (.int p1), .val (.int p2), .val (.int p3), .val (.int p4)] [(.ref a1)])) rfl rfl (hb hby d8_126)
  have pre3 : ∀ t, Steps p.tables e below (T2.setTop (mkF m 129 #[.val (.ref a1), .val (.int p1), .val (.int p2), .val (.int p3), .val (.int p4)] [(.ref dd)])) t → Steps p.tables e below (T0.setTop (mkF m 125 #[.val (.ref a1), .val (.int p1), .val (.int p2), .val (.int p3), .val (.int p4)] [])) t := fun t kT => pre1 t (st2 t kT)
  have pre4 : ∀ t, Steps p.tables e below (T2.setTop (mkF m 130 #[.val (.ref a1), .val (.int p1), .val (.int p2), .val (.int p3), .val (.int p4)] [(.ref a1), (.ref dd)])) t → Steps p.tables e below (T0.setTop (mkF m 125 #[.val (.ref a1), .val (.int p1), .val (.int p2), .val (.int p3), .val (.int p4)] [])) t := fun t kT => pre3 t (by
    show Steps p.tables e below (T2.setTop (mkF m 129 #[.val (.ref a1), .val (.int p1), .val (.int p2), .val (.int p3), .val (.int p4)] [(.ref dd)])) _
    refine XS.aloadN X2.here hx rfl (hb hby d8_129) rfl rfl ?_
    exact kT)
  obtain ⟨T5, X5, e5, st5⟩ := getF X2 hx hZ hown (host := "") (Or.inl (hw _ (List.mem_of_getElem? (i := 28) rfl))) Via.refl e2 F3 (g := (mkF m 130 #[.val (.ref a1), .val (.int p1), .val (.int p2), .val (.int p3), .val (.int p4)] [(.ref a1), (.ref dd)])) rfl rfl (hb hby d8_130)
  have pre6 : ∀ t, Steps p.tables e below (T5.setTop (mkF m 133 #[.val (.ref a1), .val (.int p1), .val (.int p2), .val (.int p3), .val (.int p4)] [(.int (Int32.ofNat dc)), (.ref dd)])) t → Steps p.tables e below (T0.setTop (mkF m 125 #[.val (.ref a1), .val (.int p1), .val (.int p2), .val (.int p3), .val (.int p4)] [])) t := fun t kT => pre4 t (st5 t kT)
  obtain ⟨co7, ⟨Ao7, Ko7⟩, So7, Ho7⟩ := id VD
  have io7 := (own_ld So7 Ho7 (j := (Int32.ofNat dc)) (i := dc) (own_n0 (show dc < 2 ^ 31 by omega)) (own_n32 (show dc < 2 ^ 31 by omega)) hdl rfl).1
  have pre8 : ∀ t, Steps p.tables e below (T5.setTop (mkF m 134 #[.val (.ref a1), .val (.int p1), .val (.int p2), .val (.int p3), .val (.int p4)] [(.int p1), (.int (Int32.ofNat dc)), (.ref dd)])) t → Steps p.tables e below (T0.setTop (mkF m 125 #[.val (.ref a1), .val (.int p1), .val (.int p2), .val (.int p3), .val (.int p4)] [])) t := fun t kT => pre6 t (by
    show Steps p.tables e below (T5.setTop (mkF m 133 #[.val (.ref a1), .val (.int p1), .val (.int p2), .val (.int p3), .val (.int p4)] [(.int (Int32.ofNat dc)), (.ref dd)])) _
    refine XS.iloadN X5.here hx rfl (hb hby d8_133) rfl ?_
    exact kT)
  obtain ⟨T9, h9, X9, e9, W9, st9⟩ := stI X5 hx hZ e5 Ao7 (j := (Int32.ofNat dc)) io7 (g := (mkF m 134 #[.val (.ref a1), .val (.int p1), .val (.int p2), .val (.int p3), .val (.int p4)] [(.int p1), (.int (Int32.ofNat dc)), (.ref dd)])) rfl rfl (hb hby d8_134)
  rw [(own_n32 (show dc < 2 ^ 31 by omega))] at W9
  have pre10 : ∀ t, Steps p.tables e below (T9.setTop (mkF m 135 #[.val (.ref a1), .val (.int p1), .val (.int p2), .val (.int p3), .val (.int p4)] [])) t → Steps p.tables e below (T0.setTop (mkF m 125 #[.val (.ref a1), .val (.int p1), .val (.int p2), .val (.int p3), .val (.int p4)] [])) t := fun t kT => pre8 t (st9 t kT)
  have F0_e9 : Fld Z h9 a1 "com/example/esteem/esteem/index/Postings$Builder" "docs" "[I" (.ref dd) := F0.other W9 (Or.inl n4)
  have F1_e9 : Fld Z h9 a1 "com/example/esteem/esteem/index/Postings$Builder" "starts" "[I" (.ref ds) := F1.other W9 (Or.inl n4)
  have F2_e9 : Fld Z h9 a1 "com/example/esteem/esteem/index/Postings$Builder" "positions" "[I" (.ref dp) := F2.other W9 (Or.inl n4)
  have F3_e9 : Fld Z h9 a1 "com/example/esteem/esteem/index/Postings$Builder" "docCount" "I" (.int (Int32.ofNat dc)) := F3.other W9 (Or.inl n4)
  have F4_e9 : Fld Z h9 a1 "com/example/esteem/esteem/index/Postings$Builder" "positionCount" "I" (.int (Int32.ofNat pc)) := F4.other W9 (Or.inl n4)
  have E0_e9 : Exa Z h9 a1 "com/example/esteem/esteem/index/Postings$Builder" := E0.wr W9
  have VS_e9 : own_Ar Z h9 ds .int sl (fun i => .int (gs i)) := VS.other W9 (Ne.symm n1)
  have VP_e9 : own_Ar Z h9 dp .int pl (fun i => .int (gp i)) := VP.other W9 (Ne.symm n2)
  have sz9 : n0 ≤ h9.size := Nat.le_trans Z0 (Keep.of_wr W9).1
  have KK9 : Keep h0 h9 [a1, dd, ds] := (Keep.refl h0 [a1, dd, ds]).wr W9 (Or.inl (List.mem_of_getElem? (i := 1) rfl))
  have V_dd_e9 : own_Ar Z h9 dd .int dl (own_upd (fun i => .int (gd i)) dc (.int p1)) := VD.set W9
  have N9 := Fr.snoc X9 N0 q1
  have pre11 : ∀ t, Steps p.tables e below (T9.setTop (mkF m 136 #[.val (.ref a1), .val (.int p1), .val (.int p2), .val (.int p3), .val (.int p4)] [(.ref a1)])) t → Steps p.tables e below (T0.setTop (mkF m 125 #[.val (.ref a1), .val (.int p1), .val (.int p2), .val (.int p3), .val (.int p4)] [])) t := fun t kT => pre10 t (by
    show Steps p.tables e below (T9.setTop (mkF m 135 #[.val (.ref a1), .val (.int p1), .val (.int p2), .val (.int p3), .val (.int p4)] [])) _
    refine XS.aloadN X9.here hx rfl (hb hby d8_135) rfl rfl ?_
    exact kT)
  obtain ⟨T12, X12, e12, st12⟩ := getF X9 hx hZ hown (host := "") (Or.inl (hw _ (List.mem_of_getElem? (i := 16) rfl))) Via.refl e9 F1_e9 (g := (mkF m 136 #[.val (.ref a1), .val (.int p1), .val (.int p2), .val (.int p3), .val (.int p4)] [(.ref a1)])) rfl rfl (hb hby d8_136)
  have pre13 : ∀ t, Steps p.tables e below (T12.setTop (mkF m 139 #[.val (.ref a1), .val (.int p1), .val (.int p2), .val (.int p3), .val (.int p4)] [(.ref ds)])) t → Steps p.tables e below (T0.setTop (mkF m 125 #[.val (.ref a1), .val (.int p1), .val (.int p2), .val (.int p3), .val (.int p4)] [])) t := fun t kT => pre11 t (st12 t kT)
  have pre14 : ∀ t, Steps p.tables e below (T12.setTop (mkF m 140 #[.val (.ref a1), .val (.int p1), .val (.int p2), .val (.int p3), .val (.int p4)] [(.ref a1), (.ref ds)])) t → Steps p.tables e below (T0.setTop (mkF m 125 #[.val (.ref a1), .val (.int p1), .val (.int p2), .val (.int p3), .val (.int p4)] [])) t := fun t kT => pre13 t (by
    show Steps p.tables e below (T12.setTop (mkF m 139 #[.val (.ref a1), .val (.int p1), .val (.int p2), .val (.int p3), .val (.int p4)] [(.ref ds)])) _
    refine XS.aloadN X12.here hx rfl (hb hby d8_139) rfl rfl ?_
    exact kT)
  obtain ⟨T15, X15, e15, st15⟩ := getF X12 hx hZ hown (host := "") (Or.inl (hw _ (List.mem_of_getElem? (i := 28) rfl))) Via.refl e12 F3_e9 (g := (mkF m 140 #[.val (.ref a1), .val (.int p1), .val (.int p2), .val (.int p3), .val (.int p4)] [(.ref a1), (.ref ds)])) rfl rfl (hb hby d8_140)
  have pre16 : ∀ t, Steps p.tables e below (T15.setTop (mkF m 143 #[.val (.ref a1), .val (.int p1), .val (.int p2), .val (.int p3), .val (.int p4)] [(.int (Int32.ofNat dc)), (.ref ds)])) t → Steps p.tables e below (T0.setTop (mkF m 125 #[.val (.ref a1), .val (.int p1), .val (.int p2), .val (.int p3), .val (.int p4)] [])) t := fun t kT => pre14 t (st15 t kT)
  have pre17 : ∀ t, Steps p.tables e below (T15.setTop (mkF m 144 #[.val (.ref a1), .val (.int p1), .val (.int p2), .val (.int p3), .val (.int p4)] [(.ref a1), (.int (Int32.ofNat dc)), (.ref ds)])) t → Steps p.tables e below (T0.setTop (mkF m 125 #[.val (.ref a1), .val (.int p1), .val (.int p2), .val (.int p3), .val (.int p4)] [])) t := fun t kT => pre16 t (by
    show Steps p.tables e below (T15.setTop (mkF m 143 #[.val (.ref a1), .val (.int p1), .val (.int p2), .val (.int p3), .val (.int p4)] [(.int (Int32.ofNat dc)), (.ref ds)])) _
    refine XS.aloadN X15.here hx rfl (hb hby d8_143) rfl rfl ?_
    exact kT)
  obtain ⟨T18, X18, e18, st18⟩ := getF X15 hx hZ hown (host := "") (Or.inl (hw _ (List.mem_of_getElem? (i := 42) rfl))) Via.refl e15 F4_e9 (g := (mkF m 144 #[.val (.ref a1), .val (.int p1), .val (.int p2), .val (.int p3), .val (.int p4)] [(.ref a1), (.int (Int32.ofNat dc)), (.ref ds)])) rfl rfl (hb hby d8_144)
  have pre19 : ∀ t, Steps p.tables e below (T18.setTop (mkF m 147 #[.val (.ref a1), .val (.int p1), .val (.int p2), .val (.int p3), .val (.int p4)] [(.int (Int32.ofNat pc)), (.int (Int32.ofNat dc)), (.ref ds)])) t → Steps p.tables e below (T0.setTop (mkF m 125 #[.val (.ref a1), .val (.int p1), .val (.int p2), .val (.int p3), .val (.int p4)] [])) t := fun t kT => pre17 t (st18 t kT)
  obtain ⟨co20, ⟨Ao20, Ko20⟩, So20, Ho20⟩ := id VS_e9
  have io20 := (own_ld So20 Ho20 (j := (Int32.ofNat dc)) (i := dc) (own_n0 (show dc < 2 ^ 31 by omega)) (own_n32 (show dc < 2 ^ 31 by omega)) (by omega) rfl).1
  have pre21 : ∀ t, Steps p.tables e below (T18.setTop (mkF m 147 #[.val (.ref a1), .val (.int p1), .val (.int p2), .val (.int p3), .val (.int p4)] [(.int (Int32.ofNat pc)), (.int (Int32.ofNat dc)), (.ref ds)])) t → Steps p.tables e below (T0.setTop (mkF m 125 #[.val (.ref a1), .val (.int p1), .val (.int p2), .val (.int p3), .val (.int p4)] [])) t := fun t kT => pre19 t (by
    exact kT)
  obtain ⟨T22, h22, X22, e22, W22, st22⟩ := stI X18 hx hZ e18 Ao20 (j := (Int32.ofNat dc)) io20 (g := (mkF m 147 #[.val (.ref a1), .val (.int p1), .val (.int p2), .val (.int p3), .val (.int p4)] [(.int (Int32.ofNat pc)), (.int (Int32.ofNat dc)), (.ref ds)])) rfl rfl (hb hby d8_147)
  rw [(own_n32 (show dc < 2 ^ 31 by omega))] at W22
  have pre23 : ∀ t, Steps p.tables e below (T22.setTop (mkF m 148 #[.val (.ref a1), .val (.int p1), .val (.int p2), .val (.int p3), .val (.int p4)] [])) t → Steps p.tables e below (T0.setTop (mkF m 125 #[.val (.ref a1), .val (.int p1), .val (.int p2), .val (.int p3), .val (.int p4)] [])) t := fun t kT => pre21 t (st22 t kT)
  have F0_e22 : Fld Z h22 a1 "com/example/esteem/esteem/index/Postings$Builder" "docs" "[I" (.ref dd) := F0_e9.other W22 (Or.inl n5)
  have F1_e22 : Fld Z h22 a1 "com/example/esteem/esteem/index/Postings$Builder" "starts" "[I" (.ref ds) := F1_e9.other W22 (Or.inl n5)
  have F2_e22 : Fld Z h22 a1 "com/example/esteem/esteem/index/Postings$Builder" "positions" "[I" (.ref dp) := F2_e9.other W22 (Or.inl n5)
  have F3_e22 : Fld Z h22 a1 "com/example/esteem/esteem/index/Postings$Builder" "docCount" "I" (.int (Int32.ofNat dc)) := F3_e9.other W22 (Or.inl n5)
  have F4_e22 : Fld Z h22 a1 "com/example/esteem/esteem/index/Postings$Builder" "positionCount" "I" (.int (Int32.ofNat pc)) := F4_e9.other W22 (Or.inl n5)
  have E0_e22 : Exa Z h22 a1 "com/example/esteem/esteem/index/Postings$Builder" := E0_e9.wr W22
  have V_dd_e22 : own_Ar Z h22 dd .int dl (own_upd (fun i => .int (gd i)) dc (.int p1)) := V_dd_e9.other W22 n1
  have VP_e22 : own_Ar Z h22 dp .int pl (fun i => .int (gp i)) := VP_e9.other W22 (Ne.symm n3)
  have sz22 : n0 ≤ h22.size := Nat.le_trans sz9 (Keep.of_wr W22).1
  have KK22 : Keep h0 h22 [a1, dd, ds] := KK9.wr W22 (Or.inl (List.mem_of_getElem? (i := 2) rfl))
  have V_ds_e22 : own_Ar Z h22 ds .int sl (own_upd (fun i => .int (gs i)) dc (.int (Int32.ofNat pc))) := VS_e9.set W22
  have N22 := Fr.snoc X22 N9 q2
  have pre24 : ∀ t, Steps p.tables e below (T22.setTop (mkF m 150 #[.val (.ref a1), .val (.int p1), .val (.int p2), .val (.int p3), .val (.int p4)] [(.ref a1), (.ref a1)])) t → Steps p.tables e below (T0.setTop (mkF m 125 #[.val (.ref a1), .val (.int p1), .val (.int p2), .val (.int p3), .val (.int p4)] [])) t := fun t kT => pre23 t (by
    show Steps p.tables e below (T22.setTop (mkF m 148 #[.val (.ref a1), .val (.int p1), .val (.int p2), .val (.int p3), .val (.int p4)] [])) _
    refine XS.aloadN X22.here hx rfl (hb hby d8_148) rfl rfl ?_
    show Steps p.tables e below (T22.setTop (mkF m 149 #[.val (.ref a1), .val (.int p1), .val (.int p2), .val (.int p3), .val (.int p4)] [(.ref a1)])) _
    refine XS.dup X22.here hx rfl (hb hby d8_149) rfl rfl ?_
    exact kT)
  obtain ⟨T25, X25, e25, st25⟩ := getF X22 hx hZ hown (host := "") (Or.inl (hw _ (List.mem_of_getElem? (i := 28) rfl))) Via.refl e22 F3_e22 (g := (mkF m 150 #[.val (.ref a1), .val (.int p1), .val (.int p2), .val (.int p3), .val (.int p4)] [(.ref a1), (.ref a1)])) rfl rfl (hb hby d8_150)
  have pre26 : ∀ t, Steps p.tables e below (T25.setTop (mkF m 153 #[.val (.ref a1), .val (.int p1), .val (.int p2), .val (.int p3), .val (.int p4)] [(.int (Int32.ofNat dc)), (.ref a1)])) t → Steps p.tables e below (T0.setTop (mkF m 125 #[.val (.ref a1), .val (.int p1), .val (.int p2), .val (.int p3), .val (.int p4)] [])) t := fun t kT => pre24 t (st25 t kT)
  have pre27 : ∀ t, Steps p.tables e below (T25.setTop (mkF m 155 #[.val (.ref a1), .val (.int p1), .val (.int p2), .val (.int p3), .val (.int p4)] [(.int ((Int32.ofNat dc) + (1 : Int32))), (.ref a1)])) t → Steps p.tables e below (T0.setTop (mkF m 125 #[.val (.ref a1), .val (.int p1), .val (.int p2), .val (.int p3), .val (.int p4)] [])) t := fun t kT => pre26 t (by
    show Steps p.tables e below (T25.setTop (mkF m 153 #[.val (.ref a1), .val (.int p1), .val (.int p2), .val (.int p3), .val (.int p4)] [(.int (Int32.ofNat dc)), (.ref a1)])) _
    refine XS.iconst X25.here hx rfl (hb hby d8_153) ?_
    show Steps p.tables e below (T25.setTop (mkF m 154 #[.val (.ref a1), .val (.int p1), .val (.int p2), .val (.int p3), .val (.int p4)] [(.int (1 : Int32)), (.int (Int32.ofNat dc)), (.ref a1)])) _
    refine XS.iadd X25.here hx rfl (hb hby d8_154) rfl ?_
    exact kT)
  rw [own_one] at pre27
  have pre28 : ∀ t, Steps p.tables e below (T25.setTop (mkF m 155 #[.val (.ref a1), .val (.int p1), .val (.int p2), .val (.int p3), .val (.int p4)] [(.int (Int32.ofNat (dc + 1))), (.ref a1)])) t → Steps p.tables e below (T0.setTop (mkF m 125 #[.val (.ref a1), .val (.int p1), .val (.int p2), .val (.int p3), .val (.int p4)] [])) t := fun t kT => pre27 t (by
    exact kT)
  obtain ⟨T29, h29, X29, e29, W29, st29⟩ := putF X25 hx hZ hown (host := "") (Or.inl (hw _ (List.mem_of_getElem? (i := 28) rfl))) Via.refl e25 F3_e22 E0_e22 (Or.inl (hw _ (List.mem_of_getElem? (i := 29) rfl))) (hw _ (List.mem_of_getElem? (i := 6) rfl)) (ty := .int) (by decide) rfl rfl (g := (mkF m 155 #[.val (.ref a1), .val (.int p1), .val (.int p2), .val (.int p3), .val (.int p4)] [(.int (Int32.ofNat (dc + 1))), (.ref a1)])) rfl rfl (hb hby d8_155)
  have pre30 : ∀ t, Steps p.tables e below (T29.setTop (mkF m 158 #[.val (.ref a1), .val (.int p1), .val (.int p2), .val (.int p3), .val (.int p4)] [])) t → Steps p.tables e below (T0.setTop (mkF m 125 #[.val (.ref a1), .val (.int p1), .val (.int p2), .val (.int p3), .val (.int p4)] [])) t := fun t kT => pre28 t (st29 t kT)
  have N29 := Fr.snoc X29 N22 q0
  have F0_e29 : Fld Z h29 a1 "com/example/esteem/esteem/index/Postings$Builder" "docs" "[I" (.ref dd) := F0_e22.other W29 (Or.inr (slot_ne (Or.inl (hw _ (List.mem_of_getElem? (i := 15) rfl))) (Or.inl (hw _ (List.mem_of_getElem? (i := 29) rfl))) (by decide) (t := (.array .int)) (t' := .int) (by decide) (by decide)))
  have F1_e29 : Fld Z h29 a1 "com/example/esteem/esteem/index/Postings$Builder" "starts" "[I" (.ref ds) := F1_e22.other W29 (Or.inr (slot_ne (Or.inl (hw _ (List.mem_of_getElem? (i := 17) rfl))) (Or.inl (hw _ (List.mem_of_getElem? (i := 29) rfl))) (by decide) (t := (.array .int)) (t' := .int) (by decide) (by decide)))
  have F2_e29 : Fld Z h29 a1 "com/example/esteem/esteem/index/Postings$Builder" "positions" "[I" (.ref dp) := F2_e22.other W29 (Or.inr (slot_ne (Or.inl (hw _ (List.mem_of_getElem? (i := 19) rfl))) (Or.inl (hw _ (List.mem_of_getElem? (i := 29) rfl))) (by decide) (t := (.array .int)) (t' := .int) (by decide) (by decide)))
  have F4_e29 : Fld Z h29 a1 "com/example/esteem/esteem/index/Postings$Builder" "positionCount" "I" (.int (Int32.ofNat pc)) := F4_e22.other W29 (Or.inr (slot_ne (Or.inl (hw _ (List.mem_of_getElem? (i := 43) rfl))) (Or.inl (hw _ (List.mem_of_getElem? (i := 29) rfl))) (by decide) (t := .int) (t' := .int) (by decide) (by decide)))
  have E0_e29 : Exa Z h29 a1 "com/example/esteem/esteem/index/Postings$Builder" := E0_e22.wr W29
  have V_dd_e29 : own_Ar Z h29 dd .int dl (own_upd (fun i => .int (gd i)) dc (.int p1)) := V_dd_e22.other W29 (Ne.symm n4)
  have V_ds_e29 : own_Ar Z h29 ds .int sl (own_upd (fun i => .int (gs i)) dc (.int (Int32.ofNat pc))) := V_ds_e22.other W29 (Ne.symm n5)
  have VP_e29 : own_Ar Z h29 dp .int pl (fun i => .int (gp i)) := VP_e22.other W29 (Ne.symm n6)
  have sz29 : n0 ≤ h29.size := Nat.le_trans sz22 (Keep.of_wr W29).1
  have KK29 : Keep h0 h29 [a1, dd, ds] := KK22.wr W29 (Or.inl (List.mem_of_getElem? (i := 0) rfl))
  have F_a1_docCount_e29 : Fld Z h29 a1 "com/example/esteem/esteem/index/Postings$Builder" "docCount" "I" (.int (Int32.ofNat (dc + 1))) := F3_e22.same W29
  have pre31 : ∀ t, Steps p.tables e below (T29.setTop (mkF m 158 #[.val (.ref a1), .val (.int p1), .val (.int p2), .val (.int p3), .val (.int p4)] [])) t → Steps p.tables e below (T0.setTop (mkF m 125 #[.val (.ref a1), .val (.int p1), .val (.int p2), .val (.int p3), .val (.int p4)] [])) t := fun t kT => pre30 t (by
    exact kT)
  exact ⟨T29, _, X29, N29, by rw [e29]; exact KK29, by rw [e29]; exact ⟨⟨F0_e29, F1_e29, F2_e29, F_a1_docCount_e29, F4_e29, E0_e29⟩, ⟨own_Pf.put V_dd_e29 hgd, own_Pf.put V_ds_e29 (fun i hi => hgs i (by omega)), own_Pf.of VP_e29 hgp⟩, ⟨n1, n2, n3, n4, n5, n6⟩, ⟨q0, q1, q2, q3⟩, ⟨by omega, by omega, by omega, by omega, by omega, by omega, by omega, by omega⟩⟩, pre31⟩
theorem d8_158 : decode prog_21_method_2_code 158 = .ok (.aload_n 0, 1) := by decide +kernel
theorem d8_159 : decode prog_21_method_2_code 159 = .ok (.getfield 42, 3) := by decide +kernel
theorem d8_162 : decode prog_21_method_2_code 162 = .ok (.aload_n 0, 1) := by decide +kernel
theorem d8_163 : decode prog_21_method_2_code 163 = .ok (.getfield 16, 3) := by decide +kernel
theorem d8_166 : decode prog_21_method_2_code 166 = .ok (.arraylength, 1) := by decide +kernel
theorem d8_167 : decode prog_21_method_2_code 167 = .ok (.if_icmp .ne 20, 3) := by decide +kernel
theorem d8_170 : decode prog_21_method_2_code 170 = .ok (.aload_n 0, 1) := by decide +kernel
theorem d8_171 : decode prog_21_method_2_code 171 = .ok (.aload_n 0, 1) := by decide +kernel
theorem d8_172 : decode prog_21_method_2_code 172 = .ok (.getfield 16, 3) := by decide +kernel
theorem d8_175 : decode prog_21_method_2_code 175 = .ok (.aload_n 0, 1) := by decide +kernel
theorem d8_176 : decode prog_21_method_2_code 176 = .ok (.getfield 42, 3) := by decide +kernel
theorem d8_179 : decode prog_21_method_2_code 179 = .ok (.iconst 2, 1) := by decide +kernel
theorem d8_180 : decode prog_21_method_2_code 180 = .ok (.imul, 1) := by decide +kernel
theorem d8_181 : decode prog_21_method_2_code 181 = .ok (.invokestatic 36, 3) := by decide +kernel
theorem d8_184 : decode prog_21_method_2_code 184 = .ok (.putfield 16, 3) := by decide +kernel
set_option maxRecDepth 65536 in
set_option maxHeartbeats 40000000 in
theorem tn_room {p : Program} {l : Launch} {e : Env} {R : Room} {s : State} {m : MethodId} {args : Array Value} {below : List Frame} {meth : Method} {c : Code} {T0 : State} {locs : List Loc} {cells slots : Nat} {Z : State} {a0 : Array Value} {h0 : Heap} {n0 : Nat} (a1 : Addr) (p1 p2 p3 p4 : Int32) (dd ds dp : Addr) (dl sl pl dc ks pc : Nat) (df sf pf : Nat → Int32)
    (X0 : Stand p l e R s m args below meth c T0 locs cells slots) (hx : p.tables.exec = Jvm.exec) (hZ : Z.Warmed39 s.vm) (hw : ∀ d ∈ tables_1, d.before a0 Z = true) (hby : c.code = prog_21_method_2_code) (hml : c.maxLocals = 5) (hown : s.vm.findClass "com/example/esteem/esteem/index/Postings$Builder" = some m.cls) (e0 : T0.heap = h0) (B : own_Bd Z h0 n0 a1 dd ds dp dl sl pl dc ks pc df sf pf) (hRf : 2 ≤ R.frames) (hRl : 70 ≤ R.locals) (N0 : Fr n0 locs) (Z0 : n0 ≤ h0.size) (hpc : pc ≤ 2) (hRc : cells + 1 ≤ R.cells) (hRs : slots + 4 ≤ R.slots) :
    ∃ (T' : State) (locs' : List Loc) (dp' : Addr) (pl' : Nat), Stand p l e R s m args below meth c T' locs' (cells + 1) (slots + 4) ∧ Fr n0 locs' ∧ Keep h0 T'.heap [a1] ∧ own_Bd Z T'.heap n0 a1 dd ds dp' dl sl pl' dc ks pc df sf pf ∧ pc < pl' ∧ (dp' = dp ∨ h0.size ≤ dp') ∧
      ∀ t, Steps p.tables e below (T'.setTop (mkF m 187 #[.val (.ref a1), .val (.int p1), .val (.int p2), .val (.int p3), .val (.int p4)] [])) t → Steps p.tables e below (T0.setTop (mkF m 158 #[.val (.ref a1), .val (.int p1), .val (.int p2), .val (.int p3), .val (.int p4)] [])) t := by
  have pre0 : ∀ t, Steps p.tables e below (T0.setTop (mkF m 158 #[.val (.ref a1), .val (.int p1), .val (.int p2), .val (.int p3), .val (.int p4)] [])) t → Steps p.tables e below (T0.setTop (mkF m 158 #[.val (.ref a1), .val (.int p1), .val (.int p2), .val (.int p3), .val (.int p4)] [])) t := fun t kT => kT
  obtain ⟨⟨F0, F1, F2, F3, F4, E0⟩, ⟨⟨gd, VD, hgd⟩, ⟨gs, VS, hgs⟩, ⟨gp, VP, hgp⟩⟩, ⟨n1, n2, n3, n4, n5, n6⟩, ⟨q0, q1, q2, q3⟩, ⟨b0, b1, b2, b3, b4, b5, b6, b7⟩⟩ := id B
  have pre1 : ∀ t, Steps p.tables e below (T0.setTop (mkF m 159 #[.val (.ref a1), .val (.int p1), .val (.int p2), .val (.int p3), .val (.int p4)] [(.ref a1)])) t → Steps p.tables e below (T0.setTop (mkF m 158 #[.val (.ref a1), .val (.int p1), .val (.int p2), .val (.int p3), .val (.int p4)] [])) t := fun t kT => pre0 t (by
    show Steps p.tables e below (T0.setTop (mkF m 158 #[.val (.ref a1), .val (.int p1), .val (.int p2), .val (.int p3), .val (.int p4)] [])) _
    refine XS.aloadN X0.here hx rfl (hb hby d8_158) rfl rfl ?_
    exact kT)
  obtain ⟨T2, X2, e2, st2⟩ := getF X0 hx hZ hown (host := "") (Or.inl (hw _ (List.mem_of_getElem? (i := 42) rfl))) Via.refl e0 F4 (g := (mkF m 159 #[.val (.ref a1), .val (.int p1), .val (.int p2), .val (.int p3), .val (.int p4)] [(.ref a1)])) rfl rfl (hb hby d8_159)
  have pre3 : ∀ t, Steps p.tables e below (T2.setTop (mkF m 162 #[.val (.ref a1), .val (.int p1), .val (.int p2), .val (.int p3), .val (.int p4)] [(.int (Int32.ofNat pc))])) t → Steps p.tables e below (T0.setTop (mkF m 158 #[.val (.ref a1), .val (.int p1), .val (.int p2), .val (.int p3), .val (.int p4)] [])) t := fun t kT => pre1 t (st2 t kT)
  have pre4 : ∀ t, Steps p.tables e below (T2.setTop (mkF m 163 #[.val (.ref a1), .val (.int p1), .val (.int p2), .val (.int p3), .val (.int p4)] [(.ref a1), (.int (Int32.ofNat pc))])) t → Steps p.tables e below (T0.setTop (mkF m 158 #[.val (.ref a1), .val (.int p1), .val (.int p2), .val (.int p3), .val (.int p4)] [])) t := fun t kT => pre3 t (by
    show Steps p.tables e below (T2.setTop (mkF m 162 #[.val (.ref a1), .val (.int p1), .val (.int p2), .val (.int p3), .val (.int p4)] [(.int (Int32.ofNat pc))])) _
    refine XS.aloadN X2.here hx rfl (hb hby d8_162) rfl rfl ?_
    exact kT)
  obtain ⟨T5, X5, e5, st5⟩ := getF X2 hx hZ hown (host := "") (Or.inl (hw _ (List.mem_of_getElem? (i := 18) rfl))) Via.refl e2 F2 (g := (mkF m 163 #[.val (.ref a1), .val (.int p1), .val (.int p2), .val (.int p3), .val (.int p4)] [(.ref a1), (.int (Int32.ofNat pc))])) rfl rfl (hb hby d8_163)
  have pre6 : ∀ t, Steps p.tables e below (T5.setTop (mkF m 166 #[.val (.ref a1), .val (.int p1), .val (.int p2), .val (.int p3), .val (.int p4)] [(.ref dp), (.int (Int32.ofNat pc))])) t → Steps p.tables e below (T0.setTop (mkF m 158 #[.val (.ref a1), .val (.int p1), .val (.int p2), .val (.int p3), .val (.int p4)] [])) t := fun t kT => pre4 t (st5 t kT)
  obtain ⟨co7, ⟨Ao7, Ko7⟩, So7, Ho7⟩ := id VP
  have pre8 : ∀ t, Steps p.tables e below (T5.setTop (mkF m 167 #[.val (.ref a1), .val (.int p1), .val (.int p2), .val (.int p3), .val (.int p4)] [(.int (Int32.ofNat pl)), (.int (Int32.ofNat pc))])) t → Steps p.tables e below (T0.setTop (mkF m 158 #[.val (.ref a1), .val (.int p1), .val (.int p2), .val (.int p3), .val (.int p4)] [])) t := fun t kT => pre6 t (by
    show Steps p.tables e below (T5.setTop (mkF m 166 #[.val (.ref a1), .val (.int p1), .val (.int p2), .val (.int p3), .val (.int p4)] [(.ref dp), (.int (Int32.ofNat pc))])) _
    refine X5.arraylength hx (by rw [e5]; exact Ao7.1) (State.isArrayOf_alike hZ.alike Ao7.2.1) (g := (mkF m 166 #[.val (.ref a1), .val (.int p1), .val (.int p2), .val (.int p3), .val (.int p4)] [(.ref dp), (.int (Int32.ofNat pc))])) rfl rfl (hb hby d8_166) _ ?_
    rw [So7]
    exact kT)
  by_cases hgr : (Int32.ofNat pc) = (Int32.ofNat pl)
  · have hg := (own_ij (by omega) (by omega)).mp hgr
    have pre9 : ∀ t, Steps p.tables e below (T5.setTop (mkF m 172 #[.val (.ref a1), .val (.int p1), .val (.int p2), .val (.int p3), .val (.int p4)] [(.ref a1), (.ref a1)])) t → Steps p.tables e below (T0.setTop (mkF m 158 #[.val (.ref a1), .val (.int p1), .val (.int p2), .val (.int p3), .val (.int p4)] [])) t := fun t kT => pre8 t (by
      show Steps p.tables e below (T5.setTop (mkF m 167 #[.val (.ref a1), .val (.int p1), .val (.int p2), .val (.int p3), .val (.int p4)] [(.int (Int32.ofNat pl)), (.int (Int32.ofNat pc))])) _
      refine XS.icmpNo X5.here hx rfl (hb hby d8_167) rfl (teq hgr).2 ?_
      show Steps p.tables e below (T5.setTop (mkF m 170 #[.val (.ref a1), .val (.int p1), .val (.int p2), .val (.int p3), .val (.int p4)] [])) _
      refine XS.aloadN X5.here hx rfl (hb hby d8_170) rfl rfl ?_
      show Steps p.tables e below (T5.setTop (mkF m 171 #[.val (.ref a1), .val (.int p1), .val (.int p2), .val (.int p3), .val (.int p4)] [(.ref a1)])) _
      refine XS.aloadN X5.here hx rfl (hb hby d8_171) rfl rfl ?_
      exact kT)
    obtain ⟨T10, X10, e10, st10⟩ := getF X5 hx hZ hown (host := "") (Or.inl (hw _ (List.mem_of_getElem? (i := 18) rfl))) Via.refl e5 F2 (g := (mkF m 172 #[.val (.ref a1), .val (.int p1), .val (.int p2), .val (.int p3), .val (.int p4)] [(.ref a1), (.ref a1)])) rfl rfl (hb hby d8_172)
    have pre11 : ∀ t, Steps p.tables e below (T10.setTop (mkF m 175 #[.val (.ref a1), .val (.int p1), .val (.int p2), .val (.int p3), .val (.int p4)] [(.ref dp), (.ref a1)])) t → Steps p.tables e below (T0.setTop (mkF m 158 #[.val (.ref a1), .val (.int p1), .val (.int p2), .val (.int p3), .val (.int p4)] [])) t := fun t kT => pre9 t (st10 t kT)
    have pre12 : ∀ t, Steps p.tables e below (T10.setTop (mkF m 176 #[.val (.ref a1), .val (.int p1), .val (.int p2), .val (.int p3), .val (.int p4)] [(.ref a1), (.ref dp), (.ref a1)])) t → Steps p.tables e below (T0.setTop (mkF m 158 #[.val (.ref a1), .val (.int p1), .val (.int p2), .val (.int p3), .val (.int p4)] [])) t := fun t kT => pre11 t (by
      show Steps p.tables e below (T10.setTop (mkF m 175 #[.val (.ref a1), .val (.int p1), .val (.int p2), .val (.int p3), .val (.int p4)] [(.ref dp), (.ref a1)])) _
      refine XS.aloadN X10.here hx rfl (hb hby d8_175) rfl rfl ?_
      exact kT)
    obtain ⟨T13, X13, e13, st13⟩ := getF X10 hx hZ hown (host := "") (Or.inl (hw _ (List.mem_of_getElem? (i := 42) rfl))) Via.refl e10 F4 (g := (mkF m 176 #[.val (.ref a1), .val (.int p1), .val (.int p2), .val (.int p3), .val (.int p4)] [(.ref a1), (.ref dp), (.ref a1)])) rfl rfl (hb hby d8_176)
    have pre14 : ∀ t, Steps p.tables e below (T13.setTop (mkF m 179 #[.val (.ref a1), .val (.int p1), .val (.int p2), .val (.int p3), .val (.int p4)] [(.int (Int32.ofNat pc)), (.ref dp), (.ref a1)])) t → Steps p.tables e below (T0.setTop (mkF m 158 #[.val (.ref a1), .val (.int p1), .val (.int p2), .val (.int p3), .val (.int p4)] [])) t := fun t kT => pre12 t (st13 t kT)
    have pre15 : ∀ t, Steps p.tables e below (T13.setTop (mkF m 181 #[.val (.ref a1), .val (.int p1), .val (.int p2), .val (.int p3), .val (.int p4)] [(.int ((Int32.ofNat pc) * (2 : Int32))), (.ref dp), (.ref a1)])) t → Steps p.tables e below (T0.setTop (mkF m 158 #[.val (.ref a1), .val (.int p1), .val (.int p2), .val (.int p3), .val (.int p4)] [])) t := fun t kT => pre14 t (by
      show Steps p.tables e below (T13.setTop (mkF m 179 #[.val (.ref a1), .val (.int p1), .val (.int p2), .val (.int p3), .val (.int p4)] [(.int (Int32.ofNat pc)), (.ref dp), (.ref a1)])) _
      refine XS.iconst X13.here hx rfl (hb hby d8_179) ?_
      show Steps p.tables e below (T13.setTop (mkF m 180 #[.val (.ref a1), .val (.int p1), .val (.int p2), .val (.int p3), .val (.int p4)] [(.int (2 : Int32)), (.int (Int32.ofNat pc)), (.ref dp), (.ref a1)])) _
      refine XS.imul X13.here hx rfl (hb hby d8_180) rfl ?_
      exact kT)
    rw [own_two] at pre15
    have pre16 : ∀ t, Steps p.tables e below (T13.setTop (mkF m 181 #[.val (.ref a1), .val (.int p1), .val (.int p2), .val (.int p3), .val (.int p4)] [(.int (Int32.ofNat (pc * 2))), (.ref dp), (.ref a1)])) t → Steps p.tables e below (T0.setTop (mkF m 158 #[.val (.ref a1), .val (.int p1), .val (.int p2), .val (.int p3), .val (.int p4)] [])) t := fun t kT => pre15 t (by
      exact kT)
    obtain ⟨T17, h17, X17, e17, E17, A17, st17⟩ := own_copy X13 hx hZ hown (hw _ (List.mem_of_getElem? (i := 30) rfl)) (hw _ (List.mem_of_getElem? (i := 31) rfl)) (fun a' => own_tab hZ hw a') (hw _ (List.mem_of_getElem? (i := 32) rfl)) (hw _ (List.mem_of_getElem? (i := 33) rfl)) e13 VP (by omega) (by omega) (g := (mkF m 181 #[.val (.ref a1), .val (.int p1), .val (.int p2), .val (.int p3), .val (.int p4)] [(.int (Int32.ofNat (pc * 2))), (.ref dp), (.ref a1)])) rfl (by rw [hml]; rfl) rfl (W := 1) (by show 2 * 0 + _ ≤ _; exact Nat.le_of_eq rfl) (hb hby d8_181) hRf (by omega) (by omega) (by show slots + (pc * 2) ≤ _; omega)
    obtain ⟨xp, g17⟩ : ∃ z, z = h0.size := ⟨_, rfl⟩
    rw [← g17] at A17 st17
    have ne_a1_xp : a1 ≠ xp := Nat.ne_of_lt (Nat.lt_of_lt_of_le F0.lt (Nat.le_of_eq g17.symm))
    have ne_dd_xp : dd ≠ xp := Nat.ne_of_lt (Nat.lt_of_lt_of_le VD.lt (Nat.le_of_eq g17.symm))
    have ne_ds_xp : ds ≠ xp := Nat.ne_of_lt (Nat.lt_of_lt_of_le VS.lt (Nat.le_of_eq g17.symm))
    have ne_dp_xp : dp ≠ xp := Nat.ne_of_lt (Nat.lt_of_lt_of_le VP.lt (Nat.le_of_eq g17.symm))
    have g_xp : n0 ≤ xp := Nat.le_trans Z0 (Nat.le_of_eq g17.symm)
    have fr_xp : h0.size ≤ xp := Nat.le_trans (Keep.refl h0 [a1]).1 (Nat.le_of_eq g17.symm)
    have pre18 : ∀ t, Steps p.tables e below (T17.setTop (mkF m 184 #[.val (.ref a1), .val (.int p1), .val (.int p2), .val (.int p3), .val (.int p4)] [(.ref xp), (.ref a1)])) t → Steps p.tables e below (T0.setTop (mkF m 158 #[.val (.ref a1), .val (.int p1), .val (.int p2), .val (.int p3), .val (.int p4)] [])) t := fun t kT => pre16 t (st17 t kT)
    have F0_e17 : Fld Z h17 a1 "com/example/esteem/esteem/index/Postings$Builder" "docs" "[I" (.ref dd) := F0.ext E17
    have F1_e17 : Fld Z h17 a1 "com/example/esteem/esteem/index/Postings$Builder" "starts" "[I" (.ref ds) := F1.ext E17
    have F2_e17 : Fld Z h17 a1 "com/example/esteem/esteem/index/Postings$Builder" "positions" "[I" (.ref dp) := F2.ext E17
    have F3_e17 : Fld Z h17 a1 "com/example/esteem/esteem/index/Postings$Builder" "docCount" "I" (.int (Int32.ofNat dc)) := F3.ext E17
    have F4_e17 : Fld Z h17 a1 "com/example/esteem/esteem/index/Postings$Builder" "positionCount" "I" (.int (Int32.ofNat pc)) := F4.ext E17
    have E0_e17 : Exa Z h17 a1 "com/example/esteem/esteem/index/Postings$Builder" := E0.ext E17
    have VD_e17 : own_Ar Z h17 dd .int dl (fun i => .int (gd i)) := VD.ext E17
    have VS_e17 : own_Ar Z h17 ds .int sl (fun i => .int (gs i)) := VS.ext E17
    have VP_e17 : own_Ar Z h17 dp .int pl (fun i => .int (gp i)) := VP.ext E17
    have sz17 : n0 ≤ h17.size := Nat.le_trans Z0 E17.1
    have KK17 : Keep h0 h17 [a1] := (Keep.refl h0 [a1]).ext E17
    have V_xp : own_Ar Z h17 xp .int (pc * 2) (fun i => .int (if i < pl then gp i else 0)) := A17
    have pre19 : ∀ t, Steps p.tables e below (T17.setTop (mkF m 184 #[.val (.ref a1), .val (.int p1), .val (.int p2), .val (.int p3), .val (.int p4)] [(.ref xp), (.ref a1)])) t → Steps p.tables e below (T0.setTop (mkF m 158 #[.val (.ref a1), .val (.int p1), .val (.int p2), .val (.int p3), .val (.int p4)] [])) t := fun t kT => pre18 t (by
      exact kT)
    obtain ⟨T20, h20, X20, e20, W20, st20⟩ := putF X17 hx hZ hown (host := "") (Or.inl (hw _ (List.mem_of_getElem? (i := 18) rfl))) Via.refl e17 F2_e17 E0_e17 (Or.inl (hw _ (List.mem_of_getElem? (i := 19) rfl))) (hw _ (List.mem_of_getElem? (i := 6) rfl)) (ty := (.array .int)) (by decide) rfl rfl (g := (mkF m 184 #[.val (.ref a1), .val (.int p1), .val (.int p2), .val (.int p3), .val (.int p4)] [(.ref xp), (.ref a1)])) rfl rfl (hb hby d8_184)
    have pre21 : ∀ t, Steps p.tables e below (T20.setTop (mkF m 187 #[.val (.ref a1), .val (.int p1), .val (.int p2), .val (.int p3), .val (.int p4)] [])) t → Steps p.tables e below (T0.setTop (mkF m 158 #[.val (.ref a1), .val (.int p1), .val (.int p2), .val (.int p3), .val (.int p4)] [])) t := fun t kT => pre19 t (st20 t kT)
    have N20 := Fr.snoc X20 N0 q0
    have F0_e20 : Fld Z h20 a1 "com/example/esteem/esteem/index/Postings$Builder" "docs" "[I" (.ref dd) := F0_e17.other W20 (Or.inr (slot_ne (Or.inl (hw _ (List.mem_of_getElem? (i := 15) rfl))) (Or.inl (hw _ (List.mem_of_getElem? (i := 19) rfl))) (by decide) (t := (.array .int)) (t' := (.array .int)) (by decide) (by decide)))
    have F1_e20 : Fld Z h20 a1 "com/example/esteem/esteem/index/Postings$Builder" "starts" "[I" (.ref ds) := F1_e17.other W20 (Or.inr (slot_ne (Or.inl (hw _ (List.mem_of_getElem? (i := 17) rfl))) (Or.inl (hw _ (List.mem_of_getElem? (i := 19) rfl))) (by decide) (t := (.array .int)) (t' := (.array .int)) (by decide) (by decide)))
    have F3_e20 : Fld Z h20 a1 "com/example/esteem/esteem/index/Postings$Builder" "docCount" "I" (.int (Int32.ofNat dc)) := F3_e17.other W20 (Or.inr (slot_ne (Or.inl (hw _ (List.mem_of_getElem? (i := 29) rfl))) (Or.inl (hw _ (List.mem_of_getElem? (i := 19) rfl))) (by decide) (t := .int) (t' := (.array .int)) (by decide) (by decide)))
    have F4_e20 : Fld Z h20 a1 "com/example/esteem/esteem/index/Postings$Builder" "positionCount" "I" (.int (Int32.ofNat pc)) := F4_e17.other W20 (Or.inr (slot_ne (Or.inl (hw _ (List.mem_of_getElem? (i := 43) rfl))) (Or.inl (hw _ (List.mem_of_getElem? (i := 19) rfl))) (by decide) (t := .int) (t' := (.array .int)) (by decide) (by decide)))
    have E0_e20 : Exa Z h20 a1 "com/example/esteem/esteem/index/Postings$Builder" := E0_e17.wr W20
    have VD_e20 : own_Ar Z h20 dd .int dl (fun i => .int (gd i)) := VD_e17.other W20 (Ne.symm n4)
    have VS_e20 : own_Ar Z h20 ds .int sl (fun i => .int (gs i)) := VS_e17.other W20 (Ne.symm n5)
    have VP_e20 : own_Ar Z h20 dp .int pl (fun i => .int (gp i)) := VP_e17.other W20 (Ne.symm n6)
    have V_xp_e20 : own_Ar Z h20 xp .int (pc * 2) (fun i => .int (if i < pl then gp i else 0)) := V_xp.other W20 (Ne.symm ne_a1_xp)
    have sz20 : n0 ≤ h20.size := Nat.le_trans sz17 (Keep.of_wr W20).1
    have KK20 : Keep h0 h20 [a1] := KK17.wr W20 (Or.inl (List.mem_of_getElem? (i := 0) rfl))
    have F_a1_positions_e20 : Fld Z h20 a1 "com/example/esteem/esteem/index/Postings$Builder" "positions" "[I" (.ref xp) := F2_e17.same W20
    have pre22 : ∀ t, Steps p.tables e below (T20.setTop (mkF m 187 #[.val (.ref a1), .val (.int p1), .val (.int p2), .val (.int p3), .val (.int p4)] [])) t → Steps p.tables e below (T0.setTop (mkF m 158 #[.val (.ref a1), .val (.int p1), .val (.int p2), .val (.int p3), .val (.int p4)] [])) t := fun t kT => pre21 t (by
      exact kT)
    exact ⟨T20, _, xp, (pc * 2), X20.more (by omega) (by omega), N20, by rw [e20]; exact KK20, by rw [e20]; exact ⟨⟨F0_e20, F1_e20, F_a1_positions_e20, F3_e20, F4_e20, E0_e20⟩, ⟨own_Pf.of VD_e20 hgd, own_Pf.of VS_e20 hgs, own_Pf.grown V_xp_e20 hgp (by omega)⟩, ⟨n1, ne_dd_xp, ne_ds_xp, n4, n5, ne_a1_xp⟩, ⟨q0, q1, q2, g_xp⟩, ⟨by omega, by omega, by omega, by omega, by omega, by omega, by omega, by omega⟩⟩, by omega, Or.inr fr_xp, pre22⟩
  · have pre23 : ∀ t, Steps p.tables e below (T5.setTop (mkF m 187 #[.val (.ref a1), .val (.int p1), .val (.int p2), .val (.int p3), .val (.int p4)] [])) t → Steps p.tables e below (T0.setTop (mkF m 158 #[.val (.ref a1), .val (.int p1), .val (.int p2), .val (.int p3), .val (.int p4)] [])) t := fun t kT => pre8 t (by
      show Steps p.tables e below (T5.setTop (mkF m 167 #[.val (.ref a1), .val (.int p1), .val (.int p2), .val (.int p3), .val (.int p4)] [(.int (Int32.ofNat pl)), (.int (Int32.ofNat pc))])) _
      refine XS.icmpYes X5.here hx rfl (pc0 := 167) (pc' := 187) rfl (hb hby d8_167) rfl (feq hgr).2 (by decide) (by decide) ?_
      exact kT)
    have hg := mt (own_ij (i := pc) (j := pl) (by omega) (by omega)).mpr hgr
    exact ⟨T5, _, dp, pl, X5.more (by omega) (by omega), N0, by rw [e5]; exact (Keep.refl h0 [a1]), by rw [e5]; exact B, by omega, Or.inl rfl, pre23⟩
theorem d8_187 : decode prog_21_method_2_code 187 = .ok (.aload_n 0, 1) := by decide +kernel
theorem d8_188 : decode prog_21_method_2_code 188 = .ok (.getfield 16, 3) := by decide +kernel
theorem d8_191 : decode prog_21_method_2_code 191 = .ok (.aload_n 0, 1) := by decide +kernel
theorem d8_192 : decode prog_21_method_2_code 192 = .ok (.getfield 42, 3) := by decide +kernel
theorem d8_195 : decode prog_21_method_2_code 195 = .ok (.iload_n 2, 1) := by decide +kernel
theorem d8_196 : decode prog_21_method_2_code 196 = .ok (.iastore, 1) := by decide +kernel
theorem d8_197 : decode prog_21_method_2_code 197 = .ok (.aload_n 0, 1) := by decide +kernel
theorem d8_198 : decode prog_21_method_2_code 198 = .ok (.dup, 1) := by decide +kernel
theorem d8_199 : decode prog_21_method_2_code 199 = .ok (.getfield 42, 3) := by decide +kernel
theorem d8_202 : decode prog_21_method_2_code 202 = .ok (.iconst 1, 1) := by decide +kernel
theorem d8_203 : decode prog_21_method_2_code 203 = .ok (.iadd, 1) := by decide +kernel
theorem d8_204 : decode prog_21_method_2_code 204 = .ok (.putfield 42, 3) := by decide +kernel
theorem d8_207 : decode prog_21_method_2_code 207 = .ok (.aload_n 0, 1) := by decide +kernel
theorem d8_208 : decode prog_21_method_2_code 208 = .ok (.getfield 13, 3) := by decide +kernel
theorem d8_211 : decode prog_21_method_2_code 211 = .ok (.aload_n 0, 1) := by decide +kernel
theorem d8_212 : decode prog_21_method_2_code 212 = .ok (.getfield 19, 3) := by decide +kernel
theorem d8_215 : decode prog_21_method_2_code 215 = .ok (.aload_n 0, 1) := by decide +kernel
theorem d8_216 : decode prog_21_method_2_code 216 = .ok (.getfield 42, 3) := by decide +kernel
theorem d8_219 : decode prog_21_method_2_code 219 = .ok (.iastore, 1) := by decide +kernel
set_option maxRecDepth 65536 in
set_option maxHeartbeats 40000000 in
theorem tn_pos {p : Program} {l : Launch} {e : Env} {R : Room} {s : State} {m : MethodId} {args : Array Value} {below : List Frame} {meth : Method} {c : Code} {T0 : State} {locs : List Loc} {cells slots : Nat} {Z : State} {a0 : Array Value} {h0 : Heap} {n0 : Nat} (a1 : Addr) (p1 p2 p3 p4 : Int32) (dd ds dp : Addr) (dl sl pl dc ks pc : Nat) (df sf pf : Nat → Int32)
    (X0 : Stand p l e R s m args below meth c T0 locs cells slots) (hx : p.tables.exec = Jvm.exec) (hZ : Z.Warmed39 s.vm) (hw : ∀ d ∈ tables_1, d.before a0 Z = true) (hby : c.code = prog_21_method_2_code) (hml : c.maxLocals = 5) (hown : s.vm.findClass "com/example/esteem/esteem/index/Postings$Builder" = some m.cls) (e0 : T0.heap = h0) (B : own_Bd Z h0 n0 a1 dd ds dp dl sl pl dc ks pc df sf pf) (hRf : 2 ≤ R.frames) (hRl : 70 ≤ R.locals) (N0 : Fr n0 locs) (Z0 : n0 ≤ h0.size) (hpl : pc < pl) (hks : dc ≤ ks) :
    ∃ (T' : State) (locs' : List Loc), Stand p l e R s m args below meth c T' locs' cells slots ∧ Fr n0 locs' ∧ Keep h0 T'.heap [a1, dp, ds] ∧ own_Bd Z T'.heap n0 a1 dd ds dp dl sl pl dc (dc + 1) (pc + 1) df (own_updI sf dc (Int32.ofNat (pc + 1))) (own_updI pf pc p2) ∧
      ∀ t, Steps p.tables e below (T'.setTop (mkF m 220 #[.val (.ref a1), .val (.int p1), .val (.int p2), .val (.int p3), .val (.int p4)] [])) t → Steps p.tables e below (T0.setTop (mkF m 187 #[.val (.ref a1), .val (.int p1), .val (.int p2), .val (.int p3), .val (.int p4)] [])) t := by
  have pre0 : ∀ t, Steps p.tables e below (T0.setTop (mkF m 187 #[.val (.ref a1), .val (.int p1), .val (.int p2), .val (.int p3), .val (.int p4)] [])) t → Steps p.tables e below (T0.setTop (mkF m 187 #[.val (.ref a1), .val (.int p1), .val (.int p2), .val (.int p3), .val (.int p4)] [])) t := fun t kT => kT
  obtain ⟨⟨F0, F1, F2, F3, F4, E0⟩, ⟨⟨gd, VD, hgd⟩, ⟨gs, VS, hgs⟩, ⟨gp, VP, hgp⟩⟩, ⟨n1, n2, n3, n4, n5, n6⟩, ⟨q0, q1, q2, q3⟩, ⟨b0, b1, b2, b3, b4, b5, b6, b7⟩⟩ := id B
  have pre1 : ∀ t, Steps p.tables e below (T0.setTop (mkF m 188 #[.val (.ref a1), .val (.int p1), .val (.int p2), .val (.int p3), .val (.int p4)] [(.ref a1)])) t → Steps p.tables e below (T0.setTop (mkF m 187 #[.val (.ref a1), .val (.int p1), .val (.int p2), .val (.int p3), .val (.int p4)] [])) t := fun t kT => pre0 t (by
    show Steps p.tables e below (T0.setTop (mkF m 187 #[.val (.ref a1), .val (.int p1), .val (.int p2), .val (.int p3), .val (.int p4)] [])) _
    refine XS.aloadN X0.here hx rfl (hb hby d8_187) rfl rfl ?_
    exact kT)
  obtain ⟨T2, X2, e2, st2⟩ := getF X0 hx hZ hown (host := "") (Or.inl (hw _ (List.mem_of_getElem? (i := 18) rfl))) Via.refl e0 F2 (g := (mkF m 188 #[.val (.ref a1), .val (.int p1), .val (.int p2), .val (.int p3), .val (.int p4)] [(.ref a1)])) rfl rfl (hb hby d8_188)
  have pre3 : ∀ t, Steps p.tables e below (T2.setTop (mkF m 191 #[.val (.ref a1), .val (.int p1), .val (.int p2), .val (.int p3), .val (.int p4)] [(.ref dp)])) t → Steps p.tables e below (T0.setTop (mkF m 187 #[.val (.ref a1), .val (.int p1), .val (.int p2), .val (.int p3), .val (.int p4)] [])) t := fun t kT => pre1 t (st2 t kT)
  have pre4 : ∀ t, Steps p.tables e below (T2.setTop (mkF m 192 #[.val (.ref a1), .val (.int p1), .val (.int p2), .val (.int p3), .val (.int p4)] [(.ref a1), (.ref dp)])) t → Steps p.tables e below (T0.setTop (mkF m 187 #[.val (.ref a1), .val (.int p1), .val (.int p2), .val (.int p3), .val (.int p4)] [])) t := fun t kT => pre3 t (by
    show Steps p.tables e below (T2.setTop (mkF m 191 #[.val (.ref a1), .val (.int p1), .val (.int p2), .val (.int p3), .val (.int p4)] [(.ref dp)])) _
    refine XS.aloadN X2.here hx rfl (hb hby d8_191) rfl rfl ?_
    exact kT)
  obtain ⟨T5, X5, e5, st5⟩ := getF X2 hx hZ hown (host := "") (Or.inl (hw _ (List.mem_of_getElem? (i := 42) rfl))) Via.refl e2 F4 (g := (mkF m 192 #[.val (.ref a1), .val (.int p1), .val (.int p2), .val (.int p3), .val (.int p4)] [(.ref a1), (.ref dp)])) rfl rfl (hb hby d8_192)
  have pre6 : ∀ t, Steps p.tables e below (T5.setTop (mkF m 195 #[.val (.ref a1), .val (.int p1), .val (.int p2), .val (.int p3), .val (.int p4)] [(.int (Int32.ofNat pc)), (.ref dp)])) t → Steps p.tables e below (T0.setTop (mkF m 187 #[.val (.ref a1), .val (.int p1), .val (.int p2), .val (.int p3), .val (.int p4)] [])) t := fun t kT => pre4 t (st5 t kT)
  obtain ⟨co7, ⟨Ao7, Ko7⟩, So7, Ho7⟩ := id VP
  have io7 := (own_ld So7 Ho7 (j := (Int32.ofNat pc)) (i := pc) (own_n0 (show pc < 2 ^ 31 by omega)) (own_n32 (show pc < 2 ^ 31 by omega)) hpl rfl).1
  have pre8 : ∀ t, Steps p.tables e below (T5.setTop (mkF m 196 #[.val (.ref a1), .val (.int p1), .val (.int p2), .val (.int p3), .val (.int p4)] [(.int p2), (.int (Int32.ofNat pc)), (.ref dp)])) t → Steps p.tables e below (T0.setTop (mkF m 187 #[.val (.ref a1), .val (.int p1), .val (.int p2), .val (.int p3), .val (.int p4)] [])) t := fun t kT => pre6 t (by
    show Steps p.tables e below (T5.setTop (mkF m 195 #[.val (.ref a1), .val (.int p1), .val (.int p2), .val (.int p3), .val (.int p4)] [(.int (Int32.ofNat pc)), (.ref dp)])) _
    refine XS.iloadN X5.here hx rfl (hb hby d8_195) rfl ?_
    exact kT)
  obtain ⟨T9, h9, X9, e9, W9, st9⟩ := stI X5 hx hZ e5 Ao7 (j := (Int32.ofNat pc)) io7 (g := (mkF m 196 #[.val (.ref a1), .val (.int p1), .val (.int p2), .val (.int p3), .val (.int p4)] [(.int p2), (.int (Int32.ofNat pc)), (.ref dp)])) rfl rfl (hb hby d8_196)
  rw [(own_n32 (show pc < 2 ^ 31 by omega))] at W9
  have pre10 : ∀ t, Steps p.tables e below (T9.setTop (mkF m 197 #[.val (.ref a1), .val (.int p1), .val (.int p2), .val (.int p3), .val (.int p4)] [])) t → Steps p.tables e below (T0.setTop (mkF m 187 #[.val (.ref a1), .val (.int p1), .val (.int p2), .val (.int p3), .val (.int p4)] [])) t := fun t kT => pre8 t (st9 t kT)
  have F0_e9 : Fld Z h9 a1 "com/example/esteem/esteem/index/Postings$Builder" "docs" "[I" (.ref dd) := F0.other W9 (Or.inl n6)
  have F1_e9 : Fld Z h9 a1 "com/example/esteem/esteem/index/Postings$Builder" "starts" "[I" (.ref ds) := F1.other W9 (Or.inl n6)
  have F2_e9 : Fld Z h9 a1 "com/example/esteem/esteem/index/Postings$Builder" "positions" "[I" (.ref dp) := F2.other W9 (Or.inl n6)
  have F3_e9 : Fld Z h9 a1 "com/example/esteem/esteem/index/Postings$Builder" "docCount" "I" (.int (Int32.ofNat dc)) := F3.other W9 (Or.inl n6)
  have F4_e9 : Fld Z h9 a1 "com/example/esteem/esteem/index/Postings$Builder" "positionCount" "I" (.int (Int32.ofNat pc)) := F4.other W9 (Or.inl n6)
  have E0_e9 : Exa Z h9 a1 "com/example/esteem/esteem/index/Postings$Builder" := E0.wr W9
  have VD_e9 : own_Ar Z h9 dd .int dl (fun i => .int (gd i)) := VD.other W9 n2
  have VS_e9 : own_Ar Z h9 ds .int sl (fun i => .int (gs i)) := VS.other W9 n3
  have sz9 : n0 ≤ h9.size := Nat.le_trans Z0 (Keep.of_wr W9).1
  have KK9 : Keep h0 h9 [a1, dp, ds] := (Keep.refl h0 [a1, dp, ds]).wr W9 (Or.inl (List.mem_of_getElem? (i := 1) rfl))
  have V_dp_e9 : own_Ar Z h9 dp .int pl (own_upd (fun i => .int (gp i)) pc (.int p2)) := VP.set W9
  have N9 := Fr.snoc X9 N0 q3
  have pre11 : ∀ t, Steps p.tables e below (T9.setTop (mkF m 199 #[.val (.ref a1), .val (.int p1), .val (.int p2), .val (.int p3), .val (.int p4)] [(.ref a1), (.ref a1)])) t → Steps p.tables e below (T0.setTop (mkF m 187 #[.val (.ref a1), .val (.int p1), .val (.int p2), .val (.int p3), .val (.int p4)] [])) t := fun t kT => pre10 t (by
    show Steps p.tables e below (T9.setTop (mkF m 197 #[.val (.ref a1), .val (.int p1), .val (.int p2), .val (.int p3), .val (.int p4)] [])) _
    refine XS.aloadN X9.here hx rfl (hb hby d8_197) rfl rfl ?_
    show Steps p.tables e below (T9.setTop (mkF m 198 #[.val (.ref a1), .val (.int p1), .val (.int p2), .val (.int p3), .val (.int p4)] [(.ref a1)])) _
    refine XS.dup X9.here hx rfl (hb hby d8_198) rfl rfl ?_
    exact kT)
  obtain ⟨T12, X12, e12, st12⟩ := getF X9 hx hZ hown (host := "") (Or.inl (hw _ (List.mem_of_getElem? (i := 42) rfl))) Via.refl e9 F4_e9 (g := (mkF m 199 #[.val (.ref a1), .val (.int p1), .val (.int p2), .val (.int p3), .val (.int p4)] [(.ref a1), (.ref a1)])) rfl rfl (hb hby d8_199)
  have pre13 : ∀ t, Steps p.tables e below (T12.setTop (mkF m 202 #[.val (.ref a1), .val (.int p1), .val (.int p2), .val (.int p3), .val (.int p4)] [(.int (Int32.ofNat pc)), (.ref a1)])) t → Steps p.tables e below (T0.setTop (mkF m 187 #[.val (.ref a1), .val (.int p1), .val (.int p2), .val (.int p3), .val (.int p4)] [])) t := fun t kT => pre11 t (st12 t kT)
  have pre14 : ∀ t, Steps p.tables e below (T12.setTop (mkF m 204 #[.val (.ref a1), .val (.int p1), .val (.int p2), .val (.int p3), .val (.int p4)] [(.int ((Int32.ofNat pc) + (1 : Int32))), (.ref a1)])) t → Steps p.tables e below (T0.setTop (mkF m 187 #[.val (.ref a1), .val (.int p1), .val (.int p2), .val (.int p3), .val (.int p4)] [])) t := fun t kT => pre13 t (by
    show Steps p.tables e below (T12.setTop (mkF m 202 #[.val (.ref a1), .val (.int p1), .val (.int p2), .val (.int p3), .val (.int p4)] [(.int (Int32.ofNat pc)), (.ref a1)])) _
    refine XS.iconst X12.here hx rfl (hb hby d8_202) ?_
    show Steps p.tables e below (T12.setTop (mkF m 203 #[.val (.ref a1), .val (.int p1), .val (.int p2), .val (.int p3), .val (.int p4)] [(.int (1 : Int32)), (.int (Int32.ofNat pc)), (.ref a1)])) _
    refine XS.iadd X12.here hx rfl (hb hby d8_203) rfl ?_
    exact kT)
  rw [own_one] at pre14
  have pre15 : ∀ t, Steps p.tables e below (T12.setTop (mkF m 204 #[.val (.ref a1), .val (.int p1), .val (.int p2), .val (.int p3), .val (.int p4)] [(.int (Int32.ofNat (pc + 1))), (.ref a1)])) t → Steps p.tables e below (T0.setTop (mkF m 187 #[.val (.ref a1), .val (.int p1), .val (.int p2), .val (.int p3), .val (.int p4)] [])) t := fun t kT => pre14 t (by
    exact kT)
  obtain ⟨T16, h16, X16, e16, W16, st16⟩ := putF X12 hx hZ hown (host := "") (Or.inl (hw _ (List.mem_of_getElem? (i := 42) rfl))) Via.refl e12 F4_e9 E0_e9 (Or.inl (hw _ (List.mem_of_getElem? (i := 43) rfl))) (hw _ (List.mem_of_getElem? (i := 6) rfl)) (ty := .int) (by decide) rfl rfl (g := (mkF m 204 #[.val (.ref a1), .val (.int p1), .val (.int p2), .val (.int p3), .val (.int p4)] [(.int (Int32.ofNat (pc + 1))), (.ref a1)])) rfl rfl (hb hby d8_204)
  have pre17 : ∀ t, Steps p.tables e below (T16.setTop (mkF m 207 #[.val (.ref a1), .val (.int p1), .val (.int p2), .val (.int p3), .val (.int p4)] [])) t → Steps p.tables e below (T0.setTop (mkF m 187 #[.val (.ref a1), .val (.int p1), .val (.int p2), .val (.int p3), .val (.int p4)] [])) t := fun t kT => pre15 t (st16 t kT)
  have N16 := Fr.snoc X16 N9 q0
  have F0_e16 : Fld Z h16 a1 "com/example/esteem/esteem/index/Postings$Builder" "docs" "[I" (.ref dd) := F0_e9.other W16 (Or.inr (slot_ne (Or.inl (hw _ (List.mem_of_getElem? (i := 15) rfl))) (Or.inl (hw _ (List.mem_of_getElem? (i := 43) rfl))) (by decide) (t := (.array .int)) (t' := .int) (by decide) (by decide)))
  have F1_e16 : Fld Z h16 a1 "com/example/esteem/esteem/index/Postings$Builder" "starts" "[I" (.ref ds) := F1_e9.other W16 (Or.inr (slot_ne (Or.inl (hw _ (List.mem_of_getElem? (i := 17) rfl))) (Or.inl (hw _ (List.mem_of_getElem? (i := 43) rfl))) (by decide) (t := (.array .int)) (t' := .int) (by decide) (by decide)))
  have F2_e16 : Fld Z h16 a1 "com/example/esteem/esteem/index/Postings$Builder" "positions" "[I" (.ref dp) := F2_e9.other W16 (Or.inr (slot_ne (Or.inl (hw _ (List.mem_of_getElem? (i := 19) rfl))) (Or.inl (hw _ (List.mem_of_getElem? (i := 43) rfl))) (by decide) (t := (.array .int)) (t' := .int) (by decide) (by decide)))
  have F3_e16 : Fld Z h16 a1 "com/example/esteem/esteem/index/Postings$Builder" "docCount" "I" (.int (Int32.ofNat dc)) := F3_e9.other W16 (Or.inr (slot_ne (Or.inl (hw _ (List.mem_of_getElem? (i := 29) rfl))) (Or.inl (hw _ (List.mem_of_getElem? (i := 43) rfl))) (by decide) (t := .int) (t' := .int) (by decide) (by decide)))
  have E0_e16 : Exa Z h16 a1 "com/example/esteem/esteem/index/Postings$Builder" := E0_e9.wr W16
  have VD_e16 : own_Ar Z h16 dd .int dl (fun i => .int (gd i)) := VD_e9.other W16 (Ne.symm n4)
  have VS_e16 : own_Ar Z h16 ds .int sl (fun i => .int (gs i)) := VS_e9.other W16 (Ne.symm n5)
  have V_dp_e16 : own_Ar Z h16 dp .int pl (own_upd (fun i => .int (gp i)) pc (.int p2)) := V_dp_e9.other W16 (Ne.symm n6)
  have sz16 : n0 ≤ h16.size := Nat.le_trans sz9 (Keep.of_wr W16).1
  have KK16 : Keep h0 h16 [a1, dp, ds] := KK9.wr W16 (Or.inl (List.mem_of_getElem? (i := 0) rfl))
  have F_a1_positionCount_e16 : Fld Z h16 a1 "com/example/esteem/esteem/index/Postings$Builder" "positionCount" "I" (.int (Int32.ofNat (pc + 1))) := F4_e9.same W16
  have pre18 : ∀ t, Steps p.tables e below (T16.setTop (mkF m 208 #[.val (.ref a1), .val (.int p1), .val (.int p2), .val (.int p3), .val (.int p4)] [(.ref a1)])) t → Steps p.tables e below (T0.setTop (mkF m 187 #[.val (.ref a1), .val (.int p1), .val (.int p2), .val (.int p3), .val (.int p4)] [])) t := fun t kT => pre17 t (by
    show Steps p.tables e below (T16.setTop (mkF m 207 #[.val (.ref a1), .val (.int p1), .val (.int p2), .val (.int p3), .val (.int p4)] [])) _
    refine XS.aloadN X16.here hx rfl (hb hby d8_207) rfl rfl ?_
    exact kT)
  obtain ⟨T19, X19, e19, st19⟩ := getF X16 hx hZ hown (host := "") (Or.inl (hw _ (List.mem_of_getElem? (i := 16) rfl))) Via.refl e16 F1_e16 (g := (mkF m 208 #[.val (.ref a1), .val (.int p1), .val (.int p2), .val (.int p3), .val (.int p4)] [(.ref a1)])) rfl rfl (hb hby d8_208)
  have pre20 : ∀ t, Steps p.tables e below (T19.setTop (mkF m 211 #[.val (.ref a1), .val (.int p1), .val (.int p2), .val (.int p3), .val (.int p4)] [(.ref ds)])) t → Steps p.tables e below (T0.setTop (mkF m 187 #[.val (.ref a1), .val (.int p1), .val (.int p2), .val (.int p3), .val (.int p4)] [])) t := fun t kT => pre18 t (st19 t kT)
  have pre21 : ∀ t, Steps p.tables e below (T19.setTop (mkF m 212 #[.val (.ref a1), .val (.int p1), .val (.int p2), .val (.int p3), .val (.int p4)] [(.ref a1), (.ref ds)])) t → Steps p.tables e below (T0.setTop (mkF m 187 #[.val (.ref a1), .val (.int p1), .val (.int p2), .val (.int p3), .val (.int p4)] [])) t := fun t kT => pre20 t (by
    show Steps p.tables e below (T19.setTop (mkF m 211 #[.val (.ref a1), .val (.int p1), .val (.int p2), .val (.int p3), .val (.int p4)] [(.ref ds)])) _
    refine XS.aloadN X19.here hx rfl (hb hby d8_211) rfl rfl ?_
    exact kT)
  obtain ⟨T22, X22, e22, st22⟩ := getF X19 hx hZ hown (host := "") (Or.inl (hw _ (List.mem_of_getElem? (i := 28) rfl))) Via.refl e19 F3_e16 (g := (mkF m 212 #[.val (.ref a1), .val (.int p1), .val (.int p2), .val (.int p3), .val (.int p4)] [(.ref a1), (.ref ds)])) rfl rfl (hb hby d8_212)
  have pre23 : ∀ t, Steps p.tables e below (T22.setTop (mkF m 215 #[.val (.ref a1), .val (.int p1), .val (.int p2), .val (.int p3), .val (.int p4)] [(.int (Int32.ofNat dc)), (.ref ds)])) t → Steps p.tables e below (T0.setTop (mkF m 187 #[.val (.ref a1), .val (.int p1), .val (.int p2), .val (.int p3), .val (.int p4)] [])) t := fun t kT => pre21 t (st22 t kT)
  have pre24 : ∀ t, Steps p.tables e below (T22.setTop (mkF m 216 #[.val (.ref a1), .val (.int p1), .val (.int p2), .val (.int p3), .val (.int p4)] [(.ref a1), (.int (Int32.ofNat dc)), (.ref ds)])) t → Steps p.tables e below (T0.setTop (mkF m 187 #[.val (.ref a1), .val (.int p1), .val (.int p2), .val (.int p3), .val (.int p4)] [])) t := fun t kT => pre23 t (by
    show Steps p.tables e below (T22.setTop (mkF m 215 #[.val (.ref a1), .val (.int p1), .val (.int p2), .val (.int p3), .val (.int p4)] [(.int (Int32.ofNat dc)), (.ref ds)])) _
    refine XS.aloadN X22.here hx rfl (hb hby d8_215) rfl rfl ?_
    exact kT)
  obtain ⟨T25, X25, e25, st25⟩ := getF X22 hx hZ hown (host := "") (Or.inl (hw _ (List.mem_of_getElem? (i := 42) rfl))) Via.refl e22 F_a1_positionCount_e16 (g := (mkF m 216 #[.val (.ref a1), .val (.int p1), .val (.int p2), .val (.int p3), .val (.int p4)] [(.ref a1), (.int (Int32.ofNat dc)), (.ref ds)])) rfl rfl (hb hby d8_216)
  have pre26 : ∀ t, Steps p.tables e below (T25.setTop (mkF m 219 #[.val (.ref a1), .val (.int p1), .val (.int p2), .val (.int p3), .val (.int p4)] [(.int (Int32.ofNat (pc + 1))), (.int (Int32.ofNat dc)), (.ref ds)])) t → Steps p.tables e below (T0.setTop (mkF m 187 #[.val (.ref a1), .val (.int p1), .val (.int p2), .val (.int p3), .val (.int p4)] [])) t := fun t kT => pre24 t (st25 t kT)
  obtain ⟨co27, ⟨Ao27, Ko27⟩, So27, Ho27⟩ := id VS_e16
  have io27 := (own_ld So27 Ho27 (j := (Int32.ofNat dc)) (i := dc) (own_n0 (show dc < 2 ^ 31 by omega)) (own_n32 (show dc < 2 ^ 31 by omega)) (by omega) rfl).1
  have pre28 : ∀ t, Steps p.tables e below (T25.setTop (mkF m 219 #[.val (.ref a1), .val (.int p1), .val (.int p2), .val (.int p3), .val (.int p4)] [(.int (Int32.ofNat (pc + 1))), (.int (Int32.ofNat dc)), (.ref ds)])) t → Steps p.tables e below (T0.setTop (mkF m 187 #[.val (.ref a1), .val (.int p1), .val (.int p2), .val (.int p3), .val (.int p4)] [])) t := fun t kT => pre26 t (by
    exact kT)
  obtain ⟨T29, h29, X29, e29, W29, st29⟩ := stI X25 hx hZ e25 Ao27 (j := (Int32.ofNat dc)) io27 (g := (mkF m 219 #[.val (.ref a1), .val (.int p1), .val (.int p2), .val (.int p3), .val (.int p4)] [(.int (Int32.ofNat (pc + 1))), (.int (Int32.ofNat dc)), (.ref ds)])) rfl rfl (hb hby d8_219)
  rw [(own_n32 (show dc < 2 ^ 31 by omega))] at W29
  have pre30 : ∀ t, Steps p.tables e below (T29.setTop (mkF m 220 #[.val (.ref a1), .val (.int p1), .val (.int p2), .val (.int p3), .val (.int p4)] [])) t → Steps p.tables e below (T0.setTop (mkF m 187 #[.val (.ref a1), .val (.int p1), .val (.int p2), .val (.int p3), .val (.int p4)] [])) t := fun t kT => pre28 t (st29 t kT)
  have F0_e29 : Fld Z h29 a1 "com/example/esteem/esteem/index/Postings$Builder" "docs" "[I" (.ref dd) := F0_e16.other W29 (Or.inl n5)
  have F1_e29 : Fld Z h29 a1 "com/example/esteem/esteem/index/Postings$Builder" "starts" "[I" (.ref ds) := F1_e16.other W29 (Or.inl n5)
  have F2_e29 : Fld Z h29 a1 "com/example/esteem/esteem/index/Postings$Builder" "positions" "[I" (.ref dp) := F2_e16.other W29 (Or.inl n5)
  have F3_e29 : Fld Z h29 a1 "com/example/esteem/esteem/index/Postings$Builder" "docCount" "I" (.int (Int32.ofNat dc)) := F3_e16.other W29 (Or.inl n5)
  have F_a1_positionCount_e29 : Fld Z h29 a1 "com/example/esteem/esteem/index/Postings$Builder" "positionCount" "I" (.int (Int32.ofNat (pc + 1))) := F_a1_positionCount_e16.other W29 (Or.inl n5)
  have E0_e29 : Exa Z h29 a1 "com/example/esteem/esteem/index/Postings$Builder" := E0_e16.wr W29
  have VD_e29 : own_Ar Z h29 dd .int dl (fun i => .int (gd i)) := VD_e16.other W29 n1
  have V_dp_e29 : own_Ar Z h29 dp .int pl (own_upd (fun i => .int (gp i)) pc (.int p2)) := V_dp_e16.other W29 (Ne.symm n3)
  have sz29 : n0 ≤ h29.size := Nat.le_trans sz16 (Keep.of_wr W29).1
  have KK29 : Keep h0 h29 [a1, dp, ds] := KK16.wr W29 (Or.inl (List.mem_of_getElem? (i := 2) rfl))
  have V_ds_e29 : own_Ar Z h29 ds .int sl (own_upd (fun i => .int (gs i)) dc (.int (Int32.ofNat (pc + 1)))) := VS_e16.set W29
  have N29 := Fr.snoc X29 N16 q2
  have pre31 : ∀ t, Steps p.tables e below (T29.setTop (mkF m 220 #[.val (.ref a1), .val (.int p1), .val (.int p2), .val (.int p3), .val (.int p4)] [])) t → Steps p.tables e below (T0.setTop (mkF m 187 #[.val (.ref a1), .val (.int p1), .val (.int p2), .val (.int p3), .val (.int p4)] [])) t := fun t kT => pre30 t (by
    exact kT)
  exact ⟨T29, _, X29, N29, by rw [e29]; exact KK29, by rw [e29]; exact ⟨⟨F0_e29, F1_e29, F2_e29, F3_e29, F_a1_positionCount_e29, E0_e29⟩, ⟨own_Pf.of VD_e29 hgd, own_Pf.put V_ds_e29 (fun i hi => hgs i (by omega)), own_Pf.put V_dp_e29 hgp⟩, ⟨n1, n2, n3, n4, n5, n6⟩, ⟨q0, q1, q2, q3⟩, ⟨by omega, by omega, by omega, by omega, by omega, by omega, by omega, by omega⟩⟩, pre31⟩
theorem own_priv {p : Program} {l : Launch} {e : Env} {R : Room} {s : State} {m : MethodId} {args : Array Value} {below : List Frame} {meth : Method} {c : Code} {T : State} {locs : List Loc} {cells slots : Nat}
    (X : Stand p l e R s m args below meth c T locs cells slots) (hexec : p.tables.exec = Jvm.exec) {own : String} {index : Nat} {y z : MethodName} {bytes : ByteArray} {maxL : Nat} {ret : Option FieldType}
    (hown : s.vm.findClass own = some m.cls) (hlink : (Cond.methodLink own index y).before args s = true) (hinst : (Cond.instanceMethod y).before args s = true) (hpriv : (Cond.privateMethod y).before args s = true) (hcode : (Cond.code y bytes maxL ret).before args s = true)
    (hsel : (Cond.selects y.cls z z).before args s = true) (hz : z.cls = y.cls) (hy : y.cls ≠ "java/lang/invoke/MethodHandle" ∧ y.cls ≠ "java/lang/invoke/VarHandle")
    {W : Nat} {Pre : Pt → Array Value → Prop} {Post : Pt → Array Value → Option Value → Pt → Prop} (hK : Back l R p e below s args y 3 W Pre Post)
    {g : JFrame} (hg : g.method = m) (hsize : g.locals.size = c.maxLocals) {a : Addr} {cell : Cell} (hcell : T.heap[a]? = some cell) (hobj : ∀ q, cell.vm ≠ .statics q) {argsL rest : List Value} (hlen : ∀ sig, parseMethodDescriptor y.desc = some sig → argsL.length = sig.parameters.length)
    (hstack : g.stack = argsL.reverse ++ .ref a :: rest) (hW : 2 * g.monitorRoom + (rest.map fun v => v.category).sum ≤ W) (hdg : decode c.code g.pc = .ok (.invokevirtual index, 3))
    (hpre : ∀ vm₁, s.WarmedH vm₁ → Pre ⟨T.setVm vm₁, locs, cells, slots⟩ (Value.ref a :: argsL).toArray) :
    ∃ (v : Option Value) (vm₁ : Vm) (B : Pt), s.WarmedH vm₁ ∧ Stand p l e R s m args below meth c B.U B.locs B.cells B.slots ∧ Post ⟨T.setVm vm₁, locs, cells, slots⟩ (Value.ref a :: argsL).toArray v B ∧
      ∀ target, Steps p.tables e below (B.U.setTop { g with pc := g.pc + 3, stack := v.toList ++ rest }) target → Steps p.tables e below (T.setTop g) target := by
  obtain ⟨k, mt, i1, i2, i3, i4⟩ := Cond.instanceMethod_spec hinst
  obtain ⟨mt', _, j1, -, -, -, -, -, -, j2⟩ := Cond.code_spec i1 hcode
  cases i2.symm.trans j1
  obtain ⟨_, _, k2, -, -, u1, -, kk, u2, u3⟩ := Cond.selects_spec hsel
  have u4 : k2.cls = k.cls := by
    have v1 := findClass_of_methodNamed u1
    rw [hz, findClass_of_methodNamed i1] at v1
    exact (Option.some.inj v1).symm
  rw [u4] at u2
  obtain ⟨vm₁, X₁, st⟩ := X.invokevirtual hexec hown hlink i1 i2 i3 u2 u3 hy (a := a) hcell hobj (selectMethod_private i2 (Cond.privateMethod_at hpriv k mt i1 i2)) i2 i4 u2 u3 hg (hlen _ j2) hstack hdg
  obtain ⟨v, B, X', hpost, hst⟩ := hK m meth c ⟨T.setVm vm₁, locs, cells, slots⟩ { g with stack := rest } (.invokevirtual index) k (Value.ref a :: argsL).toArray X₁ hg hsize hdg hW (X₁.named i1) (hpre vm₁ X₁.warmed)
  exact ⟨v, vm₁, B, X₁.warmed, X', hpost, fun target h => st _ fun acts => by rw [doInvoke_state]; exact hst.trans h⟩
theorem ef_rmLP (m : MethodId) (x0 : Addr) : entryFrame m #[(.ref x0)] 1 = mkF m 0 #[.val (.ref x0)] [] := by first | (simp [entryFrame, mkF, argsToLocals, Value.category]; done) | rfl
theorem pn_com_example_esteem_esteem_index_Postings_Builder : plainName "com/example/esteem/esteem/index/Postings$Builder" = true := by first | (simp [plainName, overriddenIn]; done) | decide +kernel
theorem d13_0 : decode prog_21_method_4_code 0 = .ok (.aload_n 0, 1) := by decide +kernel
theorem d13_1 : decode prog_21_method_4_code 1 = .ok (.getfield 16, 3) := by decide +kernel
theorem d13_4 : decode prog_21_method_4_code 4 = .ok (.aload_n 0, 1) := by decide +kernel
theorem d13_5 : decode prog_21_method_4_code 5 = .ok (.getfield 42, 3) := by decide +kernel
theorem d13_8 : decode prog_21_method_4_code 8 = .ok (.iconst 1, 1) := by decide +kernel
theorem d13_9 : decode prog_21_method_4_code 9 = .ok (.isub, 1) := by decide +kernel
theorem d13_10 : decode prog_21_method_4_code 10 = .ok (.iaload, 1) := by decide +kernel
theorem d13_11 : decode prog_21_method_4_code 11 = .ok (.ireturn, 1) := by decide +kernel
def Q_rmLP (Z : State) (a1 : Addr) (dd ds dp : Addr) (dl sl pl dc ks pc : Nat) (df sf pf : Nat → Int32) (h0 : Heap) (n0 : Nat) (v : Option Value) (h : Heap) (L : List Loc) : Prop := v = some (.int (pf (pc - 1))) ∧ Fr n0 L ∧ h = h0
set_option maxRecDepth 65536 in
set_option maxHeartbeats 40000000 in
theorem rmLP (l : Launch) (Z : State) (a0 : Array Value) (hw : ∀ d ∈ tables_1, d.before a0 Z = true) (ws : List Jvm.Cond) (a1 : Addr) (dd ds dp : Addr) (dl sl pl dc ks pc : Nat) (df sf pf : Nat → Int32) (h0 : Heap) (n0 : Nat) (Z0 : n0 ≤ h0.size) (h1 : 1 ≤ pc) (B : own_Bd Z h0 n0 a1 dd ds dp dl sl pl dc ks pc df sf pf) :
    MetFree l (⟨"com/example/esteem/esteem/index/Postings$Builder", "lastPosition", "()I"⟩ : MethodName) (head1 (Jvm.Cond.code (⟨"com/example/esteem/esteem/index/Postings$Builder", "lastPosition", "()I"⟩ : MethodName) prog_21_method_4_code 1 (some .int) :: ws) ({ frames := 0, cells := 0, slots := 0, locals := 0 } : Room)) (fun a U => a = #[(.ref a1)] ∧ Z.Warmed39 U.vm ∧ U.heap = h0) (fun _ _ _ _ _ => True) (fun _ U o U' => ∃ v L, o = .returned v ∧ Q_rmLP Z a1 dd ds dp dl sl pl dc ks pc df sf pf h0 n0 v U'.heap L ∧ FrameEnd U o U' L ({ frames := 0, cells := 0, slots := 0, locals := 0 } : Room).cells ({ frames := 0, cells := 0, slots := 0, locals := 0 } : Room).slots) := by
  refine MetFree.of_bodySF (plainFor_of_name pn_com_example_esteem_esteem_index_Postings_Builder) hisR ?_
  intro p e s m args below meth c s₁ Bd hml0 hP hK
  obtain ⟨rfl, hZ, hh⟩ := hP
  have hx := Bd.exec
  have hby := Bd.bytes
  have hml : c.maxLocals = 1 := hml0
  have hown : s.vm.findClass "com/example/esteem/esteem/index/Postings$Builder" = some m.cls := findClass_of_methodNamed Bd.named
  have hnm := (name_of_methodNamed Bd.named Bd.method).1
  have X0 : Stand p l e ({ frames := 0, cells := 0, slots := 0, locals := 0 } : Room) s m #[(.ref a1)] below meth c s₁ [] 0 0 := Stand.of_body Bd
  have e0 : s₁.heap = h0 := by rw [← hh, Bd.state]; rfl
  have N0 := Fr.nil n0
  have pre0 : ∀ t, Steps p.tables e below (s₁.setTop (mkF m 0 #[.val (.ref a1)] [])) t → Steps p.tables e below (s₁.setTop (entryFrame m #[(.ref a1)] 1)) t := fun t kT => castTop (ef_rmLP m a1) kT
  obtain ⟨⟨F0, F1, F2, F3, F4, E0⟩, ⟨⟨gd, VD, hgd⟩, ⟨gs, VS, hgs⟩, ⟨gp, VP, hgp⟩⟩, ⟨n1, n2, n3, n4, n5, n6⟩, ⟨q0, q1, q2, q3⟩, ⟨b0, b1, b2, b3, b4, b5, b6, b7⟩⟩ := id B
  have pre1 : ∀ t, Steps p.tables e below (s₁.setTop (mkF m 1 #[.val (.ref a1)] [(.ref a1)])) t → Steps p.tables e below (s₁.setTop (entryFrame m #[(.ref a1)] 1)) t := fun t kT => pre0 t (by
    show Steps p.tables e below (s₁.setTop (mkF m 0 #[.val (.ref a1)] [])) _
    refine XS.aloadN X0.here hx rfl (hb hby d13_0) rfl rfl ?_
    exact kT)
  obtain ⟨T2, X2, e2, st2⟩ := getF X0 hx hZ hown (host := "") (Or.inl (hw _ (List.mem_of_getElem? (i := 18) rfl))) Via.refl e0 F2 (g := (mkF m 1 #[.val (.ref a1)] [(.ref a1)])) rfl rfl (hb hby d13_1)
  have pre3 : ∀ t, Steps p.tables e below (T2.setTop (mkF m 4 #[.val (.ref a1)] [(.ref dp)])) t → Steps p.tables e below (s₁.setTop (entryFrame m #[(.ref a1)] 1)) t := fun t kT => pre1 t (st2 t kT)
  have pre4 : ∀ t, Steps p.tables e below (T2.setTop (mkF m 5 #[.val (.ref a1)] [(.ref a1), (.ref dp)])) t → Steps p.tables e below (s₁.setTop (entryFrame m #[(.ref a1)] 1)) t := fun t kT => pre3 t (by
    show Steps p.tables e below (T2.setTop (mkF m 4 #[.val (.ref a1)] [(.ref dp)])) _
    refine XS.aloadN X2.here hx rfl (hb hby d13_4) rfl rfl ?_
    exact kT)
  obtain ⟨T5, X5, e5, st5⟩ := getF X2 hx hZ hown (host := "") (Or.inl (hw _ (List.mem_of_getElem? (i := 42) rfl))) Via.refl e2 F4 (g := (mkF m 5 #[.val (.ref a1)] [(.ref a1), (.ref dp)])) rfl rfl (hb hby d13_5)
  have pre6 : ∀ t, Steps p.tables e below (T5.setTop (mkF m 8 #[.val (.ref a1)] [(.int (Int32.ofNat pc)), (.ref dp)])) t → Steps p.tables e below (s₁.setTop (entryFrame m #[(.ref a1)] 1)) t := fun t kT => pre4 t (st5 t kT)
  have pre7 : ∀ t, Steps p.tables e below (T5.setTop (mkF m 10 #[.val (.ref a1)] [(.int ((Int32.ofNat pc) - (1 : Int32))), (.ref dp)])) t → Steps p.tables e below (s₁.setTop (entryFrame m #[(.ref a1)] 1)) t := fun t kT => pre6 t (by
    show Steps p.tables e below (T5.setTop (mkF m 8 #[.val (.ref a1)] [(.int (Int32.ofNat pc)), (.ref dp)])) _
    refine XS.iconst X5.here hx rfl (hb hby d13_8) ?_
    show Steps p.tables e below (T5.setTop (mkF m 9 #[.val (.ref a1)] [(.int (1 : Int32)), (.int (Int32.ofNat pc)), (.ref dp)])) _
    refine XS.isub X5.here hx rfl (hb hby d13_9) rfl ?_
    exact kT)
  rw [own_sub1 h1 (by omega)] at pre7
  obtain ⟨co8, ⟨Ao8, Ko8⟩, So8, Ho8⟩ := id VP
  have lo8 := own_ld So8 Ho8 (j := (Int32.ofNat (pc - 1))) (i := (pc - 1)) (own_n0 (show pc - 1 < 2 ^ 31 by omega)) (own_n32 (show pc - 1 < 2 ^ 31 by omega)) (by omega) (v := (.int (pf (pc - 1)))) (congrArg Value.int (hgp (pc - 1) (by omega)))
  have pre9 : ∀ t, Steps p.tables e below (T5.setTop (mkF m 11 #[.val (.ref a1)] [(.int (pf (pc - 1)))])) t → Steps p.tables e below (s₁.setTop (entryFrame m #[(.ref a1)] 1)) t := fun t kT => pre7 t (by
    show Steps p.tables e below (T5.setTop (mkF m 10 #[.val (.ref a1)] [(.int (Int32.ofNat (pc - 1))), (.ref dp)])) _
    refine X5.iaload hx (j := (Int32.ofNat (pc - 1))) (v := (.int (pf (pc - 1)))) (by rw [e5]; exact Ao8.1) (State.isArrayOf_alike hZ.alike Ao8.2.1) Ao8.2.2 lo8.1 lo8.2 (g := (mkF m 10 #[.val (.ref a1)] [(.int (Int32.ofNat (pc - 1))), (.ref dp)])) rfl rfl (hb hby d13_10) _ ?_
    exact kT)
  obtain ⟨fs, hr, hrun, hended, hW, hsame⟩ := X5.leave (v := some (.int (pf (pc - 1)))) (fun h => by rw [Bd.returns] at h; cases h)
  refine ⟨_, _, pre9 _ ?_, hrun, hended, _, _, rfl, ?_, ⟨_, rfl⟩, hW, hsame.mono (by decide) (by decide)⟩
  · exact retI X5 hx Bd.returns (hb hby d13_11) hr
  · exact ⟨rfl, N0, e5⟩
theorem ef_rmA (m : MethodId) (x0 : Addr) (x1 : Int32) (x2 : Int32) : entryFrame m #[(.ref x0), (.int x1), (.int x2)] 5 = mkF m 0 #[.val (.ref x0), .val (.int x1), .val (.int x2), .unset, .unset] [] := by first | (simp [entryFrame, mkF, argsToLocals, Value.category]; done) | rfl
theorem d8_0 : decode prog_21_method_2_code 0 = .ok (.aload_n 0, 1) := by decide +kernel
theorem d8_1 : decode prog_21_method_2_code 1 = .ok (.getfield 19, 3) := by decide +kernel
theorem d8_4 : decode prog_21_method_2_code 4 = .ok (.ifCond .ne 7, 3) := by decide +kernel
theorem d8_7 : decode prog_21_method_2_code 7 = .ok (.iconst (-1), 1) := by decide +kernel
theorem d8_8 : decode prog_21_method_2_code 8 = .ok (.goto 14, 3) := by decide +kernel
theorem d8_11 : decode prog_21_method_2_code 11 = .ok (.aload_n 0, 1) := by decide +kernel
theorem d8_12 : decode prog_21_method_2_code 12 = .ok (.getfield 7, 3) := by decide +kernel
theorem d8_15 : decode prog_21_method_2_code 15 = .ok (.aload_n 0, 1) := by decide +kernel
theorem d8_16 : decode prog_21_method_2_code 16 = .ok (.getfield 19, 3) := by decide +kernel
theorem d8_19 : decode prog_21_method_2_code 19 = .ok (.iconst 1, 1) := by decide +kernel
theorem d8_20 : decode prog_21_method_2_code 20 = .ok (.isub, 1) := by decide +kernel
theorem d8_21 : decode prog_21_method_2_code 21 = .ok (.iaload, 1) := by decide +kernel
theorem d8_22 : decode prog_21_method_2_code 22 = .ok (.istore_n 3, 1) := by decide +kernel
theorem d8_23 : decode prog_21_method_2_code 23 = .ok (.iload_n 1, 1) := by decide +kernel
theorem d8_24 : decode prog_21_method_2_code 24 = .ok (.iload_n 3, 1) := by decide +kernel
theorem d8_25 : decode prog_21_method_2_code 25 = .ok (.if_icmp .ne 7, 3) := by decide +kernel
theorem d8_28 : decode prog_21_method_2_code 28 = .ok (.iconst 1, 1) := by decide +kernel
theorem d8_29 : decode prog_21_method_2_code 29 = .ok (.goto 4, 3) := by decide +kernel
theorem d8_32 : decode prog_21_method_2_code 32 = .ok (.iconst 0, 1) := by decide +kernel
theorem d8_33 : decode prog_21_method_2_code 33 = .ok (.istore 4, 2) := by decide +kernel
theorem d8_35 : decode prog_21_method_2_code 35 = .ok (.iload_n 1, 1) := by decide +kernel
theorem d8_36 : decode prog_21_method_2_code 36 = .ok (.iload_n 3, 1) := by decide +kernel
theorem d8_37 : decode prog_21_method_2_code 37 = .ok (.if_icmp .lt 20, 3) := by decide +kernel
theorem d8_40 : decode prog_21_method_2_code 40 = .ok (.iload_n 2, 1) := by decide +kernel
theorem d8_41 : decode prog_21_method_2_code 41 = .ok (.ifCond .lt 16, 3) := by decide +kernel
theorem d8_44 : decode prog_21_method_2_code 44 = .ok (.iload 4, 2) := by decide +kernel
theorem d8_46 : decode prog_21_method_2_code 46 = .ok (.ifCond .eq 26, 3) := by decide +kernel
theorem d8_49 : decode prog_21_method_2_code 49 = .ok (.iload_n 2, 1) := by decide +kernel
theorem d8_50 : decode prog_21_method_2_code 50 = .ok (.aload_n 0, 1) := by decide +kernel
theorem d8_51 : decode prog_21_method_2_code 51 = .ok (.invokevirtual 23, 3) := by decide +kernel
theorem pd___I : parseMethodDescriptor "()I" = some ⟨[], some .int⟩ := by decide +kernel
theorem d8_54 : decode prog_21_method_2_code 54 = .ok (.if_icmp .gt 18, 3) := by decide +kernel
theorem d8_72 : decode prog_21_method_2_code 72 = .ok (.iload 4, 2) := by decide +kernel
theorem d8_74 : decode prog_21_method_2_code 74 = .ok (.ifCond .ne 84, 3) := by decide +kernel
theorem d8_220 : decode prog_21_method_2_code 220 = .ok (.return_, 1) := by decide +kernel

def own_ndc (dc : Nat) (df : Nat → Int32) (x : Int32) : Nat := if x = own_last dc df then dc else dc + 1
def own_ndf (dc : Nat) (df : Nat → Int32) (x : Int32) : Nat → Int32 := if x = own_last dc df then df else own_updI df dc x
def own_nsf (dc pc : Nat) (df sf : Nat → Int32) (x : Int32) : Nat → Int32 := if x = own_last dc df then own_updI sf dc (Int32.ofNat (pc + 1)) else own_updI (own_updI sf dc (Int32.ofNat pc)) (dc + 1) (Int32.ofNat (pc + 1))
theorem own_wide {h h' : Heap} {ws ws' : List Addr} (K : Keep h h' ws) (q : ∀ x ∈ ws, x ∈ ws') : Keep h h' ws' := Keep.trans (Keep.refl h ws') K (fun x hx => Or.inl (q x hx))
def Q_rmA (Z : State) (a1 : Addr) (p1 : Int32) (p2 : Int32) (dd ds dp : Addr) (dl sl pl dc pc : Nat) (df sf pf : Nat → Int32) (h0 : Heap) (n0 : Nat) (v : Option Value) (h : Heap) (L : List Loc) : Prop := v = none ∧ Fr n0 L ∧ Keep h0 h [a1, dd, ds, dp] ∧ ∃ dd' ds' dp' dl' sl' pl', own_Bd Z h n0 a1 dd' ds' dp' dl' sl' pl' (own_ndc dc df p1) (own_ndc dc df p1 + 1) (pc + 1) (own_ndf dc df p1) (own_nsf dc pc df sf p1) (own_updI pf pc p2)
set_option maxRecDepth 65536 in
set_option maxHeartbeats 40000000 in
theorem rmA (l : Launch) (Z : State) (a0 : Array Value) (hw : ∀ d ∈ tables_1, d.before a0 Z = true) (ws : List Jvm.Cond) (a1 : Addr) (p1 : Int32) (p2 : Int32) (dd ds dp : Addr) (dl sl pl dc pc : Nat) (df sf pf : Nat → Int32) (h0 : Heap) (n0 : Nat) (Z0 : n0 ≤ h0.size) (B : own_Bd Z h0 n0 a1 dd ds dp dl sl pl dc (dc + 1) pc df sf pf) (hdc : dc ≤ 2) (hpc : pc ≤ 2) (hp1 : dc = 0 ∨ 1 ≤ pc) (hv1 : ¬ p1 < own_last dc df) (hv2 : ¬ p2 < 0) (hv3 : p1 = own_last dc df → dc ≠ 0 ∧ pf (pc - 1) < p2) :
    MetFree l (⟨"com/example/esteem/esteem/index/Postings$Builder", "add", "(II)V"⟩ : MethodName) (head1 (Jvm.Cond.code (⟨"com/example/esteem/esteem/index/Postings$Builder", "add", "(II)V"⟩ : MethodName) prog_21_method_2_code 5 none :: ws) ({ frames := 2, cells := 3, slots := 13, locals := 70 } : Room)) (fun a U => a = #[(.ref a1), (.int p1), (.int p2)] ∧ Z.Warmed39 U.vm ∧ U.heap = h0) (fun _ _ _ _ _ => True) (fun _ U o U' => ∃ v L, o = .returned v ∧ Q_rmA Z a1 p1 p2 dd ds dp dl sl pl dc pc df sf pf h0 n0 v U'.heap L ∧ FrameEnd U o U' L ({ frames := 2, cells := 3, slots := 13, locals := 70 } : Room).cells ({ frames := 2, cells := 3, slots := 13, locals := 70 } : Room).slots) := by
  refine MetFree.of_bodySF (plainFor_of_name pn_com_example_esteem_esteem_index_Postings_Builder) hisR ?_
  intro p e s m args below meth c s₁ Bd hml0 hP hK
  obtain ⟨rfl, hZ, hh⟩ := hP
  have hx := Bd.exec
  have hby := Bd.bytes
  have hml : c.maxLocals = 5 := hml0
  have hown : s.vm.findClass "com/example/esteem/esteem/index/Postings$Builder" = some m.cls := findClass_of_methodNamed Bd.named
  have hnm := (name_of_methodNamed Bd.named Bd.method).1
  have X0 : Stand p l e ({ frames := 2, cells := 3, slots := 13, locals := 70 } : Room) s m #[(.ref a1), (.int p1), (.int p2)] below meth c s₁ [] 0 0 := Stand.of_body Bd
  have e0 : s₁.heap = h0 := by rw [← hh, Bd.state]; rfl
  have N0 := Fr.nil n0
  have pre0 : ∀ t, Steps p.tables e below (s₁.setTop (mkF m 0 #[.val (.ref a1), .val (.int p1), .val (.int p2), .unset, .unset] [])) t → Steps p.tables e below (s₁.setTop (entryFrame m #[(.ref a1), (.int p1), (.int p2)] 5)) t := fun t kT => castTop (ef_rmA m a1 p1 p2) kT
  obtain ⟨ks, hks⟩ : ∃ ks, ks = dc + 1 := ⟨_, rfl⟩
  rw [← hks] at B
  obtain ⟨⟨F0, F1, F2, F3, F4, E0⟩, ⟨⟨gd, VD, hgd⟩, ⟨gs, VS, hgs⟩, ⟨gp, VP, hgp⟩⟩, ⟨n1, n2, n3, n4, n5, n6⟩, ⟨q0, q1, q2, q3⟩, ⟨b0, b1, b2, b3, b4, b5, b6, b7⟩⟩ := id B
  have pre1 : ∀ t, Steps p.tables e below (s₁.setTop (mkF m 1 #[.val (.ref a1), .val (.int p1), .val (.int p2), .unset, .unset] [(.ref a1)])) t → Steps p.tables e below (s₁.setTop (entryFrame m #[(.ref a1), (.int p1), (.int p2)] 5)) t := fun t kT => pre0 t (by
    show Steps p.tables e below (s₁.setTop (mkF m 0 #[.val (.ref a1), .val (.int p1), .val (.int p2), .unset, .unset] [])) _
    refine XS.aloadN X0.here hx rfl (hb hby d8_0) rfl rfl ?_
    exact kT)
  obtain ⟨T2, X2, e2, st2⟩ := getF X0 hx hZ hown (host := "") (Or.inl (hw _ (List.mem_of_getElem? (i := 28) rfl))) Via.refl e0 F3 (g := (mkF m 1 #[.val (.ref a1), .val (.int p1), .val (.int p2), .unset, .unset] [(.ref a1)])) rfl rfl (hb hby d8_1)
  have pre3 : ∀ t, Steps p.tables e below (T2.setTop (mkF m 4 #[.val (.ref a1), .val (.int p1), .val (.int p2), .unset, .unset] [(.int (Int32.ofNat dc))])) t → Steps p.tables e below (s₁.setTop (entryFrame m #[(.ref a1), (.int p1), (.int p2)] 5)) t := fun t kT => pre1 t (st2 t kT)
  have pre4 : ∀ t, Steps p.tables e below (T2.setTop (mkF m 4 #[.val (.ref a1), .val (.int p1), .val (.int p2), .unset, .unset] [(.int (Int32.ofNat dc))])) t → Steps p.tables e below (s₁.setTop (entryFrame m #[(.ref a1), (.int p1), (.int p2)] 5)) t := fun t kT => pre3 t (by
    exact kT)
  obtain ⟨T9, X9, e9, pre9⟩ : ∃ T' : State, Stand p l e ({ frames := 2, cells := 3, slots := 13, locals := 70 } : Room) s m #[(.ref a1), (.int p1), (.int p2)] below meth c T' [] 0 0 ∧ T'.heap = h0 ∧ ∀ t, Steps p.tables e below (T'.setTop (mkF m 22 #[.val (.ref a1), .val (.int p1), .val (.int p2), .unset, .unset] [(.int (own_last dc df))])) t → Steps p.tables e below (s₁.setTop (entryFrame m #[(.ref a1), (.int p1), (.int p2)] 5)) t := by
    have pre5 : ∀ t, Steps p.tables e below (T2.setTop (mkF m 4 #[.val (.ref a1), .val (.int p1), .val (.int p2), .unset, .unset] [(.int (Int32.ofNat dc))])) t → Steps p.tables e below (s₁.setTop (entryFrame m #[(.ref a1), (.int p1), (.int p2)] 5)) t := fun t kT => pre4 t (by
      exact kT)
    by_cases hz : (Int32.ofNat dc) = (0 : Int32)
    · have hz0 := (own_ij (j := 0) (by omega) (by omega)).mp hz
      have pre6 : ∀ t, Steps p.tables e below (T2.setTop (mkF m 22 #[.val (.ref a1), .val (.int p1), .val (.int p2), .unset, .unset] [(.int (-1 : Int32))])) t → Steps p.tables e below (s₁.setTop (entryFrame m #[(.ref a1), (.int p1), (.int p2)] 5)) t := fun t kT => pre5 t (by
        show Steps p.tables e below (T2.setTop (mkF m 4 #[.val (.ref a1), .val (.int p1), .val (.int p2), .unset, .unset] [(.int (Int32.ofNat dc))])) _
        refine XS.ifNo X2.here hx rfl (hb hby d8_4) rfl ((if0 _ _).trans (teq hz).2) ?_
        show Steps p.tables e below (T2.setTop (mkF m 7 #[.val (.ref a1), .val (.int p1), .val (.int p2), .unset, .unset] [])) _
        refine XS.iconst X2.here hx rfl (hb hby d8_7) ?_
        show Steps p.tables e below (T2.setTop (mkF m 8 #[.val (.ref a1), .val (.int p1), .val (.int p2), .unset, .unset] [(.int (-1 : Int32))])) _
        refine XS.goto X2.here hx rfl (pc0 := 8) (pc' := 22) rfl (hb hby d8_8) (by decide) (by decide) ?_
        exact kT)
      exact ⟨T2, X2, e2, fun t kT => pre6 t (castTop (by rw [show own_last dc df = (-1 : Int32) from if_pos hz0]) kT)⟩
    · have hz0 := mt (own_ij (i := dc) (j := 0) (by omega) (by omega)).mpr hz
      have h1 : 1 ≤ dc := by omega
      have pre7 : ∀ t, Steps p.tables e below (T2.setTop (mkF m 12 #[.val (.ref a1), .val (.int p1), .val (.int p2), .unset, .unset] [(.ref a1)])) t → Steps p.tables e below (s₁.setTop (entryFrame m #[(.ref a1), (.int p1), (.int p2)] 5)) t := fun t kT => pre5 t (by
        show Steps p.tables e below (T2.setTop (mkF m 4 #[.val (.ref a1), .val (.int p1), .val (.int p2), .unset, .unset] [(.int (Int32.ofNat dc))])) _
        refine XS.ifYes X2.here hx rfl (pc0 := 4) (pc' := 11) rfl (hb hby d8_4) rfl ((if0 _ _).trans (feq hz).2) (by decide) (by decide) ?_
        show Steps p.tables e below (T2.setTop (mkF m 11 #[.val (.ref a1), .val (.int p1), .val (.int p2), .unset, .unset] [])) _
        refine XS.aloadN X2.here hx rfl (hb hby d8_11) rfl rfl ?_
        exact kT)
      obtain ⟨T8, X8, e8, st8⟩ := getF X2 hx hZ hown (host := "") (Or.inl (hw _ (List.mem_of_getElem? (i := 14) rfl))) Via.refl e2 F0 (g := (mkF m 12 #[.val (.ref a1), .val (.int p1), .val (.int p2), .unset, .unset] [(.ref a1)])) rfl rfl (hb hby d8_12)
      have pre9 : ∀ t, Steps p.tables e below (T8.setTop (mkF m 15 #[.val (.ref a1), .val (.int p1), .val (.int p2), .unset, .unset] [(.ref dd)])) t → Steps p.tables e below (s₁.setTop (entryFrame m #[(.ref a1), (.int p1), (.int p2)] 5)) t := fun t kT => pre7 t (st8 t kT)
      have pre10 : ∀ t, Steps p.tables e below (T8.setTop (mkF m 16 #[.val (.ref a1), .val (.int p1), .val (.int p2), .unset, .unset] [(.ref a1), (.ref dd)])) t → Steps p.tables e below (s₁.setTop (entryFrame m #[(.ref a1), (.int p1), (.int p2)] 5)) t := fun t kT => pre9 t (by
        show Steps p.tables e below (T8.setTop (mkF m 15 #[.val (.ref a1), .val (.int p1), .val (.int p2), .unset, .unset] [(.ref dd)])) _
        refine XS.aloadN X8.here hx rfl (hb hby d8_15) rfl rfl ?_
        exact kT)
      obtain ⟨T11, X11, e11, st11⟩ := getF X8 hx hZ hown (host := "") (Or.inl (hw _ (List.mem_of_getElem? (i := 28) rfl))) Via.refl e8 F3 (g := (mkF m 16 #[.val (.ref a1), .val (.int p1), .val (.int p2), .unset, .unset] [(.ref a1), (.ref dd)])) rfl rfl (hb hby d8_16)
      have pre12 : ∀ t, Steps p.tables e below (T11.setTop (mkF m 19 #[.val (.ref a1), .val (.int p1), .val (.int p2), .unset, .unset] [(.int (Int32.ofNat dc)), (.ref dd)])) t → Steps p.tables e below (s₁.setTop (entryFrame m #[(.ref a1), (.int p1), (.int p2)] 5)) t := fun t kT => pre10 t (st11 t kT)
      have pre13 : ∀ t, Steps p.tables e below (T11.setTop (mkF m 21 #[.val (.ref a1), .val (.int p1), .val (.int p2), .unset, .unset] [(.int ((Int32.ofNat dc) - (1 : Int32))), (.ref dd)])) t → Steps p.tables e below (s₁.setTop (entryFrame m #[(.ref a1), (.int p1), (.int p2)] 5)) t := fun t kT => pre12 t (by
        show Steps p.tables e below (T11.setTop (mkF m 19 #[.val (.ref a1), .val (.int p1), .val (.int p2), .unset, .unset] [(.int (Int32.ofNat dc)), (.ref dd)])) _
        refine XS.iconst X11.here hx rfl (hb hby d8_19) ?_
        show Steps p.tables e below (T11.setTop (mkF m 20 #[.val (.ref a1), .val (.int p1), .val (.int p2), .unset, .unset] [(.int (1 : Int32)), (.int (Int32.ofNat dc)), (.ref dd)])) _
        refine XS.isub X11.here hx rfl (hb hby d8_20) rfl ?_
        exact kT)
      rw [own_sub1 h1 (by omega)] at pre13
      obtain ⟨co14, ⟨Ao14, Ko14⟩, So14, Ho14⟩ := id VD
      have lo14 := own_ld So14 Ho14 (j := (Int32.ofNat (dc - 1))) (i := (dc - 1)) (own_n0 (show dc - 1 < 2 ^ 31 by omega)) (own_n32 (show dc - 1 < 2 ^ 31 by omega)) (by omega) (v := (.int (df (dc - 1)))) (congrArg Value.int (hgd (dc - 1) (by omega)))
      have pre15 : ∀ t, Steps p.tables e below (T11.setTop (mkF m 22 #[.val (.ref a1), .val (.int p1), .val (.int p2), .unset, .unset] [(.int (df (dc - 1)))])) t → Steps p.tables e below (s₁.setTop (entryFrame m #[(.ref a1), (.int p1), (.int p2)] 5)) t := fun t kT => pre13 t (by
        show Steps p.tables e below (T11.setTop (mkF m 21 #[.val (.ref a1), .val (.int p1), .val (.int p2), .unset, .unset] [(.int (Int32.ofNat (dc - 1))), (.ref dd)])) _
        refine X11.iaload hx (j := (Int32.ofNat (dc - 1))) (v := (.int (df (dc - 1)))) (by rw [e11]; exact Ao14.1) (State.isArrayOf_alike hZ.alike Ao14.2.1) Ao14.2.2 lo14.1 lo14.2 (g := (mkF m 21 #[.val (.ref a1), .val (.int p1), .val (.int p2), .unset, .unset] [(.int (Int32.ofNat (dc - 1))), (.ref dd)])) rfl rfl (hb hby d8_21) _ ?_
        exact kT)
      exact ⟨T11, X11, e11, fun t kT => pre15 t (castTop (by rw [show own_last dc df = df (dc - 1) from if_neg hz0]) kT)⟩
  have pre16 : ∀ t, Steps p.tables e below (T9.setTop (mkF m 23 #[.val (.ref a1), .val (.int p1), .val (.int p2), .val (.int (own_last dc df)), .unset] [])) t → Steps p.tables e below (s₁.setTop (entryFrame m #[(.ref a1), (.int p1), (.int p2)] 5)) t := fun t kT => pre9 t (by
    show Steps p.tables e below (T9.setTop (mkF m 22 #[.val (.ref a1), .val (.int p1), .val (.int p2), .unset, .unset] [(.int (own_last dc df))])) _
    refine XS.istoreN X9.here hx rfl (hb hby d8_22) rfl (l' := #[.val (.ref a1), .val (.int p1), .val (.int p2), .val (.int (own_last dc df)), .unset]) rfl ?_
    exact kT)
  obtain ⟨lst, hlst⟩ : ∃ z, z = (own_last dc df) := ⟨_, rfl⟩
  rw [← hlst] at pre16
  rw [← hlst] at hv1 hv3
  have pre17 : ∀ t, Steps p.tables e below (T9.setTop (mkF m 33 #[.val (.ref a1), .val (.int p1), .val (.int p2), .val (.int lst), .unset] [(.int (own_same p1 lst))])) t → Steps p.tables e below (s₁.setTop (entryFrame m #[(.ref a1), (.int p1), (.int p2)] 5)) t := fun t kT => pre16 t (by
    show Steps p.tables e below (T9.setTop (mkF m 23 #[.val (.ref a1), .val (.int p1), .val (.int p2), .val (.int lst), .unset] [])) _
    refine XS.iloadN X9.here hx rfl (hb hby d8_23) rfl ?_
    show Steps p.tables e below (T9.setTop (mkF m 24 #[.val (.ref a1), .val (.int p1), .val (.int p2), .val (.int lst), .unset] [(.int p1)])) _
    refine XS.iloadN X9.here hx rfl (hb hby d8_24) rfl ?_
    by_cases hc25 : p1 = lst
    · show Steps p.tables e below (T9.setTop (mkF m 25 #[.val (.ref a1), .val (.int p1), .val (.int p2), .val (.int lst), .unset] [(.int lst), (.int p1)])) _
      refine XS.icmpNo X9.here hx rfl (hb hby d8_25) rfl (teq hc25).2 ?_
      show Steps p.tables e below (T9.setTop (mkF m 28 #[.val (.ref a1), .val (.int p1), .val (.int p2), .val (.int lst), .unset] [])) _
      refine XS.iconst X9.here hx rfl (hb hby d8_28) ?_
      show Steps p.tables e below (T9.setTop (mkF m 29 #[.val (.ref a1), .val (.int p1), .val (.int p2), .val (.int lst), .unset] [(.int (1 : Int32))])) _
      refine XS.goto X9.here hx rfl (pc0 := 29) (pc' := 33) rfl (hb hby d8_29) (by decide) (by decide) ?_
      show Steps p.tables e below (T9.setTop (mkF m 33 #[.val (.ref a1), .val (.int p1), .val (.int p2), .val (.int lst), .unset] [(.int (1 : Int32))])) _
      exact castTop (by rw [show (own_same p1 lst) = (1 : Int32) from by exact (if_pos hc25).trans (rfl)]) kT
    · show Steps p.tables e below (T9.setTop (mkF m 25 #[.val (.ref a1), .val (.int p1), .val (.int p2), .val (.int lst), .unset] [(.int lst), (.int p1)])) _
      refine XS.icmpYes X9.here hx rfl (pc0 := 25) (pc' := 32) rfl (hb hby d8_25) rfl (feq hc25).2 (by decide) (by decide) ?_
      show Steps p.tables e below (T9.setTop (mkF m 32 #[.val (.ref a1), .val (.int p1), .val (.int p2), .val (.int lst), .unset] [])) _
      refine XS.iconst X9.here hx rfl (hb hby d8_32) ?_
      show Steps p.tables e below (T9.setTop (mkF m 33 #[.val (.ref a1), .val (.int p1), .val (.int p2), .val (.int lst), .unset] [(.int (0 : Int32))])) _
      exact castTop (by rw [show (own_same p1 lst) = (0 : Int32) from by exact (if_neg hc25).trans (rfl)]) kT)
  have pre18 : ∀ t, Steps p.tables e below (T9.setTop (mkF m 46 #[.val (.ref a1), .val (.int p1), .val (.int p2), .val (.int lst), .val (.int (own_same p1 lst))] [(.int (own_same p1 lst))])) t → Steps p.tables e below (s₁.setTop (entryFrame m #[(.ref a1), (.int p1), (.int p2)] 5)) t := fun t kT => pre17 t (by
    show Steps p.tables e below (T9.setTop (mkF m 33 #[.val (.ref a1), .val (.int p1), .val (.int p2), .val (.int lst), .unset] [(.int (own_same p1 lst))])) _
    refine XS.istore X9.here hx rfl (hb hby d8_33) rfl (l' := #[.val (.ref a1), .val (.int p1), .val (.int p2), .val (.int lst), .val (.int (own_same p1 lst))]) rfl ?_
    show Steps p.tables e below (T9.setTop (mkF m 35 #[.val (.ref a1), .val (.int p1), .val (.int p2), .val (.int lst), .val (.int (own_same p1 lst))] [])) _
    refine XS.iloadN X9.here hx rfl (hb hby d8_35) rfl ?_
    show Steps p.tables e below (T9.setTop (mkF m 36 #[.val (.ref a1), .val (.int p1), .val (.int p2), .val (.int lst), .val (.int (own_same p1 lst))] [(.int p1)])) _
    refine XS.iloadN X9.here hx rfl (hb hby d8_36) rfl ?_
    show Steps p.tables e below (T9.setTop (mkF m 37 #[.val (.ref a1), .val (.int p1), .val (.int p2), .val (.int lst), .val (.int (own_same p1 lst))] [(.int lst), (.int p1)])) _
    refine XS.icmpNo X9.here hx rfl (hb hby d8_37) rfl (flt hv1).1 ?_
    show Steps p.tables e below (T9.setTop (mkF m 40 #[.val (.ref a1), .val (.int p1), .val (.int p2), .val (.int lst), .val (.int (own_same p1 lst))] [])) _
    refine XS.iloadN X9.here hx rfl (hb hby d8_40) rfl ?_
    show Steps p.tables e below (T9.setTop (mkF m 41 #[.val (.ref a1), .val (.int p1), .val (.int p2), .val (.int lst), .val (.int (own_same p1 lst))] [(.int p2)])) _
    refine XS.ifNo X9.here hx rfl (hb hby d8_41) rfl ((if0 _ _).trans (flt hv2).1) ?_
    show Steps p.tables e below (T9.setTop (mkF m 44 #[.val (.ref a1), .val (.int p1), .val (.int p2), .val (.int lst), .val (.int (own_same p1 lst))] [])) _
    refine XS.iload X9.here hx rfl (hb hby d8_44) rfl ?_
    exact kT)
  by_cases hsm : (own_same p1 lst) = (0 : Int32)
  · have hsm' : ¬ p1 = lst := fun q => by rw [show own_same p1 lst = 1 from if_pos q] at hsm; exact absurd hsm (by decide)
    have pre31 : ∀ t, Steps p.tables e below (T9.setTop (mkF m 77 #[.val (.ref a1), .val (.int p1), .val (.int p2), .val (.int lst), .val (.int (own_same p1 lst))] [])) t → Steps p.tables e below (s₁.setTop (entryFrame m #[(.ref a1), (.int p1), (.int p2)] 5)) t := fun t kT => pre18 t (by
      show Steps p.tables e below (T9.setTop (mkF m 46 #[.val (.ref a1), .val (.int p1), .val (.int p2), .val (.int lst), .val (.int (own_same p1 lst))] [(.int (own_same p1 lst))])) _
      refine XS.ifYes X9.here hx rfl (pc0 := 46) (pc' := 72) rfl (hb hby d8_46) rfl ((if0 _ _).trans (teq hsm).1) (by decide) (by decide) ?_
      show Steps p.tables e below (T9.setTop (mkF m 72 #[.val (.ref a1), .val (.int p1), .val (.int p2), .val (.int lst), .val (.int (own_same p1 lst))] [])) _
      refine XS.iload X9.here hx rfl (hb hby d8_72) rfl ?_
      show Steps p.tables e below (T9.setTop (mkF m 74 #[.val (.ref a1), .val (.int p1), .val (.int p2), .val (.int lst), .val (.int (own_same p1 lst))] [(.int (own_same p1 lst))])) _
      refine XS.ifNo X9.here hx rfl (hb hby d8_74) rfl ((if0 _ _).trans (teq hsm).2) ?_
      exact kT)
    have BB : own_Bd Z h0 n0 a1 dd ds dp dl sl pl dc ks pc df sf pf := B
    have pre32 : ∀ t, Steps p.tables e below (T9.setTop (mkF m 77 #[.val (.ref a1), .val (.int p1), .val (.int p2), .val (.int lst), .val (.int (own_same p1 lst))] [])) t → Steps p.tables e below (s₁.setTop (entryFrame m #[(.ref a1), (.int p1), (.int p2)] 5)) t := fun t kT => pre31 t (by
      exact kT)
    obtain ⟨T33, locs33, xd, xs, xl, yl, X33, N33, K33, B33, hxl, hxd, hxs, st33⟩ := tn_grow a1 p1 p2 lst (own_same p1 lst) dd ds dp dl sl pl dc ks pc df sf pf X9 hx hZ hw hby hml hown e9 BB (by decide) (by decide) N0 Z0 hdc (by omega) (by decide) (by decide)
    have pre34 : ∀ t, Steps p.tables e below (T33.setTop (mkF m 125 #[.val (.ref a1), .val (.int p1), .val (.int p2), .val (.int lst), .val (.int (own_same p1 lst))] [])) t → Steps p.tables e below (s₁.setTop (entryFrame m #[(.ref a1), (.int p1), (.int p2)] 5)) t := fun t kT => pre32 t (st33 t kT)
    have sz33 : n0 ≤ T33.heap.size := Nat.le_trans Z0 K33.1
    have pre35 : ∀ t, Steps p.tables e below (T33.setTop (mkF m 125 #[.val (.ref a1), .val (.int p1), .val (.int p2), .val (.int lst), .val (.int (own_same p1 lst))] [])) t → Steps p.tables e below (s₁.setTop (entryFrame m #[(.ref a1), (.int p1), (.int p2)] 5)) t := fun t kT => pre34 t (by
      exact kT)
    obtain ⟨T36, locs36, X36, N36, K36, B36, st36⟩ := tn_doc a1 p1 p2 lst (own_same p1 lst) xd xs dp xl yl pl dc ks pc df sf pf X33 hx hZ hw hby hml hown rfl B33 (by decide) (by decide) N33 sz33 hxl (by omega)
    have pre37 : ∀ t, Steps p.tables e below (T36.setTop (mkF m 158 #[.val (.ref a1), .val (.int p1), .val (.int p2), .val (.int lst), .val (.int (own_same p1 lst))] [])) t → Steps p.tables e below (s₁.setTop (entryFrame m #[(.ref a1), (.int p1), (.int p2)] 5)) t := fun t kT => pre35 t (st36 t kT)
    have sz36 : n0 ≤ T36.heap.size := Nat.le_trans sz33 K36.1
    have pre38 : ∀ t, Steps p.tables e below (T36.setTop (mkF m 158 #[.val (.ref a1), .val (.int p1), .val (.int p2), .val (.int lst), .val (.int (own_same p1 lst))] [])) t → Steps p.tables e below (s₁.setTop (entryFrame m #[(.ref a1), (.int p1), (.int p2)] 5)) t := fun t kT => pre37 t (by
      exact kT)
    obtain ⟨T39, locs39, xp, zl, X39, N39, K39, B39, hzl, hxp, st39⟩ := tn_room a1 p1 p2 lst (own_same p1 lst) xd xs dp xl yl pl (dc + 1) (dc + 1) pc (own_updI df dc p1) (own_updI sf dc (Int32.ofNat pc)) pf X36 hx hZ hw hby hml hown rfl B36 (by decide) (by decide) N36 sz36 hpc (by decide) (by decide)
    have pre40 : ∀ t, Steps p.tables e below (T39.setTop (mkF m 187 #[.val (.ref a1), .val (.int p1), .val (.int p2), .val (.int lst), .val (.int (own_same p1 lst))] [])) t → Steps p.tables e below (s₁.setTop (entryFrame m #[(.ref a1), (.int p1), (.int p2)] 5)) t := fun t kT => pre38 t (st39 t kT)
    have sz39 : n0 ≤ T39.heap.size := Nat.le_trans sz36 K39.1
    have pre41 : ∀ t, Steps p.tables e below (T39.setTop (mkF m 187 #[.val (.ref a1), .val (.int p1), .val (.int p2), .val (.int lst), .val (.int (own_same p1 lst))] [])) t → Steps p.tables e below (s₁.setTop (entryFrame m #[(.ref a1), (.int p1), (.int p2)] 5)) t := fun t kT => pre40 t (by
      exact kT)
    obtain ⟨T42, locs42, X42, N42, K42, B42, st42⟩ := tn_pos a1 p1 p2 lst (own_same p1 lst) xd xs xp xl yl zl (dc + 1) (dc + 1) pc (own_updI df dc p1) (own_updI sf dc (Int32.ofNat pc)) pf X39 hx hZ hw hby hml hown rfl B39 (by decide) (by decide) N39 sz39 hzl (Nat.le_refl _)
    have pre43 : ∀ t, Steps p.tables e below (T42.setTop (mkF m 220 #[.val (.ref a1), .val (.int p1), .val (.int p2), .val (.int lst), .val (.int (own_same p1 lst))] [])) t → Steps p.tables e below (s₁.setTop (entryFrame m #[(.ref a1), (.int p1), (.int p2)] 5)) t := fun t kT => pre41 t (st42 t kT)
    have sz42 : n0 ≤ T42.heap.size := Nat.le_trans sz39 K42.1
    have pre45 : ∀ t, Steps p.tables e below (T42.setTop (mkF m 220 #[.val (.ref a1), .val (.int p1), .val (.int p2), .val (.int lst), .val (.int (own_same p1 lst))] [])) t → Steps p.tables e below (s₁.setTop (entryFrame m #[(.ref a1), (.int p1), (.int p2)] 5)) t := fun t kT => pre43 t (by
      exact kT)
    obtain ⟨fs, hr, hrun, hended, hW, hsame⟩ := X42.leave (v := none) (fun _ => rfl)
    refine ⟨_, _, pre45 _ ?_, hrun, hended, _, _, rfl, ?_, ⟨_, rfl⟩, hW, hsame.mono (by decide) (by decide)⟩
    · exact X42.returnOut hx Bd.returns (hb hby d8_220) hr
    · have KF0 : Keep h0 _ [a1, dd, ds, dp] := Keep.trans (own_wide K33 (by simp)) K36 (allS (Or.inl (by simp)) (allS (hxd.elim (fun q => Or.inl (by rw [q]; simp)) Or.inr) (allS (hxs.elim (fun q => Or.inl (by rw [q]; simp)) Or.inr) all0)))
      have hs0 := KF0.1
      have KF1 : Keep h0 _ [a1, dd, ds, dp] := Keep.trans KF0 K39 (allS (Or.inl (by simp)) all0)
      have KF : Keep h0 T42.heap [a1, dd, ds, dp] := Keep.trans KF1 K42 (allS (Or.inl (by simp)) (allS (hxp.elim (fun q => Or.inl (by rw [q]; simp)) (fun q => Or.inr (Nat.le_trans hs0 q))) (allS (hxs.elim (fun q => Or.inl (by rw [q]; simp)) Or.inr) all0)))
      have e1 : own_ndc dc df p1 = dc + 1 := if_neg (by rw [← hlst]; exact hsm')
      have e2 : own_ndf dc df p1 = own_updI df dc p1 := if_neg (by rw [← hlst]; exact hsm')
      have e3 : own_nsf dc pc df sf p1 = own_updI (own_updI sf dc (Int32.ofNat pc)) (dc + 1) (Int32.ofNat (pc + 1)) := if_neg (by rw [← hlst]; exact hsm')
      refine ⟨rfl, N42, KF, xd, xs, xp, xl, yl, zl, ?_⟩
      rw [e1, e2, e3]
      exact B42
  · have hsm' : p1 = lst := Classical.byContradiction fun q => hsm (if_neg q)
    have hv3' := hv3 hsm'
    have pre19 : ∀ t, Steps p.tables e below (T9.setTop (mkF m 51 #[.val (.ref a1), .val (.int p1), .val (.int p2), .val (.int lst), .val (.int (own_same p1 lst))] [(.ref a1), (.int p2)])) t → Steps p.tables e below (s₁.setTop (entryFrame m #[(.ref a1), (.int p1), (.int p2)] 5)) t := fun t kT => pre18 t (by
      show Steps p.tables e below (T9.setTop (mkF m 46 #[.val (.ref a1), .val (.int p1), .val (.int p2), .val (.int lst), .val (.int (own_same p1 lst))] [(.int (own_same p1 lst))])) _
      refine XS.ifNo X9.here hx rfl (hb hby d8_46) rfl ((if0 _ _).trans (feq hsm).1) ?_
      show Steps p.tables e below (T9.setTop (mkF m 49 #[.val (.ref a1), .val (.int p1), .val (.int p2), .val (.int lst), .val (.int (own_same p1 lst))] [])) _
      refine XS.iloadN X9.here hx rfl (hb hby d8_49) rfl ?_
      show Steps p.tables e below (T9.setTop (mkF m 50 #[.val (.ref a1), .val (.int p1), .val (.int p2), .val (.int lst), .val (.int (own_same p1 lst))] [(.int p2)])) _
      refine XS.aloadN X9.here hx rfl (hb hby d8_50) rfl rfl ?_
      exact kT)
    obtain ⟨cI20, q20a, q20b⟩ := E0.cell
    have pre21 : ∀ t, Steps p.tables e below (T9.setTop (mkF m 51 #[.val (.ref a1), .val (.int p1), .val (.int p2), .val (.int lst), .val (.int (own_same p1 lst))] [(.ref a1), (.int p2)])) t → Steps p.tables e below (s₁.setTop (entryFrame m #[(.ref a1), (.int p1), (.int p2)] 5)) t := fun t kT => pre19 t (by
      exact kT)
    obtain ⟨_, _, ⟨T22, L22, k22, n22⟩, -, X22, ⟨Lc22, hQ22, l22, y22, z22⟩, st22⟩ := own_priv X9 hx (y := (⟨"com/example/esteem/esteem/index/Postings$Builder", "lastPosition", "()I"⟩ : MethodName)) (z := (⟨"com/example/esteem/esteem/index/Postings$Builder", "build", "()Lcom/example/esteem/esteem/index/Postings;"⟩ : MethodName)) hown (mvT hZ (hw _ (List.mem_of_getElem? (i := 92) rfl))) (mvT hZ (hw _ (List.mem_of_getElem? (i := 93) rfl))) (mvP hZ (hw _ (List.mem_of_getElem? (i := 94) rfl))) (mvT hZ (hw _ (List.mem_of_getElem? (i := 95) rfl))) (mvT hZ (hw _ (List.mem_of_getElem? (i := 23) rfl))) rfl (by decide) (backOf (W := 1) (rmLP l Z a0 hw [] a1 dd ds dp dl sl pl dc ks pc df sf pf h0 n0 Z0 (by omega) B) hZ (hw _ (List.mem_of_getElem? (i := 95) rfl)) (hw _ (List.mem_of_getElem? (i := 7) rfl)) (by decide) (by decide)) (g := (mkF m 51 #[.val (.ref a1), .val (.int p1), .val (.int p2), .val (.int lst), .val (.int (own_same p1 lst))] [(.ref a1), (.int p2)])) rfl (by rw [hml]; rfl) (a := a1) (by rw [e9]; exact q20a) q20b (argsL := []) (rest := [(.int p2)]) (lenOf pd___I rfl) rfl (by show 2 * 0 + _ ≤ _; exact Nat.le_of_eq rfl) (hb hby d8_51) (fun _ _ => ⟨rfl, e9, (by decide : 0 + 0 ≤ _), (by decide : 0 + 0 ≤ _)⟩)
    dsimp only [Pt.U, Pt.locs, Pt.cells, Pt.slots] at X22 l22 y22 z22 st22 hQ22
    have X22 := own_st X22 (y22.trans (show _ = 0 from rfl)) (z22.trans (show _ = 0 from rfl))
    obtain ⟨rfl, N22q, eLP⟩ := hQ22
    have N22 := own_fr l22 N0 N22q
    have pre23 : ∀ t, Steps p.tables e below (T22.setTop (mkF m 54 #[.val (.ref a1), .val (.int p1), .val (.int p2), .val (.int lst), .val (.int (own_same p1 lst))] [(.int (pf (pc - 1))), (.int p2)])) t → Steps p.tables e below (s₁.setTop (entryFrame m #[(.ref a1), (.int p1), (.int p2)] 5)) t := fun t kT => pre21 t (st22 t kT)
    have pre24 : ∀ t, Steps p.tables e below (T22.setTop (mkF m 158 #[.val (.ref a1), .val (.int p1), .val (.int p2), .val (.int lst), .val (.int (own_same p1 lst))] [])) t → Steps p.tables e below (s₁.setTop (entryFrame m #[(.ref a1), (.int p1), (.int p2)] 5)) t := fun t kT => pre23 t (by
      show Steps p.tables e below (T22.setTop (mkF m 54 #[.val (.ref a1), .val (.int p1), .val (.int p2), .val (.int lst), .val (.int (own_same p1 lst))] [(.int (pf (pc - 1))), (.int p2)])) _
      refine XS.icmpYes X22.here hx rfl (pc0 := 54) (pc' := 72) rfl (hb hby d8_54) rfl (tlt hv3'.2).2.2.1 (by decide) (by decide) ?_
      show Steps p.tables e below (T22.setTop (mkF m 72 #[.val (.ref a1), .val (.int p1), .val (.int p2), .val (.int lst), .val (.int (own_same p1 lst))] [])) _
      refine XS.iload X22.here hx rfl (hb hby d8_72) rfl ?_
      show Steps p.tables e below (T22.setTop (mkF m 74 #[.val (.ref a1), .val (.int p1), .val (.int p2), .val (.int lst), .val (.int (own_same p1 lst))] [(.int (own_same p1 lst))])) _
      refine XS.ifYes X22.here hx rfl (pc0 := 74) (pc' := 158) rfl (hb hby d8_74) rfl ((if0 _ _).trans (feq hsm).2) (by decide) (by decide) ?_
      exact kT)
    have BB : own_Bd Z h0 n0 a1 dd ds dp dl sl pl dc ks pc df sf pf := B
    have pre25 : ∀ t, Steps p.tables e below (T22.setTop (mkF m 158 #[.val (.ref a1), .val (.int p1), .val (.int p2), .val (.int lst), .val (.int (own_same p1 lst))] [])) t → Steps p.tables e below (s₁.setTop (entryFrame m #[(.ref a1), (.int p1), (.int p2)] 5)) t := fun t kT => pre24 t (by
      exact kT)
    obtain ⟨T26, locs26, xp, zl, X26, N26, K26, B26, hzl, hxp, st26⟩ := tn_room a1 p1 p2 lst (own_same p1 lst) dd ds dp dl sl pl dc ks pc df sf pf X22 hx hZ hw hby hml hown eLP BB (by decide) (by decide) N22 Z0 hpc (by decide) (by decide)
    have pre27 : ∀ t, Steps p.tables e below (T26.setTop (mkF m 187 #[.val (.ref a1), .val (.int p1), .val (.int p2), .val (.int lst), .val (.int (own_same p1 lst))] [])) t → Steps p.tables e below (s₁.setTop (entryFrame m #[(.ref a1), (.int p1), (.int p2)] 5)) t := fun t kT => pre25 t (st26 t kT)
    have sz26 : n0 ≤ T26.heap.size := Nat.le_trans Z0 K26.1
    have pre28 : ∀ t, Steps p.tables e below (T26.setTop (mkF m 187 #[.val (.ref a1), .val (.int p1), .val (.int p2), .val (.int lst), .val (.int (own_same p1 lst))] [])) t → Steps p.tables e below (s₁.setTop (entryFrame m #[(.ref a1), (.int p1), (.int p2)] 5)) t := fun t kT => pre27 t (by
      exact kT)
    obtain ⟨T29, locs29, X29, N29, K29, B29, st29⟩ := tn_pos a1 p1 p2 lst (own_same p1 lst) dd ds xp dl sl zl dc ks pc df sf pf X26 hx hZ hw hby hml hown rfl B26 (by decide) (by decide) N26 sz26 hzl (by omega)
    have pre30 : ∀ t, Steps p.tables e below (T29.setTop (mkF m 220 #[.val (.ref a1), .val (.int p1), .val (.int p2), .val (.int lst), .val (.int (own_same p1 lst))] [])) t → Steps p.tables e below (s₁.setTop (entryFrame m #[(.ref a1), (.int p1), (.int p2)] 5)) t := fun t kT => pre28 t (st29 t kT)
    have sz29 : n0 ≤ T29.heap.size := Nat.le_trans sz26 K29.1
    have pre44 : ∀ t, Steps p.tables e below (T29.setTop (mkF m 220 #[.val (.ref a1), .val (.int p1), .val (.int p2), .val (.int lst), .val (.int (own_same p1 lst))] [])) t → Steps p.tables e below (s₁.setTop (entryFrame m #[(.ref a1), (.int p1), (.int p2)] 5)) t := fun t kT => pre30 t (by
      exact kT)
    obtain ⟨fs, hr, hrun, hended, hW, hsame⟩ := X29.leave (v := none) (fun _ => rfl)
    refine ⟨_, _, pre44 _ ?_, hrun, hended, _, _, rfl, ?_, ⟨_, rfl⟩, hW, hsame.mono (by decide) (by decide)⟩
    · exact X29.returnOut hx Bd.returns (hb hby d8_220) hr
    · have KF : Keep h0 T29.heap [a1, dd, ds, dp] := Keep.trans (own_wide K26 (by simp)) K29 (allS (Or.inl (by simp)) (allS (hxp.elim (fun q => Or.inl (by rw [q]; simp)) Or.inr) (allS (Or.inl (by simp)) all0)))
      have e1 : own_ndc dc df p1 = dc := if_pos (by rw [← hlst]; exact hsm')
      have e2 : own_ndf dc df p1 = df := if_pos (by rw [← hlst]; exact hsm')
      have e3 : own_nsf dc pc df sf p1 = own_updI sf dc (Int32.ofNat (pc + 1)) := if_pos (by rw [← hlst]; exact hsm')
      refine ⟨rfl, N29, KF, dd, ds, xp, dl, sl, zl, ?_⟩
      rw [e1, e2, e3]
      exact B29
theorem ef_rmBI (m : MethodId) (x0 : Addr) : entryFrame m #[(.ref x0)] 1 = mkF m 0 #[.val (.ref x0)] [] := by first | (simp [entryFrame, mkF, argsToLocals, Value.category]; done) | rfl
theorem d1_0 : decode prog_21_method_1_code 0 = .ok (.aload_n 0, 1) := by decide +kernel
theorem d1_1 : decode prog_21_method_1_code 1 = .ok (.invokespecial 1, 3) := by decide +kernel
theorem d1_4 : decode prog_21_method_1_code 4 = .ok (.aload_n 0, 1) := by decide +kernel
theorem d1_5 : decode prog_21_method_1_code 5 = .ok (.iconst 1, 1) := by decide +kernel
theorem d1_6 : decode prog_21_method_1_code 6 = .ok (.newarray .int, 2) := by decide +kernel
theorem d1_8 : decode prog_21_method_1_code 8 = .ok (.putfield 7, 3) := by decide +kernel
theorem d1_11 : decode prog_21_method_1_code 11 = .ok (.aload_n 0, 1) := by decide +kernel
theorem d1_12 : decode prog_21_method_1_code 12 = .ok (.iconst 2, 1) := by decide +kernel
theorem d1_13 : decode prog_21_method_1_code 13 = .ok (.newarray .int, 2) := by decide +kernel
theorem d1_15 : decode prog_21_method_1_code 15 = .ok (.putfield 13, 3) := by decide +kernel
theorem d1_18 : decode prog_21_method_1_code 18 = .ok (.aload_n 0, 1) := by decide +kernel
theorem d1_19 : decode prog_21_method_1_code 19 = .ok (.iconst 1, 1) := by decide +kernel
theorem d1_20 : decode prog_21_method_1_code 20 = .ok (.newarray .int, 2) := by decide +kernel
theorem d1_22 : decode prog_21_method_1_code 22 = .ok (.putfield 16, 3) := by decide +kernel
theorem d1_25 : decode prog_21_method_1_code 25 = .ok (.return_, 1) := by decide +kernel
def Q_rmBI (Z : State) (a1 : Addr) (h0 : Heap) (n0 : Nat) (v : Option Value) (h : Heap) (L : List Loc) : Prop := v = none ∧ Fr n0 L ∧ Keep h0 h [a1] ∧ ∃ dd ds dp, own_Bd Z h n0 a1 dd ds dp 1 2 1 0 (0 + 1) 0 (fun _ => (0 : Int32)) (fun _ => (0 : Int32)) (fun _ => (0 : Int32))
set_option maxRecDepth 65536 in
set_option maxHeartbeats 40000000 in
theorem rmBI (l : Launch) (Z : State) (a0 : Array Value) (hw : ∀ d ∈ tables_1, d.before a0 Z = true) (ws : List Jvm.Cond) (a1 : Addr) (h0 : Heap) (n0 : Nat) (Z0 : n0 ≤ h0.size) (F0 : Fld Z h0 a1 "com/example/esteem/esteem/index/Postings$Builder" "docs" "[I" .null) (F1 : Fld Z h0 a1 "com/example/esteem/esteem/index/Postings$Builder" "starts" "[I" .null) (F2 : Fld Z h0 a1 "com/example/esteem/esteem/index/Postings$Builder" "positions" "[I" .null) (F3 : Fld Z h0 a1 "com/example/esteem/esteem/index/Postings$Builder" "docCount" "I" (.int (0 : Int32))) (F4 : Fld Z h0 a1 "com/example/esteem/esteem/index/Postings$Builder" "positionCount" "I" (.int (0 : Int32))) (E0 : Exa Z h0 a1 "com/example/esteem/esteem/index/Postings$Builder") (g1 : n0 ≤ a1) :
    MetFree l (⟨"com/example/esteem/esteem/index/Postings$Builder", "<init>", "()V"⟩ : MethodName) (head1 (Jvm.Cond.code (⟨"com/example/esteem/esteem/index/Postings$Builder", "<init>", "()V"⟩ : MethodName) prog_21_method_1_code 1 none :: ws) ({ frames := 1, cells := 3, slots := 4, locals := 12 } : Room)) (fun a U => a = #[(.ref a1)] ∧ Z.Warmed39 U.vm ∧ U.heap = h0) (fun _ _ _ _ _ => True) (fun _ U o U' => ∃ v L, o = .returned v ∧ Q_rmBI Z a1 h0 n0 v U'.heap L ∧ FrameEnd U o U' L ({ frames := 1, cells := 3, slots := 4, locals := 12 } : Room).cells ({ frames := 1, cells := 3, slots := 4, locals := 12 } : Room).slots) := by
  refine MetFree.of_bodySF (plainFor_of_name pn_com_example_esteem_esteem_index_Postings_Builder) hisR ?_
  intro p e s m args below meth c s₁ Bd hml0 hP hK
  obtain ⟨rfl, hZ, hh⟩ := hP
  have hx := Bd.exec
  have hby := Bd.bytes
  have hml : c.maxLocals = 1 := hml0
  have hown : s.vm.findClass "com/example/esteem/esteem/index/Postings$Builder" = some m.cls := findClass_of_methodNamed Bd.named
  have hnm := (name_of_methodNamed Bd.named Bd.method).1
  have X0 : Stand p l e ({ frames := 1, cells := 3, slots := 4, locals := 12 } : Room) s m #[(.ref a1)] below meth c s₁ [] 0 0 := Stand.of_body Bd
  have e0 : s₁.heap = h0 := by rw [← hh, Bd.state]; rfl
  have N0 := Fr.nil n0
  have pre0 : ∀ t, Steps p.tables e below (s₁.setTop (mkF m 0 #[.val (.ref a1)] [])) t → Steps p.tables e below (s₁.setTop (entryFrame m #[(.ref a1)] 1)) t := fun t kT => castTop (ef_rmBI m a1) kT
  have pre1 : ∀ t, Steps p.tables e below (s₁.setTop (mkF m 1 #[.val (.ref a1)] [(.ref a1)])) t → Steps p.tables e below (s₁.setTop (entryFrame m #[(.ref a1)] 1)) t := fun t kT => pre0 t (by
    show Steps p.tables e below (s₁.setTop (mkF m 0 #[.val (.ref a1)] [])) _
    refine XS.aloadN X0.here hx rfl (hb hby d1_0) rfl rfl ?_
    exact kT)
  obtain ⟨T2, X2, e2, st2⟩ := initO X0 hx hZ hown (hw _ (List.mem_of_getElem? (i := 11) rfl)) (hw _ (List.mem_of_getElem? (i := 12) rfl)) (hw _ (List.mem_of_getElem? (i := 13) rfl)) e0 (g := (mkF m 1 #[.val (.ref a1)] [(.ref a1)])) rfl (by rw [hml]; rfl) rfl (hb hby d1_1) (by decide) (W := 0) (by show 2 * 0 + _ ≤ _; exact Nat.le_of_eq rfl) (by decide)
  have pre3 : ∀ t, Steps p.tables e below (T2.setTop (mkF m 4 #[.val (.ref a1)] [])) t → Steps p.tables e below (s₁.setTop (entryFrame m #[(.ref a1)] 1)) t := fun t kT => pre1 t (st2 t kT)
  have pre4 : ∀ t, Steps p.tables e below (T2.setTop (mkF m 6 #[.val (.ref a1)] [(.int (1 : Int32)), (.ref a1)])) t → Steps p.tables e below (s₁.setTop (entryFrame m #[(.ref a1)] 1)) t := fun t kT => pre3 t (by
    show Steps p.tables e below (T2.setTop (mkF m 4 #[.val (.ref a1)] [])) _
    refine XS.aloadN X2.here hx rfl (hb hby d1_4) rfl rfl ?_
    show Steps p.tables e below (T2.setTop (mkF m 5 #[.val (.ref a1)] [(.ref a1)])) _
    refine XS.iconst X2.here hx rfl (hb hby d1_5) ?_
    exact kT)
  obtain ⟨T5, h5, X5, e5, E5, A5, st5⟩ := own_newP X2 hx hZ (hw _ (List.mem_of_getElem? (i := 2) rfl)) e2 (g := (mkF m 6 #[.val (.ref a1)] [(.int (1 : Int32)), (.ref a1)])) rfl (hb hby d1_6) rfl (by decide) (cap := 1) (by decide) (by decide) (by decide) (by decide)
  obtain ⟨dd, g5⟩ : ∃ z, z = h0.size := ⟨_, rfl⟩
  rw [← g5] at A5 st5
  have ne_a1_dd : a1 ≠ dd := Nat.ne_of_lt (Nat.lt_of_lt_of_le F0.lt (Nat.le_of_eq g5.symm))
  have g_dd : n0 ≤ dd := Nat.le_trans Z0 (Nat.le_of_eq g5.symm)
  have fr_dd : h0.size ≤ dd := Nat.le_trans (Keep.refl h0 [a1]).1 (Nat.le_of_eq g5.symm)
  have pre6 : ∀ t, Steps p.tables e below (T5.setTop (mkF m 8 #[.val (.ref a1)] [(.ref dd), (.ref a1)])) t → Steps p.tables e below (s₁.setTop (entryFrame m #[(.ref a1)] 1)) t := fun t kT => pre4 t (st5 t kT)
  have F0_e5 : Fld Z h5 a1 "com/example/esteem/esteem/index/Postings$Builder" "docs" "[I" .null := F0.ext E5
  have F1_e5 : Fld Z h5 a1 "com/example/esteem/esteem/index/Postings$Builder" "starts" "[I" .null := F1.ext E5
  have F2_e5 : Fld Z h5 a1 "com/example/esteem/esteem/index/Postings$Builder" "positions" "[I" .null := F2.ext E5
  have F3_e5 : Fld Z h5 a1 "com/example/esteem/esteem/index/Postings$Builder" "docCount" "I" (.int (0 : Int32)) := F3.ext E5
  have F4_e5 : Fld Z h5 a1 "com/example/esteem/esteem/index/Postings$Builder" "positionCount" "I" (.int (0 : Int32)) := F4.ext E5
  have E0_e5 : Exa Z h5 a1 "com/example/esteem/esteem/index/Postings$Builder" := E0.ext E5
  have sz5 : n0 ≤ h5.size := Nat.le_trans Z0 E5.1
  have KK5 : Keep h0 h5 [a1] := (Keep.refl h0 [a1]).ext E5
  have V_dd : own_Ar Z h5 dd .int 1 (fun _ => (.int (0 : Int32))) := A5
  have pre7 : ∀ t, Steps p.tables e below (T5.setTop (mkF m 8 #[.val (.ref a1)] [(.ref dd), (.ref a1)])) t → Steps p.tables e below (s₁.setTop (entryFrame m #[(.ref a1)] 1)) t := fun t kT => pre6 t (by
    exact kT)
  obtain ⟨T8, h8, X8, e8, W8, st8⟩ := putF X5 hx hZ hown (host := "") (Or.inl (hw _ (List.mem_of_getElem? (i := 14) rfl))) Via.refl e5 F0_e5 E0_e5 (Or.inl (hw _ (List.mem_of_getElem? (i := 15) rfl))) (hw _ (List.mem_of_getElem? (i := 6) rfl)) (ty := (.array .int)) (by decide) rfl rfl (g := (mkF m 8 #[.val (.ref a1)] [(.ref dd), (.ref a1)])) rfl rfl (hb hby d1_8)
  have pre9 : ∀ t, Steps p.tables e below (T8.setTop (mkF m 11 #[.val (.ref a1)] [])) t → Steps p.tables e below (s₁.setTop (entryFrame m #[(.ref a1)] 1)) t := fun t kT => pre7 t (st8 t kT)
  have N8 := Fr.snoc X8 N0 g1
  have F1_e8 : Fld Z h8 a1 "com/example/esteem/esteem/index/Postings$Builder" "starts" "[I" .null := F1_e5.other W8 (Or.inr (slot_ne (Or.inl (hw _ (List.mem_of_getElem? (i := 17) rfl))) (Or.inl (hw _ (List.mem_of_getElem? (i := 15) rfl))) (by decide) (t := (.array .int)) (t' := (.array .int)) (by decide) (by decide)))
  have F2_e8 : Fld Z h8 a1 "com/example/esteem/esteem/index/Postings$Builder" "positions" "[I" .null := F2_e5.other W8 (Or.inr (slot_ne (Or.inl (hw _ (List.mem_of_getElem? (i := 19) rfl))) (Or.inl (hw _ (List.mem_of_getElem? (i := 15) rfl))) (by decide) (t := (.array .int)) (t' := (.array .int)) (by decide) (by decide)))
  have F3_e8 : Fld Z h8 a1 "com/example/esteem/esteem/index/Postings$Builder" "docCount" "I" (.int (0 : Int32)) := F3_e5.other W8 (Or.inr (slot_ne (Or.inl (hw _ (List.mem_of_getElem? (i := 29) rfl))) (Or.inl (hw _ (List.mem_of_getElem? (i := 15) rfl))) (by decide) (t := .int) (t' := (.array .int)) (by decide) (by decide)))
  have F4_e8 : Fld Z h8 a1 "com/example/esteem/esteem/index/Postings$Builder" "positionCount" "I" (.int (0 : Int32)) := F4_e5.other W8 (Or.inr (slot_ne (Or.inl (hw _ (List.mem_of_getElem? (i := 43) rfl))) (Or.inl (hw _ (List.mem_of_getElem? (i := 15) rfl))) (by decide) (t := .int) (t' := (.array .int)) (by decide) (by decide)))
  have E0_e8 : Exa Z h8 a1 "com/example/esteem/esteem/index/Postings$Builder" := E0_e5.wr W8
  have V_dd_e8 : own_Ar Z h8 dd .int 1 (fun _ => (.int (0 : Int32))) := V_dd.other W8 (Ne.symm ne_a1_dd)
  have sz8 : n0 ≤ h8.size := Nat.le_trans sz5 (Keep.of_wr W8).1
  have KK8 : Keep h0 h8 [a1] := KK5.wr W8 (Or.inl (List.mem_of_getElem? (i := 0) rfl))
  have F_a1_docs_e8 : Fld Z h8 a1 "com/example/esteem/esteem/index/Postings$Builder" "docs" "[I" (.ref dd) := F0_e5.same W8
  have pre10 : ∀ t, Steps p.tables e below (T8.setTop (mkF m 13 #[.val (.ref a1)] [(.int (2 : Int32)), (.ref a1)])) t → Steps p.tables e below (s₁.setTop (entryFrame m #[(.ref a1)] 1)) t := fun t kT => pre9 t (by
    show Steps p.tables e below (T8.setTop (mkF m 11 #[.val (.ref a1)] [])) _
    refine XS.aloadN X8.here hx rfl (hb hby d1_11) rfl rfl ?_
    show Steps p.tables e below (T8.setTop (mkF m 12 #[.val (.ref a1)] [(.ref a1)])) _
    refine XS.iconst X8.here hx rfl (hb hby d1_12) ?_
    exact kT)
  obtain ⟨T11, h11, X11, e11, E11, A11, st11⟩ := own_newP X8 hx hZ (hw _ (List.mem_of_getElem? (i := 2) rfl)) e8 (g := (mkF m 13 #[.val (.ref a1)] [(.int (2 : Int32)), (.ref a1)])) rfl (hb hby d1_13) rfl (by decide) (cap := 2) (by decide) (by decide) (by decide) (by decide)
  obtain ⟨ds, g11⟩ : ∃ z, z = h8.size := ⟨_, rfl⟩
  rw [← g11] at A11 st11
  have ne_a1_ds : a1 ≠ ds := Nat.ne_of_lt (Nat.lt_of_lt_of_le F_a1_docs_e8.lt (Nat.le_of_eq g11.symm))
  have ne_dd_ds : dd ≠ ds := Nat.ne_of_lt (Nat.lt_of_lt_of_le V_dd_e8.lt (Nat.le_of_eq g11.symm))
  have g_ds : n0 ≤ ds := Nat.le_trans sz8 (Nat.le_of_eq g11.symm)
  have fr_ds : h0.size ≤ ds := Nat.le_trans KK8.1 (Nat.le_of_eq g11.symm)
  have pre12 : ∀ t, Steps p.tables e below (T11.setTop (mkF m 15 #[.val (.ref a1)] [(.ref ds), (.ref a1)])) t → Steps p.tables e below (s₁.setTop (entryFrame m #[(.ref a1)] 1)) t := fun t kT => pre10 t (st11 t kT)
  have F_a1_docs_e11 : Fld Z h11 a1 "com/example/esteem/esteem/index/Postings$Builder" "docs" "[I" (.ref dd) := F_a1_docs_e8.ext E11
  have F1_e11 : Fld Z h11 a1 "com/example/esteem/esteem/index/Postings$Builder" "starts" "[I" .null := F1_e8.ext E11
  have F2_e11 : Fld Z h11 a1 "com/example/esteem/esteem/index/Postings$Builder" "positions" "[I" .null := F2_e8.ext E11
  have F3_e11 : Fld Z h11 a1 "com/example/esteem/esteem/index/Postings$Builder" "docCount" "I" (.int (0 : Int32)) := F3_e8.ext E11
  have F4_e11 : Fld Z h11 a1 "com/example/esteem/esteem/index/Postings$Builder" "positionCount" "I" (.int (0 : Int32)) := F4_e8.ext E11
  have E0_e11 : Exa Z h11 a1 "com/example/esteem/esteem/index/Postings$Builder" := E0_e8.ext E11
  have V_dd_e11 : own_Ar Z h11 dd .int 1 (fun _ => (.int (0 : Int32))) := V_dd_e8.ext E11
  have sz11 : n0 ≤ h11.size := Nat.le_trans sz8 E11.1
  have KK11 : Keep h0 h11 [a1] := KK8.ext E11
  have V_ds : own_Ar Z h11 ds .int 2 (fun _ => (.int (0 : Int32))) := A11
  have pre13 : ∀ t, Steps p.tables e below (T11.setTop (mkF m 15 #[.val (.ref a1)] [(.ref ds), (.ref a1)])) t → Steps p.tables e below (s₁.setTop (entryFrame m #[(.ref a1)] 1)) t := fun t kT => pre12 t (by
    exact kT)
  obtain ⟨T14, h14, X14, e14, W14, st14⟩ := putF X11 hx hZ hown (host := "") (Or.inl (hw _ (List.mem_of_getElem? (i := 16) rfl))) Via.refl e11 F1_e11 E0_e11 (Or.inl (hw _ (List.mem_of_getElem? (i := 17) rfl))) (hw _ (List.mem_of_getElem? (i := 6) rfl)) (ty := (.array .int)) (by decide) rfl rfl (g := (mkF m 15 #[.val (.ref a1)] [(.ref ds), (.ref a1)])) rfl rfl (hb hby d1_15)
  have pre15 : ∀ t, Steps p.tables e below (T14.setTop (mkF m 18 #[.val (.ref a1)] [])) t → Steps p.tables e below (s₁.setTop (entryFrame m #[(.ref a1)] 1)) t := fun t kT => pre13 t (st14 t kT)
  have N14 := Fr.snoc X14 N8 g1
  have F_a1_docs_e14 : Fld Z h14 a1 "com/example/esteem/esteem/index/Postings$Builder" "docs" "[I" (.ref dd) := F_a1_docs_e11.other W14 (Or.inr (slot_ne (Or.inl (hw _ (List.mem_of_getElem? (i := 15) rfl))) (Or.inl (hw _ (List.mem_of_getElem? (i := 17) rfl))) (by decide) (t := (.array .int)) (t' := (.array .int)) (by decide) (by decide)))
  have F2_e14 : Fld Z h14 a1 "com/example/esteem/esteem/index/Postings$Builder" "positions" "[I" .null := F2_e11.other W14 (Or.inr (slot_ne (Or.inl (hw _ (List.mem_of_getElem? (i := 19) rfl))) (Or.inl (hw _ (List.mem_of_getElem? (i := 17) rfl))) (by decide) (t := (.array .int)) (t' := (.array .int)) (by decide) (by decide)))
  have F3_e14 : Fld Z h14 a1 "com/example/esteem/esteem/index/Postings$Builder" "docCount" "I" (.int (0 : Int32)) := F3_e11.other W14 (Or.inr (slot_ne (Or.inl (hw _ (List.mem_of_getElem? (i := 29) rfl))) (Or.inl (hw _ (List.mem_of_getElem? (i := 17) rfl))) (by decide) (t := .int) (t' := (.array .int)) (by decide) (by decide)))
  have F4_e14 : Fld Z h14 a1 "com/example/esteem/esteem/index/Postings$Builder" "positionCount" "I" (.int (0 : Int32)) := F4_e11.other W14 (Or.inr (slot_ne (Or.inl (hw _ (List.mem_of_getElem? (i := 43) rfl))) (Or.inl (hw _ (List.mem_of_getElem? (i := 17) rfl))) (by decide) (t := .int) (t' := (.array .int)) (by decide) (by decide)))
  have E0_e14 : Exa Z h14 a1 "com/example/esteem/esteem/index/Postings$Builder" := E0_e11.wr W14
  have V_dd_e14 : own_Ar Z h14 dd .int 1 (fun _ => (.int (0 : Int32))) := V_dd_e11.other W14 (Ne.symm ne_a1_dd)
  have V_ds_e14 : own_Ar Z h14 ds .int 2 (fun _ => (.int (0 : Int32))) := V_ds.other W14 (Ne.symm ne_a1_ds)
  have sz14 : n0 ≤ h14.size := Nat.le_trans sz11 (Keep.of_wr W14).1
  have KK14 : Keep h0 h14 [a1] := KK11.wr W14 (Or.inl (List.mem_of_getElem? (i := 0) rfl))
  have F_a1_starts_e14 : Fld Z h14 a1 "com/example/esteem/esteem/index/Postings$Builder" "starts" "[I" (.ref ds) := F1_e11.same W14
  have pre16 : ∀ t, Steps p.tables e below (T14.setTop (mkF m 20 #[.val (.ref a1)] [(.int (1 : Int32)), (.ref a1)])) t → Steps p.tables e below (s₁.setTop (entryFrame m #[(.ref a1)] 1)) t := fun t kT => pre15 t (by
    show Steps p.tables e below (T14.setTop (mkF m 18 #[.val (.ref a1)] [])) _
    refine XS.aloadN X14.here hx rfl (hb hby d1_18) rfl rfl ?_
    show Steps p.tables e below (T14.setTop (mkF m 19 #[.val (.ref a1)] [(.ref a1)])) _
    refine XS.iconst X14.here hx rfl (hb hby d1_19) ?_
    exact kT)
  obtain ⟨T17, h17, X17, e17, E17, A17, st17⟩ := own_newP X14 hx hZ (hw _ (List.mem_of_getElem? (i := 2) rfl)) e14 (g := (mkF m 20 #[.val (.ref a1)] [(.int (1 : Int32)), (.ref a1)])) rfl (hb hby d1_20) rfl (by decide) (cap := 1) (by decide) (by decide) (by decide) (by decide)
  obtain ⟨dp, g17⟩ : ∃ z, z = h14.size := ⟨_, rfl⟩
  rw [← g17] at A17 st17
  have ne_a1_dp : a1 ≠ dp := Nat.ne_of_lt (Nat.lt_of_lt_of_le F_a1_docs_e14.lt (Nat.le_of_eq g17.symm))
  have ne_dd_dp : dd ≠ dp := Nat.ne_of_lt (Nat.lt_of_lt_of_le V_dd_e14.lt (Nat.le_of_eq g17.symm))
  have ne_ds_dp : ds ≠ dp := Nat.ne_of_lt (Nat.lt_of_lt_of_le V_ds_e14.lt (Nat.le_of_eq g17.symm))
  have g_dp : n0 ≤ dp := Nat.le_trans sz14 (Nat.le_of_eq g17.symm)
  have fr_dp : h0.size ≤ dp := Nat.le_trans KK14.1 (Nat.le_of_eq g17.symm)
  have pre18 : ∀ t, Steps p.tables e below (T17.setTop (mkF m 22 #[.val (.ref a1)] [(.ref dp), (.ref a1)])) t → Steps p.tables e below (s₁.setTop (entryFrame m #[(.ref a1)] 1)) t := fun t kT => pre16 t (st17 t kT)
  have F_a1_docs_e17 : Fld Z h17 a1 "com/example/esteem/esteem/index/Postings$Builder" "docs" "[I" (.ref dd) := F_a1_docs_e14.ext E17
  have F_a1_starts_e17 : Fld Z h17 a1 "com/example/esteem/esteem/index/Postings$Builder" "starts" "[I" (.ref ds) := F_a1_starts_e14.ext E17
  have F2_e17 : Fld Z h17 a1 "com/example/esteem/esteem/index/Postings$Builder" "positions" "[I" .null := F2_e14.ext E17
  have F3_e17 : Fld Z h17 a1 "com/example/esteem/esteem/index/Postings$Builder" "docCount" "I" (.int (0 : Int32)) := F3_e14.ext E17
  have F4_e17 : Fld Z h17 a1 "com/example/esteem/esteem/index/Postings$Builder" "positionCount" "I" (.int (0 : Int32)) := F4_e14.ext E17
  have E0_e17 : Exa Z h17 a1 "com/example/esteem/esteem/index/Postings$Builder" := E0_e14.ext E17
  have V_dd_e17 : own_Ar Z h17 dd .int 1 (fun _ => (.int (0 : Int32))) := V_dd_e14.ext E17
  have V_ds_e17 : own_Ar Z h17 ds .int 2 (fun _ => (.int (0 : Int32))) := V_ds_e14.ext E17
  have sz17 : n0 ≤ h17.size := Nat.le_trans sz14 E17.1
  have KK17 : Keep h0 h17 [a1] := KK14.ext E17
  have V_dp : own_Ar Z h17 dp .int 1 (fun _ => (.int (0 : Int32))) := A17
  have pre19 : ∀ t, Steps p.tables e below (T17.setTop (mkF m 22 #[.val (.ref a1)] [(.ref dp), (.ref a1)])) t → Steps p.tables e below (s₁.setTop (entryFrame m #[(.ref a1)] 1)) t := fun t kT => pre18 t (by
    exact kT)
  obtain ⟨T20, h20, X20, e20, W20, st20⟩ := putF X17 hx hZ hown (host := "") (Or.inl (hw _ (List.mem_of_getElem? (i := 18) rfl))) Via.refl e17 F2_e17 E0_e17 (Or.inl (hw _ (List.mem_of_getElem? (i := 19) rfl))) (hw _ (List.mem_of_getElem? (i := 6) rfl)) (ty := (.array .int)) (by decide) rfl rfl (g := (mkF m 22 #[.val (.ref a1)] [(.ref dp), (.ref a1)])) rfl rfl (hb hby d1_22)
  have pre21 : ∀ t, Steps p.tables e below (T20.setTop (mkF m 25 #[.val (.ref a1)] [])) t → Steps p.tables e below (s₁.setTop (entryFrame m #[(.ref a1)] 1)) t := fun t kT => pre19 t (st20 t kT)
  have N20 := Fr.snoc X20 N14 g1
  have F_a1_docs_e20 : Fld Z h20 a1 "com/example/esteem/esteem/index/Postings$Builder" "docs" "[I" (.ref dd) := F_a1_docs_e17.other W20 (Or.inr (slot_ne (Or.inl (hw _ (List.mem_of_getElem? (i := 15) rfl))) (Or.inl (hw _ (List.mem_of_getElem? (i := 19) rfl))) (by decide) (t := (.array .int)) (t' := (.array .int)) (by decide) (by decide)))
  have F_a1_starts_e20 : Fld Z h20 a1 "com/example/esteem/esteem/index/Postings$Builder" "starts" "[I" (.ref ds) := F_a1_starts_e17.other W20 (Or.inr (slot_ne (Or.inl (hw _ (List.mem_of_getElem? (i := 17) rfl))) (Or.inl (hw _ (List.mem_of_getElem? (i := 19) rfl))) (by decide) (t := (.array .int)) (t' := (.array .int)) (by decide) (by decide)))
  have F3_e20 : Fld Z h20 a1 "com/example/esteem/esteem/index/Postings$Builder" "docCount" "I" (.int (0 : Int32)) := F3_e17.other W20 (Or.inr (slot_ne (Or.inl (hw _ (List.mem_of_getElem? (i := 29) rfl))) (Or.inl (hw _ (List.mem_of_getElem? (i := 19) rfl))) (by decide) (t := .int) (t' := (.array .int)) (by decide) (by decide)))
  have F4_e20 : Fld Z h20 a1 "com/example/esteem/esteem/index/Postings$Builder" "positionCount" "I" (.int (0 : Int32)) := F4_e17.other W20 (Or.inr (slot_ne (Or.inl (hw _ (List.mem_of_getElem? (i := 43) rfl))) (Or.inl (hw _ (List.mem_of_getElem? (i := 19) rfl))) (by decide) (t := .int) (t' := (.array .int)) (by decide) (by decide)))
  have E0_e20 : Exa Z h20 a1 "com/example/esteem/esteem/index/Postings$Builder" := E0_e17.wr W20
  have V_dd_e20 : own_Ar Z h20 dd .int 1 (fun _ => (.int (0 : Int32))) := V_dd_e17.other W20 (Ne.symm ne_a1_dd)
  have V_ds_e20 : own_Ar Z h20 ds .int 2 (fun _ => (.int (0 : Int32))) := V_ds_e17.other W20 (Ne.symm ne_a1_ds)
  have V_dp_e20 : own_Ar Z h20 dp .int 1 (fun _ => (.int (0 : Int32))) := V_dp.other W20 (Ne.symm ne_a1_dp)
  have sz20 : n0 ≤ h20.size := Nat.le_trans sz17 (Keep.of_wr W20).1
  have KK20 : Keep h0 h20 [a1] := KK17.wr W20 (Or.inl (List.mem_of_getElem? (i := 0) rfl))
  have F_a1_positions_e20 : Fld Z h20 a1 "com/example/esteem/esteem/index/Postings$Builder" "positions" "[I" (.ref dp) := F2_e17.same W20
  have pre22 : ∀ t, Steps p.tables e below (T20.setTop (mkF m 25 #[.val (.ref a1)] [])) t → Steps p.tables e below (s₁.setTop (entryFrame m #[(.ref a1)] 1)) t := fun t kT => pre21 t (by
    exact kT)
  obtain ⟨fs, hr, hrun, hended, hW, hsame⟩ := X20.leave (v := none) (fun _ => rfl)
  refine ⟨_, _, pre22 _ ?_, hrun, hended, _, _, rfl, ?_, ⟨_, rfl⟩, hW, hsame.mono (by decide) (by decide)⟩
  · exact X20.returnOut hx Bd.returns (hb hby d1_25) hr
  · show Q_rmBI Z a1 h0 n0 _ T20.heap _
    rw [e20]
    exact ⟨rfl, N20, KK20, dd, ds, dp, ⟨⟨F_a1_docs_e20, F_a1_starts_e20, F_a1_positions_e20, F3_e20, F4_e20, E0_e20⟩, ⟨own_Pf.of (g := (fun _ => (0 : Int32))) V_dd_e20 (fun _ _ => rfl), own_Pf.of (g := (fun _ => (0 : Int32))) V_ds_e20 (fun _ _ => rfl), own_Pf.of (g := (fun _ => (0 : Int32))) V_dp_e20 (fun _ _ => rfl)⟩, ⟨ne_dd_ds, ne_dd_dp, ne_ds_dp, ne_a1_dd, ne_a1_ds, ne_a1_dp⟩, ⟨g1, g_dd, g_ds, g_dp⟩, ⟨by decide, by decide, by decide, by decide, by decide, by decide, by decide, by decide⟩⟩⟩
theorem ef_rmPI (m : MethodId) (x0 : Addr) (x1 : Addr) (x2 : Addr) (x3 : Addr) : entryFrame m #[(.ref x0), (.ref x1), (.ref x2), (.ref x3)] 4 = mkF m 0 #[.val (.ref x0), .val (.ref x1), .val (.ref x2), .val (.ref x3)] [] := by first | (simp [entryFrame, mkF, argsToLocals, Value.category]; done) | rfl
theorem pn_com_example_esteem_esteem_index_Postings : plainName "com/example/esteem/esteem/index/Postings" = true := by first | (simp [plainName, overriddenIn]; done) | decide +kernel
theorem d6_0 : decode prog_20_method_1_code 0 = .ok (.aload_n 0, 1) := by decide +kernel
theorem d6_1 : decode prog_20_method_1_code 1 = .ok (.invokespecial 1, 3) := by decide +kernel
theorem d6_4 : decode prog_20_method_1_code 4 = .ok (.aload_n 0, 1) := by decide +kernel
theorem d6_5 : decode prog_20_method_1_code 5 = .ok (.aload_n 1, 1) := by decide +kernel
theorem d6_6 : decode prog_20_method_1_code 6 = .ok (.putfield 7, 3) := by decide +kernel
theorem d6_9 : decode prog_20_method_1_code 9 = .ok (.aload_n 0, 1) := by decide +kernel
theorem d6_10 : decode prog_20_method_1_code 10 = .ok (.aload_n 2, 1) := by decide +kernel
theorem d6_11 : decode prog_20_method_1_code 11 = .ok (.putfield 13, 3) := by decide +kernel
theorem d6_14 : decode prog_20_method_1_code 14 = .ok (.aload_n 0, 1) := by decide +kernel
theorem d6_15 : decode prog_20_method_1_code 15 = .ok (.aload_n 3, 1) := by decide +kernel
theorem d6_16 : decode prog_20_method_1_code 16 = .ok (.putfield 16, 3) := by decide +kernel
theorem d6_19 : decode prog_20_method_1_code 19 = .ok (.return_, 1) := by decide +kernel
def Q_rmPI (Z : State) (a1 : Addr) (x1 : Addr) (x2 : Addr) (x3 : Addr) (h0 : Heap) (n0 : Nat) (v : Option Value) (h : Heap) (L : List Loc) : Prop := v = none ∧ Fr n0 L ∧ Keep h0 h [a1] ∧ Fld Z h a1 "com/example/esteem/esteem/index/Postings" "docs" "[I" (.ref x1) ∧ Fld Z h a1 "com/example/esteem/esteem/index/Postings" "starts" "[I" (.ref x2) ∧ Fld Z h a1 "com/example/esteem/esteem/index/Postings" "positions" "[I" (.ref x3)
set_option maxRecDepth 65536 in
set_option maxHeartbeats 40000000 in
theorem rmPI (l : Launch) (Z : State) (a0 : Array Value) (hw : ∀ d ∈ tables_1, d.before a0 Z = true) (ws : List Jvm.Cond) (a1 : Addr) (x1 : Addr) (x2 : Addr) (x3 : Addr) (h0 : Heap) (n0 : Nat) (Z0 : n0 ≤ h0.size) (F0 : Fld Z h0 a1 "com/example/esteem/esteem/index/Postings" "docs" "[I" .null) (F1 : Fld Z h0 a1 "com/example/esteem/esteem/index/Postings" "starts" "[I" .null) (F2 : Fld Z h0 a1 "com/example/esteem/esteem/index/Postings" "positions" "[I" .null) (E0 : Exa Z h0 a1 "com/example/esteem/esteem/index/Postings") (g1 : n0 ≤ a1) :
    MetFree l (⟨"com/example/esteem/esteem/index/Postings", "<init>", "([I[I[I)V"⟩ : MethodName) (head1 (Jvm.Cond.code (⟨"com/example/esteem/esteem/index/Postings", "<init>", "([I[I[I)V"⟩ : MethodName) prog_20_method_1_code 4 none :: ws) ({ frames := 1, cells := 0, slots := 0, locals := 12 } : Room)) (fun a U => a = #[(.ref a1), (.ref x1), (.ref x2), (.ref x3)] ∧ Z.Warmed39 U.vm ∧ U.heap = h0) (fun _ _ _ _ _ => True) (fun _ U o U' => ∃ v L, o = .returned v ∧ Q_rmPI Z a1 x1 x2 x3 h0 n0 v U'.heap L ∧ FrameEnd U o U' L ({ frames := 1, cells := 0, slots := 0, locals := 12 } : Room).cells ({ frames := 1, cells := 0, slots := 0, locals := 12 } : Room).slots) := by
  refine MetFree.of_bodySF (plainFor_of_name pn_com_example_esteem_esteem_index_Postings) hisR ?_
  intro p e s m args below meth c s₁ Bd hml0 hP hK
  obtain ⟨rfl, hZ, hh⟩ := hP
  have hx := Bd.exec
  have hby := Bd.bytes
  have hml : c.maxLocals = 4 := hml0
  have hown : s.vm.findClass "com/example/esteem/esteem/index/Postings" = some m.cls := findClass_of_methodNamed Bd.named
  have hnm := (name_of_methodNamed Bd.named Bd.method).1
  have X0 : Stand p l e ({ frames := 1, cells := 0, slots := 0, locals := 12 } : Room) s m #[(.ref a1), (.ref x1), (.ref x2), (.ref x3)] below meth c s₁ [] 0 0 := Stand.of_body Bd
  have e0 : s₁.heap = h0 := by rw [← hh, Bd.state]; rfl
  have N0 := Fr.nil n0
  have pre0 : ∀ t, Steps p.tables e below (s₁.setTop (mkF m 0 #[.val (.ref a1), .val (.ref x1), .val (.ref x2), .val (.ref x3)] [])) t → Steps p.tables e below (s₁.setTop (entryFrame m #[(.ref a1), (.ref x1), (.ref x2), (.ref x3)] 4)) t := fun t kT => castTop (ef_rmPI m a1 x1 x2 x3) kT
  have pre1 : ∀ t, Steps p.tables e below (s₁.setTop (mkF m 1 #[.val (.ref a1), .val (.ref x1), .val (.ref x2), .val (.ref x3)] [(.ref a1)])) t → Steps p.tables e below (s₁.setTop (entryFrame m #[(.ref a1), (.ref x1), (.ref x2), (.ref x3)] 4)) t := fun t kT => pre0 t (by
    show Steps p.tables e below (s₁.setTop (mkF m 0 #[.val (.ref a1), .val (.ref x1), .val (.ref x2), .val (.ref x3)] [])) _
    refine XS.aloadN X0.here hx rfl (hb hby d6_0) rfl rfl ?_
    exact kT)
  obtain ⟨T2, X2, e2, st2⟩ := initO X0 hx hZ hown (hw _ (List.mem_of_getElem? (i := 47) rfl)) (hw _ (List.mem_of_getElem? (i := 12) rfl)) (hw _ (List.mem_of_getElem? (i := 13) rfl)) e0 (g := (mkF m 1 #[.val (.ref a1), .val (.ref x1), .val (.ref x2), .val (.ref x3)] [(.ref a1)])) rfl (by rw [hml]; rfl) rfl (hb hby d6_1) (by decide) (W := 0) (by show 2 * 0 + _ ≤ _; exact Nat.le_of_eq rfl) (by decide)
  have pre3 : ∀ t, Steps p.tables e below (T2.setTop (mkF m 4 #[.val (.ref a1), .val (.ref x1), .val (.ref x2), .val (.ref x3)] [])) t → Steps p.tables e below (s₁.setTop (entryFrame m #[(.ref a1), (.ref x1), (.ref x2), (.ref x3)] 4)) t := fun t kT => pre1 t (st2 t kT)
  have pre4 : ∀ t, Steps p.tables e below (T2.setTop (mkF m 6 #[.val (.ref a1), .val (.ref x1), .val (.ref x2), .val (.ref x3)] [(.ref x1), (.ref a1)])) t → Steps p.tables e below (s₁.setTop (entryFrame m #[(.ref a1), (.ref x1), (.ref x2), (.ref x3)] 4)) t := fun t kT => pre3 t (by
    show Steps p.tables e below (T2.setTop (mkF m 4 #[.val (.ref a1), .val (.ref x1), .val (.ref x2), .val (.ref x3)] [])) _
    refine XS.aloadN X2.here hx rfl (hb hby d6_4) rfl rfl ?_
    show Steps p.tables e below (T2.setTop (mkF m 5 #[.val (.ref a1), .val (.ref x1), .val (.ref x2), .val (.ref x3)] [(.ref a1)])) _
    refine XS.aloadN X2.here hx rfl (hb hby d6_5) rfl rfl ?_
    exact kT)
  obtain ⟨T5, h5, X5, e5, W5, st5⟩ := putF X2 hx hZ hown (host := "") (Or.inl (hw _ (List.mem_of_getElem? (i := 48) rfl))) Via.refl e2 F0 E0 (Or.inr ⟨(hw _ (List.mem_of_getElem? (i := 49) rfl)), rfl, hnm⟩) (hw _ (List.mem_of_getElem? (i := 26) rfl)) (ty := (.array .int)) (by decide) rfl rfl (g := (mkF m 6 #[.val (.ref a1), .val (.ref x1), .val (.ref x2), .val (.ref x3)] [(.ref x1), (.ref a1)])) rfl rfl (hb hby d6_6)
  have pre6 : ∀ t, Steps p.tables e below (T5.setTop (mkF m 9 #[.val (.ref a1), .val (.ref x1), .val (.ref x2), .val (.ref x3)] [])) t → Steps p.tables e below (s₁.setTop (entryFrame m #[(.ref a1), (.ref x1), (.ref x2), (.ref x3)] 4)) t := fun t kT => pre4 t (st5 t kT)
  have N5 := Fr.snoc X5 N0 g1
  have F1_e5 : Fld Z h5 a1 "com/example/esteem/esteem/index/Postings" "starts" "[I" .null := F1.other W5 (Or.inr (slot_ne (Or.inr (hw _ (List.mem_of_getElem? (i := 51) rfl))) (Or.inr (hw _ (List.mem_of_getElem? (i := 49) rfl))) (by decide) (t := (.array .int)) (t' := (.array .int)) (by decide) (by decide)))
  have F2_e5 : Fld Z h5 a1 "com/example/esteem/esteem/index/Postings" "positions" "[I" .null := F2.other W5 (Or.inr (slot_ne (Or.inr (hw _ (List.mem_of_getElem? (i := 53) rfl))) (Or.inr (hw _ (List.mem_of_getElem? (i := 49) rfl))) (by decide) (t := (.array .int)) (t' := (.array .int)) (by decide) (by decide)))
  have E0_e5 : Exa Z h5 a1 "com/example/esteem/esteem/index/Postings" := E0.wr W5
  have sz5 : n0 ≤ h5.size := Nat.le_trans Z0 (Keep.of_wr W5).1
  have KK5 : Keep h0 h5 [a1] := (Keep.refl h0 [a1]).wr W5 (Or.inl (List.mem_of_getElem? (i := 0) rfl))
  have F_a1_docs_e5 : Fld Z h5 a1 "com/example/esteem/esteem/index/Postings" "docs" "[I" (.ref x1) := F0.same W5
  have pre7 : ∀ t, Steps p.tables e below (T5.setTop (mkF m 11 #[.val (.ref a1), .val (.ref x1), .val (.ref x2), .val (.ref x3)] [(.ref x2), (.ref a1)])) t → Steps p.tables e below (s₁.setTop (entryFrame m #[(.ref a1), (.ref x1), (.ref x2), (.ref x3)] 4)) t := fun t kT => pre6 t (by
    show Steps p.tables e below (T5.setTop (mkF m 9 #[.val (.ref a1), .val (.ref x1), .val (.ref x2), .val (.ref x3)] [])) _
    refine XS.aloadN X5.here hx rfl (hb hby d6_9) rfl rfl ?_
    show Steps p.tables e below (T5.setTop (mkF m 10 #[.val (.ref a1), .val (.ref x1), .val (.ref x2), .val (.ref x3)] [(.ref a1)])) _
    refine XS.aloadN X5.here hx rfl (hb hby d6_10) rfl rfl ?_
    exact kT)
  obtain ⟨T8, h8, X8, e8, W8, st8⟩ := putF X5 hx hZ hown (host := "") (Or.inl (hw _ (List.mem_of_getElem? (i := 50) rfl))) Via.refl e5 F1_e5 E0_e5 (Or.inr ⟨(hw _ (List.mem_of_getElem? (i := 51) rfl)), rfl, hnm⟩) (hw _ (List.mem_of_getElem? (i := 26) rfl)) (ty := (.array .int)) (by decide) rfl rfl (g := (mkF m 11 #[.val (.ref a1), .val (.ref x1), .val (.ref x2), .val (.ref x3)] [(.ref x2), (.ref a1)])) rfl rfl (hb hby d6_11)
  have pre9 : ∀ t, Steps p.tables e below (T8.setTop (mkF m 14 #[.val (.ref a1), .val (.ref x1), .val (.ref x2), .val (.ref x3)] [])) t → Steps p.tables e below (s₁.setTop (entryFrame m #[(.ref a1), (.ref x1), (.ref x2), (.ref x3)] 4)) t := fun t kT => pre7 t (st8 t kT)
  have N8 := Fr.snoc X8 N5 g1
  have F_a1_docs_e8 : Fld Z h8 a1 "com/example/esteem/esteem/index/Postings" "docs" "[I" (.ref x1) := F_a1_docs_e5.other W8 (Or.inr (slot_ne (Or.inr (hw _ (List.mem_of_getElem? (i := 49) rfl))) (Or.inr (hw _ (List.mem_of_getElem? (i := 51) rfl))) (by decide) (t := (.array .int)) (t' := (.array .int)) (by decide) (by decide)))
  have F2_e8 : Fld Z h8 a1 "com/example/esteem/esteem/index/Postings" "positions" "[I" .null := F2_e5.other W8 (Or.inr (slot_ne (Or.inr (hw _ (List.mem_of_getElem? (i := 53) rfl))) (Or.inr (hw _ (List.mem_of_getElem? (i := 51) rfl))) (by decide) (t := (.array .int)) (t' := (.array .int)) (by decide) (by decide)))
  have E0_e8 : Exa Z h8 a1 "com/example/esteem/esteem/index/Postings" := E0_e5.wr W8
  have sz8 : n0 ≤ h8.size := Nat.le_trans sz5 (Keep.of_wr W8).1
  have KK8 : Keep h0 h8 [a1] := KK5.wr W8 (Or.inl (List.mem_of_getElem? (i := 0) rfl))
  have F_a1_starts_e8 : Fld Z h8 a1 "com/example/esteem/esteem/index/Postings" "starts" "[I" (.ref x2) := F1_e5.same W8
  have pre10 : ∀ t, Steps p.tables e below (T8.setTop (mkF m 16 #[.val (.ref a1), .val (.ref x1), .val (.ref x2), .val (.ref x3)] [(.ref x3), (.ref a1)])) t → Steps p.tables e below (s₁.setTop (entryFrame m #[(.ref a1), (.ref x1), (.ref x2), (.ref x3)] 4)) t := fun t kT => pre9 t (by
    show Steps p.tables e below (T8.setTop (mkF m 14 #[.val (.ref a1), .val (.ref x1), .val (.ref x2), .val (.ref x3)] [])) _
    refine XS.aloadN X8.here hx rfl (hb hby d6_14) rfl rfl ?_
    show Steps p.tables e below (T8.setTop (mkF m 15 #[.val (.ref a1), .val (.ref x1), .val (.ref x2), .val (.ref x3)] [(.ref a1)])) _
    refine XS.aloadN X8.here hx rfl (hb hby d6_15) rfl rfl ?_
    exact kT)
  obtain ⟨T11, h11, X11, e11, W11, st11⟩ := putF X8 hx hZ hown (host := "") (Or.inl (hw _ (List.mem_of_getElem? (i := 52) rfl))) Via.refl e8 F2_e8 E0_e8 (Or.inr ⟨(hw _ (List.mem_of_getElem? (i := 53) rfl)), rfl, hnm⟩) (hw _ (List.mem_of_getElem? (i := 26) rfl)) (ty := (.array .int)) (by decide) rfl rfl (g := (mkF m 16 #[.val (.ref a1), .val (.ref x1), .val (.ref x2), .val (.ref x3)] [(.ref x3), (.ref a1)])) rfl rfl (hb hby d6_16)
  have pre12 : ∀ t, Steps p.tables e below (T11.setTop (mkF m 19 #[.val (.ref a1), .val (.ref x1), .val (.ref x2), .val (.ref x3)] [])) t → Steps p.tables e below (s₁.setTop (entryFrame m #[(.ref a1), (.ref x1), (.ref x2), (.ref x3)] 4)) t := fun t kT => pre10 t (st11 t kT)
  have N11 := Fr.snoc X11 N8 g1
  have F_a1_docs_e11 : Fld Z h11 a1 "com/example/esteem/esteem/index/Postings" "docs" "[I" (.ref x1) := F_a1_docs_e8.other W11 (Or.inr (slot_ne (Or.inr (hw _ (List.mem_of_getElem? (i := 49) rfl))) (Or.inr (hw _ (List.mem_of_getElem? (i := 53) rfl))) (by decide) (t := (.array .int)) (t' := (.array .int)) (by decide) (by decide)))
  have F_a1_starts_e11 : Fld Z h11 a1 "com/example/esteem/esteem/index/Postings" "starts" "[I" (.ref x2) := F_a1_starts_e8.other W11 (Or.inr (slot_ne (Or.inr (hw _ (List.mem_of_getElem? (i := 51) rfl))) (Or.inr (hw _ (List.mem_of_getElem? (i := 53) rfl))) (by decide) (t := (.array .int)) (t' := (.array .int)) (by decide) (by decide)))
  have E0_e11 : Exa Z h11 a1 "com/example/esteem/esteem/index/Postings" := E0_e8.wr W11
  have sz11 : n0 ≤ h11.size := Nat.le_trans sz8 (Keep.of_wr W11).1
  have KK11 : Keep h0 h11 [a1] := KK8.wr W11 (Or.inl (List.mem_of_getElem? (i := 0) rfl))
  have F_a1_positions_e11 : Fld Z h11 a1 "com/example/esteem/esteem/index/Postings" "positions" "[I" (.ref x3) := F2_e8.same W11
  have pre13 : ∀ t, Steps p.tables e below (T11.setTop (mkF m 19 #[.val (.ref a1), .val (.ref x1), .val (.ref x2), .val (.ref x3)] [])) t → Steps p.tables e below (s₁.setTop (entryFrame m #[(.ref a1), (.ref x1), (.ref x2), (.ref x3)] 4)) t := fun t kT => pre12 t (by
    exact kT)
  obtain ⟨fs, hr, hrun, hended, hW, hsame⟩ := X11.leave (v := none) (fun _ => rfl)
  refine ⟨_, _, pre13 _ ?_, hrun, hended, _, _, rfl, ?_, ⟨_, rfl⟩, hW, hsame.mono (by decide) (by decide)⟩
  · exact X11.returnOut hx Bd.returns (hb hby d6_19) hr
  · show Q_rmPI Z a1 x1 x2 x3 h0 n0 _ T11.heap _
    rw [e11]
    exact ⟨rfl, N11, KK11, F_a1_docs_e11, F_a1_starts_e11, F_a1_positions_e11⟩
theorem ef_rmBU (m : MethodId) (x0 : Addr) : entryFrame m #[(.ref x0)] 1 = mkF m 0 #[.val (.ref x0)] [] := by first | (simp [entryFrame, mkF, argsToLocals, Value.category]; done) | rfl
theorem d3_0 : decode prog_21_method_3_code 0 = .ok (.new 45, 3) := by decide +kernel
theorem d3_3 : decode prog_21_method_3_code 3 = .ok (.dup, 1) := by decide +kernel
theorem d3_4 : decode prog_21_method_3_code 4 = .ok (.aload_n 0, 1) := by decide +kernel
theorem d3_5 : decode prog_21_method_3_code 5 = .ok (.getfield 7, 3) := by decide +kernel
theorem d3_8 : decode prog_21_method_3_code 8 = .ok (.aload_n 0, 1) := by decide +kernel
theorem d3_9 : decode prog_21_method_3_code 9 = .ok (.getfield 19, 3) := by decide +kernel
theorem d3_12 : decode prog_21_method_3_code 12 = .ok (.invokestatic 36, 3) := by decide +kernel
theorem d3_15 : decode prog_21_method_3_code 15 = .ok (.aload_n 0, 1) := by decide +kernel
theorem d3_16 : decode prog_21_method_3_code 16 = .ok (.getfield 13, 3) := by decide +kernel
theorem d3_19 : decode prog_21_method_3_code 19 = .ok (.aload_n 0, 1) := by decide +kernel
theorem d3_20 : decode prog_21_method_3_code 20 = .ok (.getfield 19, 3) := by decide +kernel
theorem d3_23 : decode prog_21_method_3_code 23 = .ok (.iconst 1, 1) := by decide +kernel
theorem d3_24 : decode prog_21_method_3_code 24 = .ok (.iadd, 1) := by decide +kernel
theorem d3_25 : decode prog_21_method_3_code 25 = .ok (.invokestatic 36, 3) := by decide +kernel
theorem d3_28 : decode prog_21_method_3_code 28 = .ok (.aload_n 0, 1) := by decide +kernel
theorem d3_29 : decode prog_21_method_3_code 29 = .ok (.getfield 16, 3) := by decide +kernel
theorem d3_32 : decode prog_21_method_3_code 32 = .ok (.aload_n 0, 1) := by decide +kernel
theorem d3_33 : decode prog_21_method_3_code 33 = .ok (.getfield 42, 3) := by decide +kernel
theorem d3_36 : decode prog_21_method_3_code 36 = .ok (.invokestatic 36, 3) := by decide +kernel
theorem d3_39 : decode prog_21_method_3_code 39 = .ok (.invokespecial 47, 3) := by decide +kernel
theorem pd___I_I_I_V : parseMethodDescriptor "([I[I[I)V" = some ⟨[(.array .int), (.array .int), (.array .int)], none⟩ := by decide +kernel
theorem d3_42 : decode prog_21_method_3_code 42 = .ok (.areturn, 1) := by decide +kernel
def Q_rmBU (Z : State) (a1 : Addr) (dd ds dp : Addr) (dl sl pl dc pc : Nat) (df sf pf : Nat → Int32) (h0 : Heap) (n0 : Nat) (v : Option Value) (h : Heap) (L : List Loc) : Prop := ∃ r xd xs xp, v = some (.ref r) ∧ Fr n0 L ∧ Keep h0 h [] ∧ own_Po Z h n0 r xd xs xp dc pc df sf pf
set_option maxRecDepth 65536 in
set_option maxHeartbeats 40000000 in
theorem rmBU (l : Launch) (Z : State) (a0 : Array Value) (hw : ∀ d ∈ tables_1, d.before a0 Z = true) (ws : List Jvm.Cond) (a1 : Addr) (dd ds dp : Addr) (dl sl pl dc pc : Nat) (df sf pf : Nat → Int32) (h0 : Heap) (n0 : Nat) (Z0 : n0 ≤ h0.size) (B : own_Bd Z h0 n0 a1 dd ds dp dl sl pl dc (dc + 1) pc df sf pf) (hdc : dc ≤ 3) (hpc : pc ≤ 3) :
    MetFree l (⟨"com/example/esteem/esteem/index/Postings$Builder", "build", "()Lcom/example/esteem/esteem/index/Postings;"⟩ : MethodName) (head1 (Jvm.Cond.code (⟨"com/example/esteem/esteem/index/Postings$Builder", "build", "()Lcom/example/esteem/esteem/index/Postings;"⟩ : MethodName) prog_21_method_3_code 1 (some (.object "com/example/esteem/esteem/index/Postings")) :: ws) ({ frames := 3, cells := 4, slots := 13, locals := 90 } : Room)) (fun a U => a = #[(.ref a1)] ∧ Z.Warmed39 U.vm ∧ U.heap = h0) (fun _ _ _ _ _ => True) (fun _ U o U' => ∃ v L, o = .returned v ∧ Q_rmBU Z a1 dd ds dp dl sl pl dc pc df sf pf h0 n0 v U'.heap L ∧ FrameEnd U o U' L ({ frames := 3, cells := 4, slots := 13, locals := 90 } : Room).cells ({ frames := 3, cells := 4, slots := 13, locals := 90 } : Room).slots) := by
  refine MetFree.of_bodySF (plainFor_of_name pn_com_example_esteem_esteem_index_Postings_Builder) hisR ?_
  intro p e s m args below meth c s₁ Bd hml0 hP hK
  obtain ⟨rfl, hZ, hh⟩ := hP
  have hx := Bd.exec
  have hby := Bd.bytes
  have hml : c.maxLocals = 1 := hml0
  have hown : s.vm.findClass "com/example/esteem/esteem/index/Postings$Builder" = some m.cls := findClass_of_methodNamed Bd.named
  have hnm := (name_of_methodNamed Bd.named Bd.method).1
  have X0 : Stand p l e ({ frames := 3, cells := 4, slots := 13, locals := 90 } : Room) s m #[(.ref a1)] below meth c s₁ [] 0 0 := Stand.of_body Bd
  have e0 : s₁.heap = h0 := by rw [← hh, Bd.state]; rfl
  have N0 := Fr.nil n0
  have pre0 : ∀ t, Steps p.tables e below (s₁.setTop (mkF m 0 #[.val (.ref a1)] [])) t → Steps p.tables e below (s₁.setTop (entryFrame m #[(.ref a1)] 1)) t := fun t kT => castTop (ef_rmBU m a1) kT
  obtain ⟨ks, hks⟩ : ∃ ks, ks = dc + 1 := ⟨_, rfl⟩
  rw [← hks] at B
  obtain ⟨⟨F0, F1, F2, F3, F4, E0⟩, ⟨⟨gd, VD, hgd⟩, ⟨gs, VS, hgs⟩, ⟨gp, VP, hgp⟩⟩, ⟨n1, n2, n3, n4, n5, n6⟩, ⟨q0, q1, q2, q3⟩, ⟨b0, b1, b2, b3, b4, b5, b6, b7⟩⟩ := id B
  have pre1 : ∀ t, Steps p.tables e below (s₁.setTop (mkF m 0 #[.val (.ref a1)] [])) t → Steps p.tables e below (s₁.setTop (entryFrame m #[(.ref a1)] 1)) t := fun t kT => pre0 t (by
    exact kT)
  obtain ⟨T2, h2, X2, e2, E2, A2, D2, -, st2⟩ := newO X0 hx hZ hown (hw _ (List.mem_of_getElem? (i := 25) rfl)) (hw _ (List.mem_of_getElem? (i := 26) rfl)) (hw _ (List.mem_of_getElem? (i := 27) rfl)) e0 (g := (mkF m 0 #[.val (.ref a1)] [])) rfl (hb hby d3_0) (by decide) (by decide)
  obtain ⟨b1, g2⟩ : ∃ z, z = h0.size := ⟨_, rfl⟩
  rw [← g2] at A2 D2 st2
  have pre3 : ∀ t, Steps p.tables e below (T2.setTop (mkF m 3 #[.val (.ref a1)] [(.ref b1)])) t → Steps p.tables e below (s₁.setTop (entryFrame m #[(.ref a1)] 1)) t := fun t kT => pre1 t (st2 t kT)
  have ne_a1_b1 : a1 ≠ b1 := Nat.ne_of_lt (Nat.lt_of_lt_of_le F0.lt (Nat.le_of_eq g2.symm))
  have ne_dd_b1 : dd ≠ b1 := Nat.ne_of_lt (Nat.lt_of_lt_of_le VD.lt (Nat.le_of_eq g2.symm))
  have ne_ds_b1 : ds ≠ b1 := Nat.ne_of_lt (Nat.lt_of_lt_of_le VS.lt (Nat.le_of_eq g2.symm))
  have ne_dp_b1 : dp ≠ b1 := Nat.ne_of_lt (Nat.lt_of_lt_of_le VP.lt (Nat.le_of_eq g2.symm))
  have g_b1 : n0 ≤ b1 := Nat.le_trans Z0 (Nat.le_of_eq g2.symm)
  have fr_b1 : h0.size ≤ b1 := Nat.le_trans (Keep.refl h0 []).1 (Nat.le_of_eq g2.symm)
  have F0_e2 : Fld Z h2 a1 "com/example/esteem/esteem/index/Postings$Builder" "docs" "[I" (.ref dd) := F0.ext E2
  have F1_e2 : Fld Z h2 a1 "com/example/esteem/esteem/index/Postings$Builder" "starts" "[I" (.ref ds) := F1.ext E2
  have F2_e2 : Fld Z h2 a1 "com/example/esteem/esteem/index/Postings$Builder" "positions" "[I" (.ref dp) := F2.ext E2
  have F3_e2 : Fld Z h2 a1 "com/example/esteem/esteem/index/Postings$Builder" "docCount" "I" (.int (Int32.ofNat dc)) := F3.ext E2
  have F4_e2 : Fld Z h2 a1 "com/example/esteem/esteem/index/Postings$Builder" "positionCount" "I" (.int (Int32.ofNat pc)) := F4.ext E2
  have E0_e2 : Exa Z h2 a1 "com/example/esteem/esteem/index/Postings$Builder" := E0.ext E2
  have VD_e2 : own_Ar Z h2 dd .int dl (fun i => .int (gd i)) := VD.ext E2
  have VS_e2 : own_Ar Z h2 ds .int sl (fun i => .int (gs i)) := VS.ext E2
  have VP_e2 : own_Ar Z h2 dp .int pl (fun i => .int (gp i)) := VP.ext E2
  have sz2 : n0 ≤ h2.size := Nat.le_trans Z0 E2.1
  have KK2 : Keep h0 h2 [] := (Keep.refl h0 []).ext E2
  have F_b1_docs : Fld Z h2 b1 "com/example/esteem/esteem/index/Postings" "docs" "[I" .null := D2 (Or.inr (hw _ (List.mem_of_getElem? (i := 49) rfl))) (ty := (.array .int)) (by decide)
  have F_b1_starts : Fld Z h2 b1 "com/example/esteem/esteem/index/Postings" "starts" "[I" .null := D2 (Or.inr (hw _ (List.mem_of_getElem? (i := 51) rfl))) (ty := (.array .int)) (by decide)
  have F_b1_positions : Fld Z h2 b1 "com/example/esteem/esteem/index/Postings" "positions" "[I" .null := D2 (Or.inr (hw _ (List.mem_of_getElem? (i := 53) rfl))) (ty := (.array .int)) (by decide)
  have pre4 : ∀ t, Steps p.tables e below (T2.setTop (mkF m 5 #[.val (.ref a1)] [(.ref a1), (.ref b1), (.ref b1)])) t → Steps p.tables e below (s₁.setTop (entryFrame m #[(.ref a1)] 1)) t := fun t kT => pre3 t (by
    show Steps p.tables e below (T2.setTop (mkF m 3 #[.val (.ref a1)] [(.ref b1)])) _
    refine XS.dup X2.here hx rfl (hb hby d3_3) rfl rfl ?_
    show Steps p.tables e below (T2.setTop (mkF m 4 #[.val (.ref a1)] [(.ref b1), (.ref b1)])) _
    refine XS.aloadN X2.here hx rfl (hb hby d3_4) rfl rfl ?_
    exact kT)
  obtain ⟨T5, X5, e5, st5⟩ := getF X2 hx hZ hown (host := "") (Or.inl (hw _ (List.mem_of_getElem? (i := 14) rfl))) Via.refl e2 F0_e2 (g := (mkF m 5 #[.val (.ref a1)] [(.ref a1), (.ref b1), (.ref b1)])) rfl rfl (hb hby d3_5)
  have pre6 : ∀ t, Steps p.tables e below (T5.setTop (mkF m 8 #[.val (.ref a1)] [(.ref dd), (.ref b1), (.ref b1)])) t → Steps p.tables e below (s₁.setTop (entryFrame m #[(.ref a1)] 1)) t := fun t kT => pre4 t (st5 t kT)
  have pre7 : ∀ t, Steps p.tables e below (T5.setTop (mkF m 9 #[.val (.ref a1)] [(.ref a1), (.ref dd), (.ref b1), (.ref b1)])) t → Steps p.tables e below (s₁.setTop (entryFrame m #[(.ref a1)] 1)) t := fun t kT => pre6 t (by
    show Steps p.tables e below (T5.setTop (mkF m 8 #[.val (.ref a1)] [(.ref dd), (.ref b1), (.ref b1)])) _
    refine XS.aloadN X5.here hx rfl (hb hby d3_8) rfl rfl ?_
    exact kT)
  obtain ⟨T8, X8, e8, st8⟩ := getF X5 hx hZ hown (host := "") (Or.inl (hw _ (List.mem_of_getElem? (i := 28) rfl))) Via.refl e5 F3_e2 (g := (mkF m 9 #[.val (.ref a1)] [(.ref a1), (.ref dd), (.ref b1), (.ref b1)])) rfl rfl (hb hby d3_9)
  have pre9 : ∀ t, Steps p.tables e below (T8.setTop (mkF m 12 #[.val (.ref a1)] [(.int (Int32.ofNat dc)), (.ref dd), (.ref b1), (.ref b1)])) t → Steps p.tables e below (s₁.setTop (entryFrame m #[(.ref a1)] 1)) t := fun t kT => pre7 t (st8 t kT)
  have pre10 : ∀ t, Steps p.tables e below (T8.setTop (mkF m 12 #[.val (.ref a1)] [(.int (Int32.ofNat dc)), (.ref dd), (.ref b1), (.ref b1)])) t → Steps p.tables e below (s₁.setTop (entryFrame m #[(.ref a1)] 1)) t := fun t kT => pre9 t (by
    exact kT)
  obtain ⟨T11, h11, X11, e11, E11, A11, st11⟩ := own_copy X8 hx hZ hown (hw _ (List.mem_of_getElem? (i := 30) rfl)) (hw _ (List.mem_of_getElem? (i := 31) rfl)) (fun a' => own_tab hZ hw a') (hw _ (List.mem_of_getElem? (i := 32) rfl)) (hw _ (List.mem_of_getElem? (i := 33) rfl)) e8 VD_e2 (by omega) (by omega) (g := (mkF m 12 #[.val (.ref a1)] [(.int (Int32.ofNat dc)), (.ref dd), (.ref b1), (.ref b1)])) rfl (by rw [hml]; rfl) rfl (W := 2) (by show 2 * 0 + _ ≤ _; exact Nat.le_of_eq rfl) (hb hby d3_12) (by decide) (by decide) (by decide) (by show 0 + 3 + dc ≤ 13; omega)
  obtain ⟨xd, g11⟩ : ∃ z, z = h2.size := ⟨_, rfl⟩
  rw [← g11] at A11 st11
  have ne_a1_xd : a1 ≠ xd := Nat.ne_of_lt (Nat.lt_of_lt_of_le F0_e2.lt (Nat.le_of_eq g11.symm))
  have ne_dd_xd : dd ≠ xd := Nat.ne_of_lt (Nat.lt_of_lt_of_le VD_e2.lt (Nat.le_of_eq g11.symm))
  have ne_ds_xd : ds ≠ xd := Nat.ne_of_lt (Nat.lt_of_lt_of_le VS_e2.lt (Nat.le_of_eq g11.symm))
  have ne_dp_xd : dp ≠ xd := Nat.ne_of_lt (Nat.lt_of_lt_of_le VP_e2.lt (Nat.le_of_eq g11.symm))
  have ne_b1_xd : b1 ≠ xd := Nat.ne_of_lt (Nat.lt_of_lt_of_le A2.lt (Nat.le_of_eq g11.symm))
  have g_xd : n0 ≤ xd := Nat.le_trans sz2 (Nat.le_of_eq g11.symm)
  have fr_xd : h0.size ≤ xd := Nat.le_trans KK2.1 (Nat.le_of_eq g11.symm)
  have pre12 : ∀ t, Steps p.tables e below (T11.setTop (mkF m 15 #[.val (.ref a1)] [(.ref xd), (.ref b1), (.ref b1)])) t → Steps p.tables e below (s₁.setTop (entryFrame m #[(.ref a1)] 1)) t := fun t kT => pre10 t (st11 t kT)
  have F0_e11 : Fld Z h11 a1 "com/example/esteem/esteem/index/Postings$Builder" "docs" "[I" (.ref dd) := F0_e2.ext E11
  have F1_e11 : Fld Z h11 a1 "com/example/esteem/esteem/index/Postings$Builder" "starts" "[I" (.ref ds) := F1_e2.ext E11
  have F2_e11 : Fld Z h11 a1 "com/example/esteem/esteem/index/Postings$Builder" "positions" "[I" (.ref dp) := F2_e2.ext E11
  have F3_e11 : Fld Z h11 a1 "com/example/esteem/esteem/index/Postings$Builder" "docCount" "I" (.int (Int32.ofNat dc)) := F3_e2.ext E11
  have F4_e11 : Fld Z h11 a1 "com/example/esteem/esteem/index/Postings$Builder" "positionCount" "I" (.int (Int32.ofNat pc)) := F4_e2.ext E11
  have E0_e11 : Exa Z h11 a1 "com/example/esteem/esteem/index/Postings$Builder" := E0_e2.ext E11
  have VD_e11 : own_Ar Z h11 dd .int dl (fun i => .int (gd i)) := VD_e2.ext E11
  have VS_e11 : own_Ar Z h11 ds .int sl (fun i => .int (gs i)) := VS_e2.ext E11
  have VP_e11 : own_Ar Z h11 dp .int pl (fun i => .int (gp i)) := VP_e2.ext E11
  have A2_e11 : Exa Z h11 b1 "com/example/esteem/esteem/index/Postings" := A2.ext E11
  have F_b1_docs_e11 : Fld Z h11 b1 "com/example/esteem/esteem/index/Postings" "docs" "[I" .null := F_b1_docs.ext E11
  have F_b1_starts_e11 : Fld Z h11 b1 "com/example/esteem/esteem/index/Postings" "starts" "[I" .null := F_b1_starts.ext E11
  have F_b1_positions_e11 : Fld Z h11 b1 "com/example/esteem/esteem/index/Postings" "positions" "[I" .null := F_b1_positions.ext E11
  have sz11 : n0 ≤ h11.size := Nat.le_trans sz2 E11.1
  have KK11 : Keep h0 h11 [] := KK2.ext E11
  have V_xd : own_Ar Z h11 xd .int dc (fun i => .int (if i < dl then gd i else 0)) := A11
  have pre13 : ∀ t, Steps p.tables e below (T11.setTop (mkF m 16 #[.val (.ref a1)] [(.ref a1), (.ref xd), (.ref b1), (.ref b1)])) t → Steps p.tables e below (s₁.setTop (entryFrame m #[(.ref a1)] 1)) t := fun t kT => pre12 t (by
    show Steps p.tables e below (T11.setTop (mkF m 15 #[.val (.ref a1)] [(.ref xd), (.ref b1), (.ref b1)])) _
    refine XS.aloadN X11.here hx rfl (hb hby d3_15) rfl rfl ?_
    exact kT)
  obtain ⟨T14, X14, e14, st14⟩ := getF X11 hx hZ hown (host := "") (Or.inl (hw _ (List.mem_of_getElem? (i := 16) rfl))) Via.refl e11 F1_e11 (g := (mkF m 16 #[.val (.ref a1)] [(.ref a1), (.ref xd), (.ref b1), (.ref b1)])) rfl rfl (hb hby d3_16)
  have pre15 : ∀ t, Steps p.tables e below (T14.setTop (mkF m 19 #[.val (.ref a1)] [(.ref ds), (.ref xd), (.ref b1), (.ref b1)])) t → Steps p.tables e below (s₁.setTop (entryFrame m #[(.ref a1)] 1)) t := fun t kT => pre13 t (st14 t kT)
  have pre16 : ∀ t, Steps p.tables e below (T14.setTop (mkF m 20 #[.val (.ref a1)] [(.ref a1), (.ref ds), (.ref xd), (.ref b1), (.ref b1)])) t → Steps p.tables e below (s₁.setTop (entryFrame m #[(.ref a1)] 1)) t := fun t kT => pre15 t (by
    show Steps p.tables e below (T14.setTop (mkF m 19 #[.val (.ref a1)] [(.ref ds), (.ref xd), (.ref b1), (.ref b1)])) _
    refine XS.aloadN X14.here hx rfl (hb hby d3_19) rfl rfl ?_
    exact kT)
  obtain ⟨T17, X17, e17, st17⟩ := getF X14 hx hZ hown (host := "") (Or.inl (hw _ (List.mem_of_getElem? (i := 28) rfl))) Via.refl e14 F3_e11 (g := (mkF m 20 #[.val (.ref a1)] [(.ref a1), (.ref ds), (.ref xd), (.ref b1), (.ref b1)])) rfl rfl (hb hby d3_20)
  have pre18 : ∀ t, Steps p.tables e below (T17.setTop (mkF m 23 #[.val (.ref a1)] [(.int (Int32.ofNat dc)), (.ref ds), (.ref xd), (.ref b1), (.ref b1)])) t → Steps p.tables e below (s₁.setTop (entryFrame m #[(.ref a1)] 1)) t := fun t kT => pre16 t (st17 t kT)
  have pre19 : ∀ t, Steps p.tables e below (T17.setTop (mkF m 25 #[.val (.ref a1)] [(.int ((Int32.ofNat dc) + (1 : Int32))), (.ref ds), (.ref xd), (.ref b1), (.ref b1)])) t → Steps p.tables e below (s₁.setTop (entryFrame m #[(.ref a1)] 1)) t := fun t kT => pre18 t (by
    show Steps p.tables e below (T17.setTop (mkF m 23 #[.val (.ref a1)] [(.int (Int32.ofNat dc)), (.ref ds), (.ref xd), (.ref b1), (.ref b1)])) _
    refine XS.iconst X17.here hx rfl (hb hby d3_23) ?_
    show Steps p.tables e below (T17.setTop (mkF m 24 #[.val (.ref a1)] [(.int (1 : Int32)), (.int (Int32.ofNat dc)), (.ref ds), (.ref xd), (.ref b1), (.ref b1)])) _
    refine XS.iadd X17.here hx rfl (hb hby d3_24) rfl ?_
    exact kT)
  rw [own_one] at pre19
  have pre20 : ∀ t, Steps p.tables e below (T17.setTop (mkF m 25 #[.val (.ref a1)] [(.int (Int32.ofNat (dc + 1))), (.ref ds), (.ref xd), (.ref b1), (.ref b1)])) t → Steps p.tables e below (s₁.setTop (entryFrame m #[(.ref a1)] 1)) t := fun t kT => pre19 t (by
    exact kT)
  obtain ⟨T21, h21, X21, e21, E21, A21, st21⟩ := own_copy X17 hx hZ hown (hw _ (List.mem_of_getElem? (i := 30) rfl)) (hw _ (List.mem_of_getElem? (i := 31) rfl)) (fun a' => own_tab hZ hw a') (hw _ (List.mem_of_getElem? (i := 32) rfl)) (hw _ (List.mem_of_getElem? (i := 33) rfl)) e17 VS_e11 (by omega) (by omega) (g := (mkF m 25 #[.val (.ref a1)] [(.int (Int32.ofNat (dc + 1))), (.ref ds), (.ref xd), (.ref b1), (.ref b1)])) rfl (by rw [hml]; rfl) rfl (W := 3) (by show 2 * 0 + _ ≤ _; exact Nat.le_of_eq rfl) (hb hby d3_25) (by decide) (by decide) (by decide) (by show 0 + 3 + dc + (dc + 1) ≤ 13; omega)
  obtain ⟨xs, g21⟩ : ∃ z, z = h11.size := ⟨_, rfl⟩
  rw [← g21] at A21 st21
  have ne_a1_xs : a1 ≠ xs := Nat.ne_of_lt (Nat.lt_of_lt_of_le F0_e11.lt (Nat.le_of_eq g21.symm))
  have ne_dd_xs : dd ≠ xs := Nat.ne_of_lt (Nat.lt_of_lt_of_le VD_e11.lt (Nat.le_of_eq g21.symm))
  have ne_ds_xs : ds ≠ xs := Nat.ne_of_lt (Nat.lt_of_lt_of_le VS_e11.lt (Nat.le_of_eq g21.symm))
  have ne_dp_xs : dp ≠ xs := Nat.ne_of_lt (Nat.lt_of_lt_of_le VP_e11.lt (Nat.le_of_eq g21.symm))
  have ne_b1_xs : b1 ≠ xs := Nat.ne_of_lt (Nat.lt_of_lt_of_le A2_e11.lt (Nat.le_of_eq g21.symm))
  have ne_xd_xs : xd ≠ xs := Nat.ne_of_lt (Nat.lt_of_lt_of_le V_xd.lt (Nat.le_of_eq g21.symm))
  have g_xs : n0 ≤ xs := Nat.le_trans sz11 (Nat.le_of_eq g21.symm)
  have fr_xs : h0.size ≤ xs := Nat.le_trans KK11.1 (Nat.le_of_eq g21.symm)
  have pre22 : ∀ t, Steps p.tables e below (T21.setTop (mkF m 28 #[.val (.ref a1)] [(.ref xs), (.ref xd), (.ref b1), (.ref b1)])) t → Steps p.tables e below (s₁.setTop (entryFrame m #[(.ref a1)] 1)) t := fun t kT => pre20 t (st21 t kT)
  have F0_e21 : Fld Z h21 a1 "com/example/esteem/esteem/index/Postings$Builder" "docs" "[I" (.ref dd) := F0_e11.ext E21
  have F1_e21 : Fld Z h21 a1 "com/example/esteem/esteem/index/Postings$Builder" "starts" "[I" (.ref ds) := F1_e11.ext E21
  have F2_e21 : Fld Z h21 a1 "com/example/esteem/esteem/index/Postings$Builder" "positions" "[I" (.ref dp) := F2_e11.ext E21
  have F3_e21 : Fld Z h21 a1 "com/example/esteem/esteem/index/Postings$Builder" "docCount" "I" (.int (Int32.ofNat dc)) := F3_e11.ext E21
  have F4_e21 : Fld Z h21 a1 "com/example/esteem/esteem/index/Postings$Builder" "positionCount" "I" (.int (Int32.ofNat pc)) := F4_e11.ext E21
  have E0_e21 : Exa Z h21 a1 "com/example/esteem/esteem/index/Postings$Builder" := E0_e11.ext E21
  have VD_e21 : own_Ar Z h21 dd .int dl (fun i => .int (gd i)) := VD_e11.ext E21
  have VS_e21 : own_Ar Z h21 ds .int sl (fun i => .int (gs i)) := VS_e11.ext E21
  have VP_e21 : own_Ar Z h21 dp .int pl (fun i => .int (gp i)) := VP_e11.ext E21
  have A2_e21 : Exa Z h21 b1 "com/example/esteem/esteem/index/Postings" := A2_e11.ext E21
  have F_b1_docs_e21 : Fld Z h21 b1 "com/example/esteem/esteem/index/Postings" "docs" "[I" .null := F_b1_docs_e11.ext E21
  have F_b1_starts_e21 : Fld Z h21 b1 "com/example/esteem/esteem/index/Postings" "starts" "[I" .null := F_b1_starts_e11.ext E21
  have F_b1_positions_e21 : Fld Z h21 b1 "com/example/esteem/esteem/index/Postings" "positions" "[I" .null := F_b1_positions_e11.ext E21
  have V_xd_e21 : own_Ar Z h21 xd .int dc (fun i => .int (if i < dl then gd i else 0)) := V_xd.ext E21
  have sz21 : n0 ≤ h21.size := Nat.le_trans sz11 E21.1
  have KK21 : Keep h0 h21 [] := KK11.ext E21
  have V_xs : own_Ar Z h21 xs .int (dc + 1) (fun i => .int (if i < sl then gs i else 0)) := A21
  have pre23 : ∀ t, Steps p.tables e below (T21.setTop (mkF m 29 #[.val (.ref a1)] [(.ref a1), (.ref xs), (.ref xd), (.ref b1), (.ref b1)])) t → Steps p.tables e below (s₁.setTop (entryFrame m #[(.ref a1)] 1)) t := fun t kT => pre22 t (by
    show Steps p.tables e below (T21.setTop (mkF m 28 #[.val (.ref a1)] [(.ref xs), (.ref xd), (.ref b1), (.ref b1)])) _
    refine XS.aloadN X21.here hx rfl (hb hby d3_28) rfl rfl ?_
    exact kT)
  obtain ⟨T24, X24, e24, st24⟩ := getF X21 hx hZ hown (host := "") (Or.inl (hw _ (List.mem_of_getElem? (i := 18) rfl))) Via.refl e21 F2_e21 (g := (mkF m 29 #[.val (.ref a1)] [(.ref a1), (.ref xs), (.ref xd), (.ref b1), (.ref b1)])) rfl rfl (hb hby d3_29)
  have pre25 : ∀ t, Steps p.tables e below (T24.setTop (mkF m 32 #[.val (.ref a1)] [(.ref dp), (.ref xs), (.ref xd), (.ref b1), (.ref b1)])) t → Steps p.tables e below (s₁.setTop (entryFrame m #[(.ref a1)] 1)) t := fun t kT => pre23 t (st24 t kT)
  have pre26 : ∀ t, Steps p.tables e below (T24.setTop (mkF m 33 #[.val (.ref a1)] [(.ref a1), (.ref dp), (.ref xs), (.ref xd), (.ref b1), (.ref b1)])) t → Steps p.tables e below (s₁.setTop (entryFrame m #[(.ref a1)] 1)) t := fun t kT => pre25 t (by
    show Steps p.tables e below (T24.setTop (mkF m 32 #[.val (.ref a1)] [(.ref dp), (.ref xs), (.ref xd), (.ref b1), (.ref b1)])) _
    refine XS.aloadN X24.here hx rfl (hb hby d3_32) rfl rfl ?_
    exact kT)
  obtain ⟨T27, X27, e27, st27⟩ := getF X24 hx hZ hown (host := "") (Or.inl (hw _ (List.mem_of_getElem? (i := 42) rfl))) Via.refl e24 F4_e21 (g := (mkF m 33 #[.val (.ref a1)] [(.ref a1), (.ref dp), (.ref xs), (.ref xd), (.ref b1), (.ref b1)])) rfl rfl (hb hby d3_33)
  have pre28 : ∀ t, Steps p.tables e below (T27.setTop (mkF m 36 #[.val (.ref a1)] [(.int (Int32.ofNat pc)), (.ref dp), (.ref xs), (.ref xd), (.ref b1), (.ref b1)])) t → Steps p.tables e below (s₁.setTop (entryFrame m #[(.ref a1)] 1)) t := fun t kT => pre26 t (st27 t kT)
  have pre29 : ∀ t, Steps p.tables e below (T27.setTop (mkF m 36 #[.val (.ref a1)] [(.int (Int32.ofNat pc)), (.ref dp), (.ref xs), (.ref xd), (.ref b1), (.ref b1)])) t → Steps p.tables e below (s₁.setTop (entryFrame m #[(.ref a1)] 1)) t := fun t kT => pre28 t (by
    exact kT)
  obtain ⟨T30, h30, X30, e30, E30, A30, st30⟩ := own_copy X27 hx hZ hown (hw _ (List.mem_of_getElem? (i := 30) rfl)) (hw _ (List.mem_of_getElem? (i := 31) rfl)) (fun a' => own_tab hZ hw a') (hw _ (List.mem_of_getElem? (i := 32) rfl)) (hw _ (List.mem_of_getElem? (i := 33) rfl)) e27 VP_e21 (by omega) (by omega) (g := (mkF m 36 #[.val (.ref a1)] [(.int (Int32.ofNat pc)), (.ref dp), (.ref xs), (.ref xd), (.ref b1), (.ref b1)])) rfl (by rw [hml]; rfl) rfl (W := 4) (by show 2 * 0 + _ ≤ _; exact Nat.le_of_eq rfl) (hb hby d3_36) (by decide) (by decide) (by decide) (by show 0 + 3 + dc + (dc + 1) + pc ≤ 13; omega)
  obtain ⟨xp, g30⟩ : ∃ z, z = h21.size := ⟨_, rfl⟩
  rw [← g30] at A30 st30
  have ne_a1_xp : a1 ≠ xp := Nat.ne_of_lt (Nat.lt_of_lt_of_le F0_e21.lt (Nat.le_of_eq g30.symm))
  have ne_dd_xp : dd ≠ xp := Nat.ne_of_lt (Nat.lt_of_lt_of_le VD_e21.lt (Nat.le_of_eq g30.symm))
  have ne_ds_xp : ds ≠ xp := Nat.ne_of_lt (Nat.lt_of_lt_of_le VS_e21.lt (Nat.le_of_eq g30.symm))
  have ne_dp_xp : dp ≠ xp := Nat.ne_of_lt (Nat.lt_of_lt_of_le VP_e21.lt (Nat.le_of_eq g30.symm))
  have ne_b1_xp : b1 ≠ xp := Nat.ne_of_lt (Nat.lt_of_lt_of_le A2_e21.lt (Nat.le_of_eq g30.symm))
  have ne_xd_xp : xd ≠ xp := Nat.ne_of_lt (Nat.lt_of_lt_of_le V_xd_e21.lt (Nat.le_of_eq g30.symm))
  have ne_xs_xp : xs ≠ xp := Nat.ne_of_lt (Nat.lt_of_lt_of_le V_xs.lt (Nat.le_of_eq g30.symm))
  have g_xp : n0 ≤ xp := Nat.le_trans sz21 (Nat.le_of_eq g30.symm)
  have fr_xp : h0.size ≤ xp := Nat.le_trans KK21.1 (Nat.le_of_eq g30.symm)
  have pre31 : ∀ t, Steps p.tables e below (T30.setTop (mkF m 39 #[.val (.ref a1)] [(.ref xp), (.ref xs), (.ref xd), (.ref b1), (.ref b1)])) t → Steps p.tables e below (s₁.setTop (entryFrame m #[(.ref a1)] 1)) t := fun t kT => pre29 t (st30 t kT)
  have F0_e30 : Fld Z h30 a1 "com/example/esteem/esteem/index/Postings$Builder" "docs" "[I" (.ref dd) := F0_e21.ext E30
  have F1_e30 : Fld Z h30 a1 "com/example/esteem/esteem/index/Postings$Builder" "starts" "[I" (.ref ds) := F1_e21.ext E30
  have F2_e30 : Fld Z h30 a1 "com/example/esteem/esteem/index/Postings$Builder" "positions" "[I" (.ref dp) := F2_e21.ext E30
  have F3_e30 : Fld Z h30 a1 "com/example/esteem/esteem/index/Postings$Builder" "docCount" "I" (.int (Int32.ofNat dc)) := F3_e21.ext E30
  have F4_e30 : Fld Z h30 a1 "com/example/esteem/esteem/index/Postings$Builder" "positionCount" "I" (.int (Int32.ofNat pc)) := F4_e21.ext E30
  have E0_e30 : Exa Z h30 a1 "com/example/esteem/esteem/index/Postings$Builder" := E0_e21.ext E30
  have VD_e30 : own_Ar Z h30 dd .int dl (fun i => .int (gd i)) := VD_e21.ext E30
  have VS_e30 : own_Ar Z h30 ds .int sl (fun i => .int (gs i)) := VS_e21.ext E30
  have VP_e30 : own_Ar Z h30 dp .int pl (fun i => .int (gp i)) := VP_e21.ext E30
  have A2_e30 : Exa Z h30 b1 "com/example/esteem/esteem/index/Postings" := A2_e21.ext E30
  have F_b1_docs_e30 : Fld Z h30 b1 "com/example/esteem/esteem/index/Postings" "docs" "[I" .null := F_b1_docs_e21.ext E30
  have F_b1_starts_e30 : Fld Z h30 b1 "com/example/esteem/esteem/index/Postings" "starts" "[I" .null := F_b1_starts_e21.ext E30
  have F_b1_positions_e30 : Fld Z h30 b1 "com/example/esteem/esteem/index/Postings" "positions" "[I" .null := F_b1_positions_e21.ext E30
  have V_xd_e30 : own_Ar Z h30 xd .int dc (fun i => .int (if i < dl then gd i else 0)) := V_xd_e21.ext E30
  have V_xs_e30 : own_Ar Z h30 xs .int (dc + 1) (fun i => .int (if i < sl then gs i else 0)) := V_xs.ext E30
  have sz30 : n0 ≤ h30.size := Nat.le_trans sz21 E30.1
  have KK30 : Keep h0 h30 [] := KK21.ext E30
  have V_xp : own_Ar Z h30 xp .int pc (fun i => .int (if i < pl then gp i else 0)) := A30
  have XF := own_st2 X30 (show 0 + 1 + 1 + 1 + 1 ≤ 4 from by decide) (show 0 + 3 + dc + (dc + 1) + pc ≤ 13 from by omega)
  have pre32 : ∀ t, Steps p.tables e below (T30.setTop (mkF m 39 #[.val (.ref a1)] [(.ref xp), (.ref xs), (.ref xd), (.ref b1), (.ref b1)])) t → Steps p.tables e below (s₁.setTop (entryFrame m #[(.ref a1)] 1)) t := fun t kT => pre31 t (by
    exact kT)
  obtain ⟨_, _, ⟨T33, L33, k33, n33⟩, -, X33, ⟨Lc33, hQ33, l33, y33, z33⟩, st33⟩ := XF.specialBackNest hx (y := (⟨"com/example/esteem/esteem/index/Postings", "<init>", "([I[I[I)V"⟩ : MethodName)) rfl hown (own_mvn hZ (hw _ (List.mem_of_getElem? (i := 44) rfl))) (mvT hZ (hw _ (List.mem_of_getElem? (i := 45) rfl))) (mvT hZ (hw _ (List.mem_of_getElem? (i := 46) rfl))) (by decide) (backOf (W := 1) (rmPI l Z a0 hw [] b1 xd xs xp h30 n0 sz30 F_b1_docs_e30 F_b1_starts_e30 F_b1_positions_e30 A2_e30 g_b1) hZ (hw _ (List.mem_of_getElem? (i := 46) rfl)) (hw _ (List.mem_of_getElem? (i := 27) rfl)) (by decide) (by decide)) (g := (mkF m 39 #[.val (.ref a1)] [(.ref xp), (.ref xs), (.ref xd), (.ref b1), (.ref b1)])) rfl (by rw [hml]; rfl) (Steps.refl _) (a := b1) (argsL := [(.ref xd), (.ref xs), (.ref xp)]) (rest := [(.ref b1)]) (lenOf pd___I_I_I_V rfl) rfl (by show 2 * 0 + _ ≤ _; exact Nat.le_of_eq rfl) (hb hby d3_39) (fun _ _ => ⟨rfl, e30, (by decide : 4 + 0 ≤ _), (by decide : 13 + 0 ≤ _)⟩)
  dsimp only [Pt.U, Pt.locs, Pt.cells, Pt.slots] at X33 l33 y33 z33 st33 hQ33
  have X33 := own_st X33 (y33.trans (show _ = 4 from rfl)) (z33.trans (show _ = 13 from rfl))
  obtain ⟨rfl, N33q, ky1, f1, f2, f3⟩ := hQ33
  have N33 := own_fr l33 N0 N33q
  have pre34 : ∀ t, Steps p.tables e below (T33.setTop (mkF m 42 #[.val (.ref a1)] [(.ref b1)])) t → Steps p.tables e below (s₁.setTop (entryFrame m #[(.ref a1)] 1)) t := fun t kT => pre32 t (st33.trans kT)
  have F0_e33 : Fld Z T33.heap a1 "com/example/esteem/esteem/index/Postings$Builder" "docs" "[I" (.ref dd) := F0_e30.keep ky1 (ninS ne_a1_b1 nin0)
  have F1_e33 : Fld Z T33.heap a1 "com/example/esteem/esteem/index/Postings$Builder" "starts" "[I" (.ref ds) := F1_e30.keep ky1 (ninS ne_a1_b1 nin0)
  have F2_e33 : Fld Z T33.heap a1 "com/example/esteem/esteem/index/Postings$Builder" "positions" "[I" (.ref dp) := F2_e30.keep ky1 (ninS ne_a1_b1 nin0)
  have F3_e33 : Fld Z T33.heap a1 "com/example/esteem/esteem/index/Postings$Builder" "docCount" "I" (.int (Int32.ofNat dc)) := F3_e30.keep ky1 (ninS ne_a1_b1 nin0)
  have F4_e33 : Fld Z T33.heap a1 "com/example/esteem/esteem/index/Postings$Builder" "positionCount" "I" (.int (Int32.ofNat pc)) := F4_e30.keep ky1 (ninS ne_a1_b1 nin0)
  have E0_e33 : Exa Z T33.heap a1 "com/example/esteem/esteem/index/Postings$Builder" := E0_e30.keep ky1
  have VD_e33 : own_Ar Z T33.heap dd .int dl (fun i => .int (gd i)) := VD_e30.keep ky1 (ninS ne_dd_b1 nin0)
  have VS_e33 : own_Ar Z T33.heap ds .int sl (fun i => .int (gs i)) := VS_e30.keep ky1 (ninS ne_ds_b1 nin0)
  have VP_e33 : own_Ar Z T33.heap dp .int pl (fun i => .int (gp i)) := VP_e30.keep ky1 (ninS ne_dp_b1 nin0)
  have A2_e33 : Exa Z T33.heap b1 "com/example/esteem/esteem/index/Postings" := A2_e30.keep ky1
  have V_xd_e33 : own_Ar Z T33.heap xd .int dc (fun i => .int (if i < dl then gd i else 0)) := V_xd_e30.keep ky1 (ninS (Ne.symm ne_b1_xd) nin0)
  have V_xs_e33 : own_Ar Z T33.heap xs .int (dc + 1) (fun i => .int (if i < sl then gs i else 0)) := V_xs_e30.keep ky1 (ninS (Ne.symm ne_b1_xs) nin0)
  have V_xp_e33 : own_Ar Z T33.heap xp .int pc (fun i => .int (if i < pl then gp i else 0)) := V_xp.keep ky1 (ninS (Ne.symm ne_b1_xp) nin0)
  have sz33 : n0 ≤ T33.heap.size := Nat.le_trans sz30 ky1.1
  have KK33 : Keep h0 T33.heap [] := Keep.trans KK30 ky1 (allS (Or.inr fr_b1) all0)
  have pre35 : ∀ t, Steps p.tables e below (T33.setTop (mkF m 42 #[.val (.ref a1)] [(.ref b1)])) t → Steps p.tables e below (s₁.setTop (entryFrame m #[(.ref a1)] 1)) t := fun t kT => pre34 t (by
    exact kT)
  obtain ⟨fs, hr, hrun, hended, hW, hsame⟩ := X33.leave (v := some (.ref b1)) (fun h => by rw [Bd.returns] at h; cases h)
  refine ⟨_, _, pre35 _ ?_, hrun, hended, _, _, rfl, ?_, ⟨_, rfl⟩, hW, hsame.mono (by decide) (by decide)⟩
  · exact retOut X33 hx Bd.returns rfl (Or.inr (Or.inr (Or.inr (Or.inr ⟨rfl, rfl, rfl⟩)))) (hb hby d3_42) hr
  · exact ⟨b1, xd, xs, xp, rfl, N33, KK33, ⟨f1, f2, f3, A2_e33⟩, own_Pf.grown V_xd_e33 hgd (by omega), own_Pf.grown V_xs_e33 (fun i hi => hgs i (by omega)) (by omega), own_Pf.grown V_xp_e33 hgp (by omega)⟩
theorem ef_rmDF (m : MethodId) (x0 : Addr) : entryFrame m #[(.ref x0)] 1 = mkF m 0 #[.val (.ref x0)] [] := by first | (simp [entryFrame, mkF, argsToLocals, Value.category]; done) | rfl
theorem d7_0 : decode prog_20_method_2_code 0 = .ok (.aload_n 0, 1) := by decide +kernel
theorem d7_1 : decode prog_20_method_2_code 1 = .ok (.getfield 7, 3) := by decide +kernel
theorem d7_4 : decode prog_20_method_2_code 4 = .ok (.arraylength, 1) := by decide +kernel
theorem d7_5 : decode prog_20_method_2_code 5 = .ok (.ireturn, 1) := by decide +kernel
def Q_rmDF (Z : State) (a1 : Addr) (dd ds dp : Addr) (dc pc : Nat) (df sf pf : Nat → Int32) (h0 : Heap) (n0 : Nat) (v : Option Value) (h : Heap) (L : List Loc) : Prop := v = some (.int (Int32.ofNat dc)) ∧ Fr n0 L ∧ h = h0
set_option maxRecDepth 65536 in
set_option maxHeartbeats 40000000 in
theorem rmDF (l : Launch) (Z : State) (a0 : Array Value) (hw : ∀ d ∈ tables_1, d.before a0 Z = true) (ws : List Jvm.Cond) (a1 : Addr) (dd ds dp : Addr) (dc pc : Nat) (df sf pf : Nat → Int32) (h0 : Heap) (n0 : Nat) (Z0 : n0 ≤ h0.size) (B : own_Po Z h0 n0 a1 dd ds dp dc pc df sf pf) (hdc : dc ≤ 3) (hpc : pc ≤ 3) :
    MetFree l (⟨"com/example/esteem/esteem/index/Postings", "docFreq", "()I"⟩ : MethodName) (head1 (Jvm.Cond.code (⟨"com/example/esteem/esteem/index/Postings", "docFreq", "()I"⟩ : MethodName) prog_20_method_2_code 1 (some .int) :: ws) ({ frames := 0, cells := 0, slots := 0, locals := 0 } : Room)) (fun a U => a = #[(.ref a1)] ∧ Z.Warmed39 U.vm ∧ U.heap = h0) (fun _ _ _ _ _ => True) (fun _ U o U' => ∃ v L, o = .returned v ∧ Q_rmDF Z a1 dd ds dp dc pc df sf pf h0 n0 v U'.heap L ∧ FrameEnd U o U' L ({ frames := 0, cells := 0, slots := 0, locals := 0 } : Room).cells ({ frames := 0, cells := 0, slots := 0, locals := 0 } : Room).slots) := by
  refine MetFree.of_bodySF (plainFor_of_name pn_com_example_esteem_esteem_index_Postings) hisR ?_
  intro p e s m args below meth c s₁ Bd hml0 hP hK
  obtain ⟨rfl, hZ, hh⟩ := hP
  have hx := Bd.exec
  have hby := Bd.bytes
  have hml : c.maxLocals = 1 := hml0
  have hown : s.vm.findClass "com/example/esteem/esteem/index/Postings" = some m.cls := findClass_of_methodNamed Bd.named
  have hnm := (name_of_methodNamed Bd.named Bd.method).1
  have X0 : Stand p l e ({ frames := 0, cells := 0, slots := 0, locals := 0 } : Room) s m #[(.ref a1)] below meth c s₁ [] 0 0 := Stand.of_body Bd
  have e0 : s₁.heap = h0 := by rw [← hh, Bd.state]; rfl
  have N0 := Fr.nil n0
  have pre0 : ∀ t, Steps p.tables e below (s₁.setTop (mkF m 0 #[.val (.ref a1)] [])) t → Steps p.tables e below (s₁.setTop (entryFrame m #[(.ref a1)] 1)) t := fun t kT => castTop (ef_rmDF m a1) kT
  obtain ⟨⟨F0, F1, F2, E0⟩, ⟨gd, VD, hgd⟩, ⟨gs, VS, hgs⟩, ⟨gp, VP, hgp⟩⟩ := id B
  have pre1 : ∀ t, Steps p.tables e below (s₁.setTop (mkF m 1 #[.val (.ref a1)] [(.ref a1)])) t → Steps p.tables e below (s₁.setTop (entryFrame m #[(.ref a1)] 1)) t := fun t kT => pre0 t (by
    show Steps p.tables e below (s₁.setTop (mkF m 0 #[.val (.ref a1)] [])) _
    refine XS.aloadN X0.here hx rfl (hb hby d7_0) rfl rfl ?_
    exact kT)
  obtain ⟨T2, X2, e2, st2⟩ := getF X0 hx hZ hown (host := "") (Or.inl (hw _ (List.mem_of_getElem? (i := 48) rfl))) Via.refl e0 F0 (g := (mkF m 1 #[.val (.ref a1)] [(.ref a1)])) rfl rfl (hb hby d7_1)
  have pre3 : ∀ t, Steps p.tables e below (T2.setTop (mkF m 4 #[.val (.ref a1)] [(.ref dd)])) t → Steps p.tables e below (s₁.setTop (entryFrame m #[(.ref a1)] 1)) t := fun t kT => pre1 t (st2 t kT)
  obtain ⟨co4, ⟨Ao4, Ko4⟩, So4, Ho4⟩ := id VD
  have pre5 : ∀ t, Steps p.tables e below (T2.setTop (mkF m 5 #[.val (.ref a1)] [(.int (Int32.ofNat dc))])) t → Steps p.tables e below (s₁.setTop (entryFrame m #[(.ref a1)] 1)) t := fun t kT => pre3 t (by
    show Steps p.tables e below (T2.setTop (mkF m 4 #[.val (.ref a1)] [(.ref dd)])) _
    refine X2.arraylength hx (by rw [e2]; exact Ao4.1) (State.isArrayOf_alike hZ.alike Ao4.2.1) (g := (mkF m 4 #[.val (.ref a1)] [(.ref dd)])) rfl rfl (hb hby d7_4) _ ?_
    rw [So4]
    exact kT)
  obtain ⟨fs, hr, hrun, hended, hW, hsame⟩ := X2.leave (v := some (.int (Int32.ofNat dc))) (fun h => by rw [Bd.returns] at h; cases h)
  refine ⟨_, _, pre5 _ ?_, hrun, hended, _, _, rfl, ?_, ⟨_, rfl⟩, hW, hsame.mono (by decide) (by decide)⟩
  · exact retI X2 hx Bd.returns (hb hby d7_5) hr
  · exact ⟨rfl, N0, e2⟩
theorem ef_rmDO (m : MethodId) (x0 : Addr) (x1 : Int32) : entryFrame m #[(.ref x0), (.int x1)] 2 = mkF m 0 #[.val (.ref x0), .val (.int x1)] [] := by first | (simp [entryFrame, mkF, argsToLocals, Value.category]; done) | rfl
theorem d10_0 : decode prog_20_method_3_code 0 = .ok (.aload_n 0, 1) := by decide +kernel
theorem d10_1 : decode prog_20_method_3_code 1 = .ok (.getfield 7, 3) := by decide +kernel
theorem d10_4 : decode prog_20_method_3_code 4 = .ok (.iload_n 1, 1) := by decide +kernel
theorem d10_5 : decode prog_20_method_3_code 5 = .ok (.iaload, 1) := by decide +kernel
theorem d10_6 : decode prog_20_method_3_code 6 = .ok (.ireturn, 1) := by decide +kernel
def Q_rmDO (Z : State) (a1 : Addr) (i : Nat) (dd ds dp : Addr) (dc pc : Nat) (df sf pf : Nat → Int32) (h0 : Heap) (n0 : Nat) (v : Option Value) (h : Heap) (L : List Loc) : Prop := v = some (.int (df i)) ∧ Fr n0 L ∧ h = h0
set_option maxRecDepth 65536 in
set_option maxHeartbeats 40000000 in
theorem rmDO (l : Launch) (Z : State) (a0 : Array Value) (hw : ∀ d ∈ tables_1, d.before a0 Z = true) (ws : List Jvm.Cond) (a1 : Addr) (i : Nat) (dd ds dp : Addr) (dc pc : Nat) (df sf pf : Nat → Int32) (h0 : Heap) (n0 : Nat) (Z0 : n0 ≤ h0.size) (B : own_Po Z h0 n0 a1 dd ds dp dc pc df sf pf) (hdc : dc ≤ 3) (hpc : pc ≤ 3) (hi : i < dc) :
    MetFree l (⟨"com/example/esteem/esteem/index/Postings", "doc", "(I)I"⟩ : MethodName) (head1 (Jvm.Cond.code (⟨"com/example/esteem/esteem/index/Postings", "doc", "(I)I"⟩ : MethodName) prog_20_method_3_code 2 (some .int) :: ws) ({ frames := 0, cells := 0, slots := 0, locals := 0 } : Room)) (fun a U => a = #[(.ref a1), (.int (Int32.ofNat i))] ∧ Z.Warmed39 U.vm ∧ U.heap = h0) (fun _ _ _ _ _ => True) (fun _ U o U' => ∃ v L, o = .returned v ∧ Q_rmDO Z a1 i dd ds dp dc pc df sf pf h0 n0 v U'.heap L ∧ FrameEnd U o U' L ({ frames := 0, cells := 0, slots := 0, locals := 0 } : Room).cells ({ frames := 0, cells := 0, slots := 0, locals := 0 } : Room).slots) := by
  refine MetFree.of_bodySF (plainFor_of_name pn_com_example_esteem_esteem_index_Postings) hisR ?_
  intro p e s m args below meth c s₁ Bd hml0 hP hK
  obtain ⟨rfl, hZ, hh⟩ := hP
  have hx := Bd.exec
  have hby := Bd.bytes
  have hml : c.maxLocals = 2 := hml0
  have hown : s.vm.findClass "com/example/esteem/esteem/index/Postings" = some m.cls := findClass_of_methodNamed Bd.named
  have hnm := (name_of_methodNamed Bd.named Bd.method).1
  have X0 : Stand p l e ({ frames := 0, cells := 0, slots := 0, locals := 0 } : Room) s m #[(.ref a1), (.int (Int32.ofNat i))] below meth c s₁ [] 0 0 := Stand.of_body Bd
  have e0 : s₁.heap = h0 := by rw [← hh, Bd.state]; rfl
  have N0 := Fr.nil n0
  have pre0 : ∀ t, Steps p.tables e below (s₁.setTop (mkF m 0 #[.val (.ref a1), .val (.int (Int32.ofNat i))] [])) t → Steps p.tables e below (s₁.setTop (entryFrame m #[(.ref a1), (.int (Int32.ofNat i))] 2)) t := fun t kT => castTop (ef_rmDO m a1 (Int32.ofNat i)) kT
  obtain ⟨⟨F0, F1, F2, E0⟩, ⟨gd, VD, hgd⟩, ⟨gs, VS, hgs⟩, ⟨gp, VP, hgp⟩⟩ := id B
  have pre1 : ∀ t, Steps p.tables e below (s₁.setTop (mkF m 1 #[.val (.ref a1), .val (.int (Int32.ofNat i))] [(.ref a1)])) t → Steps p.tables e below (s₁.setTop (entryFrame m #[(.ref a1), (.int (Int32.ofNat i))] 2)) t := fun t kT => pre0 t (by
    show Steps p.tables e below (s₁.setTop (mkF m 0 #[.val (.ref a1), .val (.int (Int32.ofNat i))] [])) _
    refine XS.aloadN X0.here hx rfl (hb hby d10_0) rfl rfl ?_
    exact kT)
  obtain ⟨T2, X2, e2, st2⟩ := getF X0 hx hZ hown (host := "") (Or.inl (hw _ (List.mem_of_getElem? (i := 48) rfl))) Via.refl e0 F0 (g := (mkF m 1 #[.val (.ref a1), .val (.int (Int32.ofNat i))] [(.ref a1)])) rfl rfl (hb hby d10_1)
  have pre3 : ∀ t, Steps p.tables e below (T2.setTop (mkF m 4 #[.val (.ref a1), .val (.int (Int32.ofNat i))] [(.ref dd)])) t → Steps p.tables e below (s₁.setTop (entryFrame m #[(.ref a1), (.int (Int32.ofNat i))] 2)) t := fun t kT => pre1 t (st2 t kT)
  obtain ⟨co4, ⟨Ao4, Ko4⟩, So4, Ho4⟩ := id VD
  have lo4 := own_ld So4 Ho4 (j := (Int32.ofNat i)) (i := i) (own_n0 (show i < 2 ^ 31 by omega)) (own_n32 (show i < 2 ^ 31 by omega)) hi (v := (.int (df i))) (congrArg Value.int (hgd i hi))
  have pre5 : ∀ t, Steps p.tables e below (T2.setTop (mkF m 6 #[.val (.ref a1), .val (.int (Int32.ofNat i))] [(.int (df i))])) t → Steps p.tables e below (s₁.setTop (entryFrame m #[(.ref a1), (.int (Int32.ofNat i))] 2)) t := fun t kT => pre3 t (by
    show Steps p.tables e below (T2.setTop (mkF m 4 #[.val (.ref a1), .val (.int (Int32.ofNat i))] [(.ref dd)])) _
    refine XS.iloadN X2.here hx rfl (hb hby d10_4) rfl ?_
    show Steps p.tables e below (T2.setTop (mkF m 5 #[.val (.ref a1), .val (.int (Int32.ofNat i))] [(.int (Int32.ofNat i)), (.ref dd)])) _
    refine X2.iaload hx (j := (Int32.ofNat i)) (v := (.int (df i))) (by rw [e2]; exact Ao4.1) (State.isArrayOf_alike hZ.alike Ao4.2.1) Ao4.2.2 lo4.1 lo4.2 (g := (mkF m 5 #[.val (.ref a1), .val (.int (Int32.ofNat i))] [(.int (Int32.ofNat i)), (.ref dd)])) rfl rfl (hb hby d10_5) _ ?_
    exact kT)
  obtain ⟨fs, hr, hrun, hended, hW, hsame⟩ := X2.leave (v := some (.int (df i))) (fun h => by rw [Bd.returns] at h; cases h)
  refine ⟨_, _, pre5 _ ?_, hrun, hended, _, _, rfl, ?_, ⟨_, rfl⟩, hW, hsame.mono (by decide) (by decide)⟩
  · exact retI X2 hx Bd.returns (hb hby d10_6) hr
  · exact ⟨rfl, N0, e2⟩
theorem ef_rmPS (m : MethodId) (x0 : Addr) (x1 : Int32) (x2 : Int32) : entryFrame m #[(.ref x0), (.int x1), (.int x2)] 3 = mkF m 0 #[.val (.ref x0), .val (.int x1), .val (.int x2)] [] := by first | (simp [entryFrame, mkF, argsToLocals, Value.category]; done) | rfl
theorem d11_0 : decode prog_20_method_5_code 0 = .ok (.aload_n 0, 1) := by decide +kernel
theorem d11_1 : decode prog_20_method_5_code 1 = .ok (.getfield 16, 3) := by decide +kernel
theorem d11_4 : decode prog_20_method_5_code 4 = .ok (.aload_n 0, 1) := by decide +kernel
theorem d11_5 : decode prog_20_method_5_code 5 = .ok (.getfield 13, 3) := by decide +kernel
theorem d11_8 : decode prog_20_method_5_code 8 = .ok (.iload_n 1, 1) := by decide +kernel
theorem d11_9 : decode prog_20_method_5_code 9 = .ok (.iaload, 1) := by decide +kernel
theorem d11_10 : decode prog_20_method_5_code 10 = .ok (.iload_n 2, 1) := by decide +kernel
theorem d11_11 : decode prog_20_method_5_code 11 = .ok (.iadd, 1) := by decide +kernel
theorem d11_12 : decode prog_20_method_5_code 12 = .ok (.iaload, 1) := by decide +kernel
theorem d11_13 : decode prog_20_method_5_code 13 = .ok (.ireturn, 1) := by decide +kernel
def Q_rmPS (Z : State) (a1 : Addr) (p2 : Int32) (i k : Nat) (dd ds dp : Addr) (dc pc : Nat) (df sf pf : Nat → Int32) (h0 : Heap) (n0 : Nat) (v : Option Value) (h : Heap) (L : List Loc) : Prop := v = some (.int (pf k)) ∧ Fr n0 L ∧ h = h0
set_option maxRecDepth 65536 in
set_option maxHeartbeats 40000000 in
theorem rmPS (l : Launch) (Z : State) (a0 : Array Value) (hw : ∀ d ∈ tables_1, d.before a0 Z = true) (ws : List Jvm.Cond) (a1 : Addr) (p2 : Int32) (i k : Nat) (dd ds dp : Addr) (dc pc : Nat) (df sf pf : Nat → Int32) (h0 : Heap) (n0 : Nat) (Z0 : n0 ≤ h0.size) (B : own_Po Z h0 n0 a1 dd ds dp dc pc df sf pf) (hdc : dc ≤ 3) (hpc : pc ≤ 3) (hi : i < dc + 1) (hk : k < pc) (hs : sf i + p2 = Int32.ofNat k) :
    MetFree l (⟨"com/example/esteem/esteem/index/Postings", "position", "(II)I"⟩ : MethodName) (head1 (Jvm.Cond.code (⟨"com/example/esteem/esteem/index/Postings", "position", "(II)I"⟩ : MethodName) prog_20_method_5_code 3 (some .int) :: ws) ({ frames := 0, cells := 0, slots := 0, locals := 0 } : Room)) (fun a U => a = #[(.ref a1), (.int (Int32.ofNat i)), (.int p2)] ∧ Z.Warmed39 U.vm ∧ U.heap = h0) (fun _ _ _ _ _ => True) (fun _ U o U' => ∃ v L, o = .returned v ∧ Q_rmPS Z a1 p2 i k dd ds dp dc pc df sf pf h0 n0 v U'.heap L ∧ FrameEnd U o U' L ({ frames := 0, cells := 0, slots := 0, locals := 0 } : Room).cells ({ frames := 0, cells := 0, slots := 0, locals := 0 } : Room).slots) := by
  refine MetFree.of_bodySF (plainFor_of_name pn_com_example_esteem_esteem_index_Postings) hisR ?_
  intro p e s m args below meth c s₁ Bd hml0 hP hK
  obtain ⟨rfl, hZ, hh⟩ := hP
  have hx := Bd.exec
  have hby := Bd.bytes
  have hml : c.maxLocals = 3 := hml0
  have hown : s.vm.findClass "com/example/esteem/esteem/index/Postings" = some m.cls := findClass_of_methodNamed Bd.named
  have hnm := (name_of_methodNamed Bd.named Bd.method).1
  have X0 : Stand p l e ({ frames := 0, cells := 0, slots := 0, locals := 0 } : Room) s m #[(.ref a1), (.int (Int32.ofNat i)), (.int p2)] below meth c s₁ [] 0 0 := Stand.of_body Bd
  have e0 : s₁.heap = h0 := by rw [← hh, Bd.state]; rfl
  have N0 := Fr.nil n0
  have pre0 : ∀ t, Steps p.tables e below (s₁.setTop (mkF m 0 #[.val (.ref a1), .val (.int (Int32.ofNat i)), .val (.int p2)] [])) t → Steps p.tables e below (s₁.setTop (entryFrame m #[(.ref a1), (.int (Int32.ofNat i)), (.int p2)] 3)) t := fun t kT => castTop (ef_rmPS m a1 (Int32.ofNat i) p2) kT
  obtain ⟨⟨F0, F1, F2, E0⟩, ⟨gd, VD, hgd⟩, ⟨gs, VS, hgs⟩, ⟨gp, VP, hgp⟩⟩ := id B
  have pre1 : ∀ t, Steps p.tables e below (s₁.setTop (mkF m 1 #[.val (.ref a1), .val (.int (Int32.ofNat i)), .val (.int p2)] [(.ref a1)])) t → Steps p.tables e below (s₁.setTop (entryFrame m #[(.ref a1), (.int (Int32.ofNat i)), (.int p2)] 3)) t := fun t kT => pre0 t (by
    show Steps p.tables e below (s₁.setTop (mkF m 0 #[.val (.ref a1), .val (.int (Int32.ofNat i)), .val (.int p2)] [])) _
    refine XS.aloadN X0.here hx rfl (hb hby d11_0) rfl rfl ?_
    exact kT)
  obtain ⟨T2, X2, e2, st2⟩ := getF X0 hx hZ hown (host := "") (Or.inl (hw _ (List.mem_of_getElem? (i := 52) rfl))) Via.refl e0 F2 (g := (mkF m 1 #[.val (.ref a1), .val (.int (Int32.ofNat i)), .val (.int p2)] [(.ref a1)])) rfl rfl (hb hby d11_1)
  have pre3 : ∀ t, Steps p.tables e below (T2.setTop (mkF m 4 #[.val (.ref a1), .val (.int (Int32.ofNat i)), .val (.int p2)] [(.ref dp)])) t → Steps p.tables e below (s₁.setTop (entryFrame m #[(.ref a1), (.int (Int32.ofNat i)), (.int p2)] 3)) t := fun t kT => pre1 t (st2 t kT)
  have pre4 : ∀ t, Steps p.tables e below (T2.setTop (mkF m 5 #[.val (.ref a1), .val (.int (Int32.ofNat i)), .val (.int p2)] [(.ref a1), (.ref dp)])) t → Steps p.tables e below (s₁.setTop (entryFrame m #[(.ref a1), (.int (Int32.ofNat i)), (.int p2)] 3)) t := fun t kT => pre3 t (by
    show Steps p.tables e below (T2.setTop (mkF m 4 #[.val (.ref a1), .val (.int (Int32.ofNat i)), .val (.int p2)] [(.ref dp)])) _
    refine XS.aloadN X2.here hx rfl (hb hby d11_4) rfl rfl ?_
    exact kT)
  obtain ⟨T5, X5, e5, st5⟩ := getF X2 hx hZ hown (host := "") (Or.inl (hw _ (List.mem_of_getElem? (i := 50) rfl))) Via.refl e2 F1 (g := (mkF m 5 #[.val (.ref a1), .val (.int (Int32.ofNat i)), .val (.int p2)] [(.ref a1), (.ref dp)])) rfl rfl (hb hby d11_5)
  have pre6 : ∀ t, Steps p.tables e below (T5.setTop (mkF m 8 #[.val (.ref a1), .val (.int (Int32.ofNat i)), .val (.int p2)] [(.ref ds), (.ref dp)])) t → Steps p.tables e below (s₁.setTop (entryFrame m #[(.ref a1), (.int (Int32.ofNat i)), (.int p2)] 3)) t := fun t kT => pre4 t (st5 t kT)
  obtain ⟨co7, ⟨Ao7, Ko7⟩, So7, Ho7⟩ := id VS
  have lo7 := own_ld So7 Ho7 (j := (Int32.ofNat i)) (i := i) (own_n0 (show i < 2 ^ 31 by omega)) (own_n32 (show i < 2 ^ 31 by omega)) hi (v := (.int (sf i))) (congrArg Value.int (hgs i hi))
  have pre8 : ∀ t, Steps p.tables e below (T5.setTop (mkF m 12 #[.val (.ref a1), .val (.int (Int32.ofNat i)), .val (.int p2)] [(.int ((sf i) + p2)), (.ref dp)])) t → Steps p.tables e below (s₁.setTop (entryFrame m #[(.ref a1), (.int (Int32.ofNat i)), (.int p2)] 3)) t := fun t kT => pre6 t (by
    show Steps p.tables e below (T5.setTop (mkF m 8 #[.val (.ref a1), .val (.int (Int32.ofNat i)), .val (.int p2)] [(.ref ds), (.ref dp)])) _
    refine XS.iloadN X5.here hx rfl (hb hby d11_8) rfl ?_
    show Steps p.tables e below (T5.setTop (mkF m 9 #[.val (.ref a1), .val (.int (Int32.ofNat i)), .val (.int p2)] [(.int (Int32.ofNat i)), (.ref ds), (.ref dp)])) _
    refine X5.iaload hx (j := (Int32.ofNat i)) (v := (.int (sf i))) (by rw [e5]; exact Ao7.1) (State.isArrayOf_alike hZ.alike Ao7.2.1) Ao7.2.2 lo7.1 lo7.2 (g := (mkF m 9 #[.val (.ref a1), .val (.int (Int32.ofNat i)), .val (.int p2)] [(.int (Int32.ofNat i)), (.ref ds), (.ref dp)])) rfl rfl (hb hby d11_9) _ ?_
    show Steps p.tables e below (T5.setTop (mkF m 10 #[.val (.ref a1), .val (.int (Int32.ofNat i)), .val (.int p2)] [(.int (sf i)), (.ref dp)])) _
    refine XS.iloadN X5.here hx rfl (hb hby d11_10) rfl ?_
    show Steps p.tables e below (T5.setTop (mkF m 11 #[.val (.ref a1), .val (.int (Int32.ofNat i)), .val (.int p2)] [(.int p2), (.int (sf i)), (.ref dp)])) _
    refine XS.iadd X5.here hx rfl (hb hby d11_11) rfl ?_
    exact kT)
  rw [hs] at pre8
  obtain ⟨co9, ⟨Ao9, Ko9⟩, So9, Ho9⟩ := id VP
  have lo9 := own_ld So9 Ho9 (j := (Int32.ofNat k)) (i := k) (own_n0 (show k < 2 ^ 31 by omega)) (own_n32 (show k < 2 ^ 31 by omega)) hk (v := (.int (pf k))) (congrArg Value.int (hgp k hk))
  have pre10 : ∀ t, Steps p.tables e below (T5.setTop (mkF m 13 #[.val (.ref a1), .val (.int (Int32.ofNat i)), .val (.int p2)] [(.int (pf k))])) t → Steps p.tables e below (s₁.setTop (entryFrame m #[(.ref a1), (.int (Int32.ofNat i)), (.int p2)] 3)) t := fun t kT => pre8 t (by
    show Steps p.tables e below (T5.setTop (mkF m 12 #[.val (.ref a1), .val (.int (Int32.ofNat i)), .val (.int p2)] [(.int (Int32.ofNat k)), (.ref dp)])) _
    refine X5.iaload hx (j := (Int32.ofNat k)) (v := (.int (pf k))) (by rw [e5]; exact Ao9.1) (State.isArrayOf_alike hZ.alike Ao9.2.1) Ao9.2.2 lo9.1 lo9.2 (g := (mkF m 12 #[.val (.ref a1), .val (.int (Int32.ofNat i)), .val (.int p2)] [(.int (Int32.ofNat k)), (.ref dp)])) rfl rfl (hb hby d11_12) _ ?_
    exact kT)
  obtain ⟨fs, hr, hrun, hended, hW, hsame⟩ := X5.leave (v := some (.int (pf k))) (fun h => by rw [Bd.returns] at h; cases h)
  refine ⟨_, _, pre10 _ ?_, hrun, hended, _, _, rfl, ?_, ⟨_, rfl⟩, hW, hsame.mono (by decide) (by decide)⟩
  · exact retI X5 hx Bd.returns (hb hby d11_13) hr
  · exact ⟨rfl, N0, e5⟩
theorem ef_rmFQ (m : MethodId) (x0 : Addr) (x1 : Int32) : entryFrame m #[(.ref x0), (.int x1)] 2 = mkF m 0 #[.val (.ref x0), .val (.int x1)] [] := by first | (simp [entryFrame, mkF, argsToLocals, Value.category]; done) | rfl
theorem d12_0 : decode prog_20_method_4_code 0 = .ok (.aload_n 0, 1) := by decide +kernel
theorem d12_1 : decode prog_20_method_4_code 1 = .ok (.getfield 13, 3) := by decide +kernel
theorem d12_4 : decode prog_20_method_4_code 4 = .ok (.iload_n 1, 1) := by decide +kernel
theorem d12_5 : decode prog_20_method_4_code 5 = .ok (.iconst 1, 1) := by decide +kernel
theorem d12_6 : decode prog_20_method_4_code 6 = .ok (.iadd, 1) := by decide +kernel
theorem d12_7 : decode prog_20_method_4_code 7 = .ok (.iaload, 1) := by decide +kernel
theorem d12_8 : decode prog_20_method_4_code 8 = .ok (.aload_n 0, 1) := by decide +kernel
theorem d12_9 : decode prog_20_method_4_code 9 = .ok (.getfield 13, 3) := by decide +kernel
theorem d12_12 : decode prog_20_method_4_code 12 = .ok (.iload_n 1, 1) := by decide +kernel
theorem d12_13 : decode prog_20_method_4_code 13 = .ok (.iaload, 1) := by decide +kernel
theorem d12_14 : decode prog_20_method_4_code 14 = .ok (.isub, 1) := by decide +kernel
theorem d12_15 : decode prog_20_method_4_code 15 = .ok (.ireturn, 1) := by decide +kernel
def Q_rmFQ (Z : State) (a1 : Addr) (i : Nat) (dd ds dp : Addr) (dc pc : Nat) (df sf pf : Nat → Int32) (h0 : Heap) (n0 : Nat) (v : Option Value) (h : Heap) (L : List Loc) : Prop := v = some (.int (sf (i + 1) - sf i)) ∧ Fr n0 L ∧ h = h0
set_option maxRecDepth 65536 in
set_option maxHeartbeats 40000000 in
theorem rmFQ (l : Launch) (Z : State) (a0 : Array Value) (hw : ∀ d ∈ tables_1, d.before a0 Z = true) (ws : List Jvm.Cond) (a1 : Addr) (i : Nat) (dd ds dp : Addr) (dc pc : Nat) (df sf pf : Nat → Int32) (h0 : Heap) (n0 : Nat) (Z0 : n0 ≤ h0.size) (B : own_Po Z h0 n0 a1 dd ds dp dc pc df sf pf) (hdc : dc ≤ 3) (hpc : pc ≤ 3) (hi : i < dc) :
    MetFree l (⟨"com/example/esteem/esteem/index/Postings", "freq", "(I)I"⟩ : MethodName) (head1 (Jvm.Cond.code (⟨"com/example/esteem/esteem/index/Postings", "freq", "(I)I"⟩ : MethodName) prog_20_method_4_code 2 (some .int) :: ws) ({ frames := 0, cells := 0, slots := 0, locals := 0 } : Room)) (fun a U => a = #[(.ref a1), (.int (Int32.ofNat i))] ∧ Z.Warmed39 U.vm ∧ U.heap = h0) (fun _ _ _ _ _ => True) (fun _ U o U' => ∃ v L, o = .returned v ∧ Q_rmFQ Z a1 i dd ds dp dc pc df sf pf h0 n0 v U'.heap L ∧ FrameEnd U o U' L ({ frames := 0, cells := 0, slots := 0, locals := 0 } : Room).cells ({ frames := 0, cells := 0, slots := 0, locals := 0 } : Room).slots) := by
  refine MetFree.of_bodySF (plainFor_of_name pn_com_example_esteem_esteem_index_Postings) hisR ?_
  intro p e s m args below meth c s₁ Bd hml0 hP hK
  obtain ⟨rfl, hZ, hh⟩ := hP
  have hx := Bd.exec
  have hby := Bd.bytes
  have hml : c.maxLocals = 2 := hml0
  have hown : s.vm.findClass "com/example/esteem/esteem/index/Postings" = some m.cls := findClass_of_methodNamed Bd.named
  have hnm := (name_of_methodNamed Bd.named Bd.method).1
  have X0 : Stand p l e ({ frames := 0, cells := 0, slots := 0, locals := 0 } : Room) s m #[(.ref a1), (.int (Int32.ofNat i))] below meth c s₁ [] 0 0 := Stand.of_body Bd
  have e0 : s₁.heap = h0 := by rw [← hh, Bd.state]; rfl
  have N0 := Fr.nil n0
  have pre0 : ∀ t, Steps p.tables e below (s₁.setTop (mkF m 0 #[.val (.ref a1), .val (.int (Int32.ofNat i))] [])) t → Steps p.tables e below (s₁.setTop (entryFrame m #[(.ref a1), (.int (Int32.ofNat i))] 2)) t := fun t kT => castTop (ef_rmFQ m a1 (Int32.ofNat i)) kT
  obtain ⟨⟨F0, F1, F2, E0⟩, ⟨gd, VD, hgd⟩, ⟨gs, VS, hgs⟩, ⟨gp, VP, hgp⟩⟩ := id B
  have pre1 : ∀ t, Steps p.tables e below (s₁.setTop (mkF m 1 #[.val (.ref a1), .val (.int (Int32.ofNat i))] [(.ref a1)])) t → Steps p.tables e below (s₁.setTop (entryFrame m #[(.ref a1), (.int (Int32.ofNat i))] 2)) t := fun t kT => pre0 t (by
    show Steps p.tables e below (s₁.setTop (mkF m 0 #[.val (.ref a1), .val (.int (Int32.ofNat i))] [])) _
    refine XS.aloadN X0.here hx rfl (hb hby d12_0) rfl rfl ?_
    exact kT)
  obtain ⟨T2, X2, e2, st2⟩ := getF X0 hx hZ hown (host := "") (Or.inl (hw _ (List.mem_of_getElem? (i := 50) rfl))) Via.refl e0 F1 (g := (mkF m 1 #[.val (.ref a1), .val (.int (Int32.ofNat i))] [(.ref a1)])) rfl rfl (hb hby d12_1)
  have pre3 : ∀ t, Steps p.tables e below (T2.setTop (mkF m 4 #[.val (.ref a1), .val (.int (Int32.ofNat i))] [(.ref ds)])) t → Steps p.tables e below (s₁.setTop (entryFrame m #[(.ref a1), (.int (Int32.ofNat i))] 2)) t := fun t kT => pre1 t (st2 t kT)
  have pre4 : ∀ t, Steps p.tables e below (T2.setTop (mkF m 7 #[.val (.ref a1), .val (.int (Int32.ofNat i))] [(.int ((Int32.ofNat i) + (1 : Int32))), (.ref ds)])) t → Steps p.tables e below (s₁.setTop (entryFrame m #[(.ref a1), (.int (Int32.ofNat i))] 2)) t := fun t kT => pre3 t (by
    show Steps p.tables e below (T2.setTop (mkF m 4 #[.val (.ref a1), .val (.int (Int32.ofNat i))] [(.ref ds)])) _
    refine XS.iloadN X2.here hx rfl (hb hby d12_4) rfl ?_
    show Steps p.tables e below (T2.setTop (mkF m 5 #[.val (.ref a1), .val (.int (Int32.ofNat i))] [(.int (Int32.ofNat i)), (.ref ds)])) _
    refine XS.iconst X2.here hx rfl (hb hby d12_5) ?_
    show Steps p.tables e below (T2.setTop (mkF m 6 #[.val (.ref a1), .val (.int (Int32.ofNat i))] [(.int (1 : Int32)), (.int (Int32.ofNat i)), (.ref ds)])) _
    refine XS.iadd X2.here hx rfl (hb hby d12_6) rfl ?_
    exact kT)
  rw [own_one] at pre4
  obtain ⟨co5, ⟨Ao5, Ko5⟩, So5, Ho5⟩ := id VS
  have lo5 := own_ld So5 Ho5 (j := (Int32.ofNat (i + 1))) (i := (i + 1)) (own_n0 (show (i + 1) < 2 ^ 31 by omega)) (own_n32 (show (i + 1) < 2 ^ 31 by omega)) (by omega) (v := (.int (sf (i + 1)))) (congrArg Value.int (hgs (i + 1) (by omega)))
  have pre6 : ∀ t, Steps p.tables e below (T2.setTop (mkF m 9 #[.val (.ref a1), .val (.int (Int32.ofNat i))] [(.ref a1), (.int (sf (i + 1)))])) t → Steps p.tables e below (s₁.setTop (entryFrame m #[(.ref a1), (.int (Int32.ofNat i))] 2)) t := fun t kT => pre4 t (by
    show Steps p.tables e below (T2.setTop (mkF m 7 #[.val (.ref a1), .val (.int (Int32.ofNat i))] [(.int (Int32.ofNat (i + 1))), (.ref ds)])) _
    refine X2.iaload hx (j := (Int32.ofNat (i + 1))) (v := (.int (sf (i + 1)))) (by rw [e2]; exact Ao5.1) (State.isArrayOf_alike hZ.alike Ao5.2.1) Ao5.2.2 lo5.1 lo5.2 (g := (mkF m 7 #[.val (.ref a1), .val (.int (Int32.ofNat i))] [(.int (Int32.ofNat (i + 1))), (.ref ds)])) rfl rfl (hb hby d12_7) _ ?_
    show Steps p.tables e below (T2.setTop (mkF m 8 #[.val (.ref a1), .val (.int (Int32.ofNat i))] [(.int (sf (i + 1)))])) _
    refine XS.aloadN X2.here hx rfl (hb hby d12_8) rfl rfl ?_
    exact kT)
  obtain ⟨T7, X7, e7, st7⟩ := getF X2 hx hZ hown (host := "") (Or.inl (hw _ (List.mem_of_getElem? (i := 50) rfl))) Via.refl e2 F1 (g := (mkF m 9 #[.val (.ref a1), .val (.int (Int32.ofNat i))] [(.ref a1), (.int (sf (i + 1)))])) rfl rfl (hb hby d12_9)
  have pre8 : ∀ t, Steps p.tables e below (T7.setTop (mkF m 12 #[.val (.ref a1), .val (.int (Int32.ofNat i))] [(.ref ds), (.int (sf (i + 1)))])) t → Steps p.tables e below (s₁.setTop (entryFrame m #[(.ref a1), (.int (Int32.ofNat i))] 2)) t := fun t kT => pre6 t (st7 t kT)
  obtain ⟨co9, ⟨Ao9, Ko9⟩, So9, Ho9⟩ := id VS
  have lo9 := own_ld So9 Ho9 (j := (Int32.ofNat i)) (i := i) (own_n0 (show i < 2 ^ 31 by omega)) (own_n32 (show i < 2 ^ 31 by omega)) (by omega) (v := (.int (sf i))) (congrArg Value.int (hgs i (by omega)))
  have pre10 : ∀ t, Steps p.tables e below (T7.setTop (mkF m 15 #[.val (.ref a1), .val (.int (Int32.ofNat i))] [(.int ((sf (i + 1)) - (sf i)))])) t → Steps p.tables e below (s₁.setTop (entryFrame m #[(.ref a1), (.int (Int32.ofNat i))] 2)) t := fun t kT => pre8 t (by
    show Steps p.tables e below (T7.setTop (mkF m 12 #[.val (.ref a1), .val (.int (Int32.ofNat i))] [(.ref ds), (.int (sf (i + 1)))])) _
    refine XS.iloadN X7.here hx rfl (hb hby d12_12) rfl ?_
    show Steps p.tables e below (T7.setTop (mkF m 13 #[.val (.ref a1), .val (.int (Int32.ofNat i))] [(.int (Int32.ofNat i)), (.ref ds), (.int (sf (i + 1)))])) _
    refine X7.iaload hx (j := (Int32.ofNat i)) (v := (.int (sf i))) (by rw [e7]; exact Ao9.1) (State.isArrayOf_alike hZ.alike Ao9.2.1) Ao9.2.2 lo9.1 lo9.2 (g := (mkF m 13 #[.val (.ref a1), .val (.int (Int32.ofNat i))] [(.int (Int32.ofNat i)), (.ref ds), (.int (sf (i + 1)))])) rfl rfl (hb hby d12_13) _ ?_
    show Steps p.tables e below (T7.setTop (mkF m 14 #[.val (.ref a1), .val (.int (Int32.ofNat i))] [(.int (sf i)), (.int (sf (i + 1)))])) _
    refine XS.isub X7.here hx rfl (hb hby d12_14) rfl ?_
    exact kT)
  obtain ⟨fs, hr, hrun, hended, hW, hsame⟩ := X7.leave (v := some (.int ((sf (i + 1)) - (sf i)))) (fun h => by rw [Bd.returns] at h; cases h)
  refine ⟨_, _, pre10 _ ?_, hrun, hended, _, _, rfl, ?_, ⟨_, rfl⟩, hW, hsame.mono (by decide) (by decide)⟩
  · exact retI X7 hx Bd.returns (hb hby d12_15) hr
  · exact ⟨rfl, N0, e7⟩
def own_nz (x : Int32) : Int32 := if x = (0 : Int32) then 0 else 1
theorem own_nz01 (x : Int32) : own_nz x = 0 ∨ own_nz x = 1 := by unfold own_nz; split <;> simp
def own_sel (n x y : Int32) : Int32 := if n = (0 : Int32) then y else x
theorem own_sel0 {n x y : Int32} (h : n = 0) : own_sel n x y = y := if_pos h
theorem own_sel1 {n x y : Int32} (h : n = 1) : own_sel n x y = x := if_neg (by rw [h]; decide)
theorem own_mask (x : Int32) : 0 ≤ (x &&& (1073741823 : Int32)).toInt ∧ (x &&& (1073741823 : Int32)).toInt < 1073741824 := by
  have e : (x &&& (1073741823 : Int32)).toInt = x.toInt % (2 ^ 30 : Nat) := c_mask x 1073741823 30 (by decide) (by decide)
  omega
theorem own_step (x y : Int32) (h1 : 0 ≤ x.toInt) (h2 : x.toInt < 1700000000) : x.toInt < ((x + (1 : Int32)) + (y &&& (268435455 : Int32))).toInt ∧ ((x + (1 : Int32)) + (y &&& (268435455 : Int32))).toInt ≤ x.toInt + 268435456 := by
  have e : (y &&& (268435455 : Int32)).toInt = y.toInt % (2 ^ 28 : Nat) := c_mask y 268435455 28 (by decide) (by decide)
  have a := c_iadd x 1
  have b := rng32 (x + 1)
  have o : (1 : Int32).toInt = 1 := rfl
  rw [o] at a
  have c : (x + 1).toInt = x.toInt + 1 := by omega
  have d := c_iadd (x + 1) (y &&& 268435455)
  have f := rng32 (x + 1 + (y &&& 268435455))
  rw [c, e] at d
  omega
theorem own_nlt {x y : Int32} (h : ¬ x.toInt < y.toInt) : ¬ x < y := by rw [Int32.lt_iff_toInt_lt]; exact h
theorem own_nlt0 {x : Int32} (h : 0 ≤ x.toInt) : ¬ x < 0 := own_nlt (by show ¬ x.toInt < 0; omega)
theorem own_next (d q y y' u n d' q' : Int32) (hd' : d' = own_sel n d ((d + (1 : Int32)) + (y &&& (268435455 : Int32)))) (hq' : q' = own_sel n ((q + (1 : Int32)) + (y' &&& (268435455 : Int32))) (u &&& (1073741823 : Int32))) (hn : n = 0 ∨ n = 1) (h1 : 0 ≤ d.toInt) (h2 : d.toInt < 1700000000) (h3 : 0 ≤ q.toInt) (h4 : q.toInt < 1700000000) :
    (n = 1 → d' = d ∧ q < q') ∧ (n = 0 → ¬ d' = d) ∧ ¬ d' < d ∧ 0 ≤ d'.toInt ∧ d'.toInt ≤ d.toInt + 268435456 ∧ 0 ≤ q'.toInt ∧ (q'.toInt < 1073741824 ∨ q'.toInt ≤ q.toInt + 268435456) := by
  have s1 := own_step d y h1 h2
  have s2 := own_step q y' h3 h4
  have s3 := own_mask u
  rcases hn with hn | hn
  · have ed : d' = (d + (1 : Int32)) + (y &&& (268435455 : Int32)) := hd'.trans (own_sel0 hn)
    have eq : q' = (u &&& (1073741823 : Int32)) := hq'.trans (own_sel0 hn)
    rw [ed, eq]
    exact ⟨fun z => absurd (hn.symm.trans z) (by decide), fun _ z => by rw [z] at s1; omega, own_nlt (by omega), by omega, by omega, s3.1, Or.inl s3.2⟩
  · have ed : d' = d := hd'.trans (own_sel1 hn)
    have eq : q' = (q + (1 : Int32)) + (y' &&& (268435455 : Int32)) := hq'.trans (own_sel1 hn)
    rw [ed, eq]
    exact ⟨fun _ => ⟨rfl, Int32.lt_iff_toInt_lt.mpr s2.1⟩, fun z => absurd (hn.symm.trans z) (by decide), Int32.lt_irrefl, h1, by omega, by omega, Or.inr s2.2⟩
theorem own_of {j : Int32} (h : 0 ≤ j.toInt) (h8 : j.toInt < 4) : ∃ n : Nat, (n = 0 ∨ n = 1 ∨ n = 2 ∨ n = 3) ∧ j = Int32.ofNat n := by
  refine ⟨j.toInt.toNat, by omega, ?_⟩
  apply Int32.toInt_inj.mp
  rw [own_i32 (by omega)]
  omega
theorem own_nb {x : Int32} (h : x = 0 ∨ x = 1) : nar .boolean x = x := by rcases h with rfl | rfl <;> decide
theorem ef_rmCK (m : MethodId) (x0 : Addr) (x1 : Int32) (x2 : Int32) (x3 : Int32) (x4 : Int32) (x5 : Int32) (x6 : Int32) : entryFrame m #[(.ref x0), (.int x1), (.int x2), (.int x3), (.int x4), (.int x5), (.int x6)] 7 = mkF m 0 #[.val (.ref x0), .val (.int x1), .val (.int x2), .val (.int x3), .val (.int x4), .val (.int x5), .val (.int x6)] [] := by first | (simp [entryFrame, mkF, argsToLocals, Value.category]; done) | rfl
theorem pn_com_example_esteem_esteem_index_PostingsBuildPinLaw : plainName "com/example/esteem/esteem/index/PostingsBuildPinLaw" = true := by first | (simp [plainName, overriddenIn]; done) | decide +kernel
theorem d9_0 : decode method_3_code 0 = .ok (.iload_n 1, 1) := by decide +kernel
theorem d9_1 : decode method_3_code 1 = .ok (.ifCond .eq 15, 3) := by decide +kernel
theorem d9_16 : decode method_3_code 16 = .ok (.aload_n 0, 1) := by decide +kernel
theorem d9_17 : decode method_3_code 17 = .ok (.iload_n 3, 1) := by decide +kernel
theorem d9_18 : decode method_3_code 18 = .ok (.iload 4, 2) := by decide +kernel
theorem d9_20 : decode method_3_code 20 = .ok (.invokevirtual 37, 3) := by decide +kernel
theorem pd__II_I : parseMethodDescriptor "(II)I" = some ⟨[.int, .int], some .int⟩ := by decide +kernel
theorem d9_23 : decode method_3_code 23 = .ok (.iload 6, 2) := by decide +kernel
theorem d9_25 : decode method_3_code 25 = .ok (.if_icmp .eq 5, 3) := by decide +kernel
theorem d9_30 : decode method_3_code 30 = .ok (.iload_n 2, 1) := by decide +kernel
theorem d9_31 : decode method_3_code 31 = .ok (.ifCond .eq 17, 3) := by decide +kernel
theorem d9_48 : decode method_3_code 48 = .ok (.iconst 1, 1) := by decide +kernel
theorem d9_49 : decode method_3_code 49 = .ok (.ireturn, 1) := by decide +kernel
theorem d9_34 : decode method_3_code 34 = .ok (.aload_n 0, 1) := by decide +kernel
theorem d9_35 : decode method_3_code 35 = .ok (.iload_n 3, 1) := by decide +kernel
theorem d9_36 : decode method_3_code 36 = .ok (.invokevirtual 41, 3) := by decide +kernel
theorem pd__I_I : parseMethodDescriptor "(I)I" = some ⟨[.int], some .int⟩ := by decide +kernel
theorem d9_39 : decode method_3_code 39 = .ok (.iload 4, 2) := by decide +kernel
theorem d9_41 : decode method_3_code 41 = .ok (.iconst 1, 1) := by decide +kernel
theorem d9_42 : decode method_3_code 42 = .ok (.iadd, 1) := by decide +kernel
theorem d9_43 : decode method_3_code 43 = .ok (.if_icmp .eq 5, 3) := by decide +kernel
theorem d9_4 : decode method_3_code 4 = .ok (.aload_n 0, 1) := by decide +kernel
theorem d9_5 : decode method_3_code 5 = .ok (.iload_n 3, 1) := by decide +kernel
theorem d9_6 : decode method_3_code 6 = .ok (.invokevirtual 33, 3) := by decide +kernel
theorem d9_9 : decode method_3_code 9 = .ok (.iload 5, 2) := by decide +kernel
theorem d9_11 : decode method_3_code 11 = .ok (.if_icmp .eq 5, 3) := by decide +kernel
def Q_rmCK (Z : State) (a1 : Addr) (p1 : Int32) (p2 : Int32) (p5 : Int32) (p6 : Int32) (i j k : Nat) (dd ds dp : Addr) (dc pc : Nat) (df sf pf : Nat → Int32) (h0 : Heap) (n0 : Nat) (v : Option Value) (h : Heap) (L : List Loc) : Prop := v = some (.int (1 : Int32)) ∧ Fr n0 L ∧ h = h0
set_option maxRecDepth 65536 in
set_option maxHeartbeats 40000000 in
theorem rmCK (l : Launch) (Z : State) (a0 : Array Value) (hw : ∀ d ∈ tables_1, d.before a0 Z = true) (ws : List Jvm.Cond) (a1 : Addr) (p1 : Int32) (p2 : Int32) (p5 : Int32) (p6 : Int32) (i j k : Nat) (dd ds dp : Addr) (dc pc : Nat) (df sf pf : Nat → Int32) (h0 : Heap) (n0 : Nat) (Z0 : n0 ≤ h0.size) (B : own_Po Z h0 n0 a1 dd ds dp dc pc df sf pf) (hdc : dc ≤ 3) (hpc : pc ≤ 3) (hi : i < dc) (hk : k < pc) (hs : sf i + Int32.ofNat j = Int32.ofNat k) (h1 : ¬ p1 = 0 → df i = p5) (h2 : pf k = p6) (h3 : ¬ p2 = 0 → sf (i + 1) - sf i = Int32.ofNat (j + 1)) :
    MetFree l (⟨"com/example/esteem/esteem/index/PostingsBuildPinLaw", "check", "(Lcom/example/esteem/esteem/index/Postings;ZZIIII)Z"⟩ : MethodName) (head1 (Jvm.Cond.code (⟨"com/example/esteem/esteem/index/PostingsBuildPinLaw", "check", "(Lcom/example/esteem/esteem/index/Postings;ZZIIII)Z"⟩ : MethodName) method_3_code 7 (some .boolean) :: ws) ({ frames := 1, cells := 0, slots := 0, locals := 14 } : Room)) (fun a U => a = #[(.ref a1), (.int p1), (.int p2), (.int (Int32.ofNat i)), (.int (Int32.ofNat j)), (.int p5), (.int p6)] ∧ Z.Warmed39 U.vm ∧ U.heap = h0) (fun _ _ _ _ _ => True) (fun _ U o U' => ∃ v L, o = .returned v ∧ Q_rmCK Z a1 p1 p2 p5 p6 i j k dd ds dp dc pc df sf pf h0 n0 v U'.heap L ∧ FrameEnd U o U' L ({ frames := 1, cells := 0, slots := 0, locals := 14 } : Room).cells ({ frames := 1, cells := 0, slots := 0, locals := 14 } : Room).slots) := by
  refine MetFree.of_bodySF (plainFor_of_name pn_com_example_esteem_esteem_index_PostingsBuildPinLaw) hisR ?_
  intro p e s m args below meth c s₁ Bd hml0 hP hK
  obtain ⟨rfl, hZ, hh⟩ := hP
  have hx := Bd.exec
  have hby := Bd.bytes
  have hml : c.maxLocals = 7 := hml0
  have hown : s.vm.findClass "com/example/esteem/esteem/index/PostingsBuildPinLaw" = some m.cls := findClass_of_methodNamed Bd.named
  have hnm := (name_of_methodNamed Bd.named Bd.method).1
  have X0 : Stand p l e ({ frames := 1, cells := 0, slots := 0, locals := 14 } : Room) s m #[(.ref a1), (.int p1), (.int p2), (.int (Int32.ofNat i)), (.int (Int32.ofNat j)), (.int p5), (.int p6)] below meth c s₁ [] 0 0 := Stand.of_body Bd
  have e0 : s₁.heap = h0 := by rw [← hh, Bd.state]; rfl
  have N0 := Fr.nil n0
  have pre0 : ∀ t, Steps p.tables e below (s₁.setTop (mkF m 0 #[.val (.ref a1), .val (.int p1), .val (.int p2), .val (.int (Int32.ofNat i)), .val (.int (Int32.ofNat j)), .val (.int p5), .val (.int p6)] [])) t → Steps p.tables e below (s₁.setTop (entryFrame m #[(.ref a1), (.int p1), (.int p2), (.int (Int32.ofNat i)), (.int (Int32.ofNat j)), (.int p5), (.int p6)] 7)) t := fun t kT => castTop (ef_rmCK m a1 p1 p2 (Int32.ofNat i) (Int32.ofNat j) p5 p6) kT
  have pre1 : ∀ t, Steps p.tables e below (s₁.setTop (mkF m 1 #[.val (.ref a1), .val (.int p1), .val (.int p2), .val (.int (Int32.ofNat i)), .val (.int (Int32.ofNat j)), .val (.int p5), .val (.int p6)] [(.int p1)])) t → Steps p.tables e below (s₁.setTop (entryFrame m #[(.ref a1), (.int p1), (.int p2), (.int (Int32.ofNat i)), (.int (Int32.ofNat j)), (.int p5), (.int p6)] 7)) t := fun t kT => pre0 t (by
    show Steps p.tables e below (s₁.setTop (mkF m 0 #[.val (.ref a1), .val (.int p1), .val (.int p2), .val (.int (Int32.ofNat i)), .val (.int (Int32.ofNat j)), .val (.int p5), .val (.int p6)] [])) _
    refine XS.iloadN X0.here hx rfl (hb hby d9_0) rfl ?_
    exact kT)
  by_cases hf : p1 = (0 : Int32)
  · have pre2 : ∀ t, Steps p.tables e below (s₁.setTop (mkF m 20 #[.val (.ref a1), .val (.int p1), .val (.int p2), .val (.int (Int32.ofNat i)), .val (.int (Int32.ofNat j)), .val (.int p5), .val (.int p6)] [(.int (Int32.ofNat j)), (.int (Int32.ofNat i)), (.ref a1)])) t → Steps p.tables e below (s₁.setTop (entryFrame m #[(.ref a1), (.int p1), (.int p2), (.int (Int32.ofNat i)), (.int (Int32.ofNat j)), (.int p5), (.int p6)] 7)) t := fun t kT => pre1 t (by
      show Steps p.tables e below (s₁.setTop (mkF m 1 #[.val (.ref a1), .val (.int p1), .val (.int p2), .val (.int (Int32.ofNat i)), .val (.int (Int32.ofNat j)), .val (.int p5), .val (.int p6)] [(.int p1)])) _
      refine XS.ifYes X0.here hx rfl (pc0 := 1) (pc' := 16) rfl (hb hby d9_1) rfl ((if0 _ _).trans (teq hf).1) (by decide) (by decide) ?_
      show Steps p.tables e below (s₁.setTop (mkF m 16 #[.val (.ref a1), .val (.int p1), .val (.int p2), .val (.int (Int32.ofNat i)), .val (.int (Int32.ofNat j)), .val (.int p5), .val (.int p6)] [])) _
      refine XS.aloadN X0.here hx rfl (hb hby d9_16) rfl rfl ?_
      show Steps p.tables e below (s₁.setTop (mkF m 17 #[.val (.ref a1), .val (.int p1), .val (.int p2), .val (.int (Int32.ofNat i)), .val (.int (Int32.ofNat j)), .val (.int p5), .val (.int p6)] [(.ref a1)])) _
      refine XS.iloadN X0.here hx rfl (hb hby d9_17) rfl ?_
      show Steps p.tables e below (s₁.setTop (mkF m 18 #[.val (.ref a1), .val (.int p1), .val (.int p2), .val (.int (Int32.ofNat i)), .val (.int (Int32.ofNat j)), .val (.int p5), .val (.int p6)] [(.int (Int32.ofNat i)), (.ref a1)])) _
      refine XS.iload X0.here hx rfl (hb hby d9_18) rfl ?_
      exact kT)
    obtain ⟨cI3, kI3, q3a, q3b, q3c⟩ := isOf hZ e0 B.1.2.2.2
    have pre4 : ∀ t, Steps p.tables e below (s₁.setTop (mkF m 20 #[.val (.ref a1), .val (.int p1), .val (.int p2), .val (.int (Int32.ofNat i)), .val (.int (Int32.ofNat j)), .val (.int p5), .val (.int p6)] [(.int (Int32.ofNat j)), (.int (Int32.ofNat i)), (.ref a1)])) t → Steps p.tables e below (s₁.setTop (entryFrame m #[(.ref a1), (.int p1), (.int p2), (.int (Int32.ofNat i)), (.int (Int32.ofNat j)), (.int p5), (.int p6)] 7)) t := fun t kT => pre2 t (by
      exact kT)
    obtain ⟨_, _, ⟨T5, L5, k5, n5⟩, -, X5, ⟨Lc5, hQ5, l5, y5, z5⟩, st5⟩ := X0.virtualBack hx (y := (⟨"com/example/esteem/esteem/index/Postings", "position", "(II)I"⟩ : MethodName)) (z := (⟨"com/example/esteem/esteem/index/Postings", "position", "(II)I"⟩ : MethodName)) hown (mvT hZ (hw _ (List.mem_of_getElem? (i := 82) rfl))) (mvT hZ (hw _ (List.mem_of_getElem? (i := 83) rfl))) (notFace_of_selects (args := #[]) (mvT hZ (hw _ (List.mem_of_getElem? (i := 85) rfl)))) (mvT hZ (hw _ (List.mem_of_getElem? (i := 85) rfl))) (mvT hZ (hw _ (List.mem_of_getElem? (i := 84) rfl))) (by decide) (backOf (W := 0) (rmPS l Z a0 hw [] a1 (Int32.ofNat j) i k dd ds dp dc pc df sf pf h0 n0 Z0 B hdc hpc (by omega) hk hs) hZ (hw _ (List.mem_of_getElem? (i := 86) rfl)) (hw _ (List.mem_of_getElem? (i := 27) rfl)) (by decide) (by decide)) q3a q3c (g := (mkF m 20 #[.val (.ref a1), .val (.int p1), .val (.int p2), .val (.int (Int32.ofNat i)), .val (.int (Int32.ofNat j)), .val (.int p5), .val (.int p6)] [(.int (Int32.ofNat j)), (.int (Int32.ofNat i)), (.ref a1)])) rfl (by rw [hml]; rfl) (Steps.refl _) (argsL := [(.int (Int32.ofNat i)), (.int (Int32.ofNat j))]) (rest := []) (lenOf pd__II_I rfl) rfl (by show 2 * 0 + _ ≤ _; exact Nat.le_of_eq rfl) (hb hby d9_20) (fun _ _ => ⟨rfl, e0, (by decide : 0 + 0 ≤ _), (by decide : 0 + 0 ≤ _)⟩)
    dsimp only [Pt.U, Pt.locs, Pt.cells, Pt.slots] at X5 l5 y5 z5 st5 hQ5
    have X5 := own_st X5 (y5.trans (show _ = 0 from rfl)) (z5.trans (show _ = 0 from rfl))
    obtain ⟨rfl, N5q, er1⟩ := hQ5
    have N5 := own_fr l5 N0 N5q
    have pre6 : ∀ t, Steps p.tables e below (T5.setTop (mkF m 23 #[.val (.ref a1), .val (.int p1), .val (.int p2), .val (.int (Int32.ofNat i)), .val (.int (Int32.ofNat j)), .val (.int p5), .val (.int p6)] [(.int (pf k))])) t → Steps p.tables e below (s₁.setTop (entryFrame m #[(.ref a1), (.int p1), (.int p2), (.int (Int32.ofNat i)), (.int (Int32.ofNat j)), (.int p5), (.int p6)] 7)) t := fun t kT => pre4 t (st5.trans kT)
    have pre7 : ∀ t, Steps p.tables e below (T5.setTop (mkF m 31 #[.val (.ref a1), .val (.int p1), .val (.int p2), .val (.int (Int32.ofNat i)), .val (.int (Int32.ofNat j)), .val (.int p5), .val (.int p6)] [(.int p2)])) t → Steps p.tables e below (s₁.setTop (entryFrame m #[(.ref a1), (.int p1), (.int p2), (.int (Int32.ofNat i)), (.int (Int32.ofNat j)), (.int p5), (.int p6)] 7)) t := fun t kT => pre6 t (by
      show Steps p.tables e below (T5.setTop (mkF m 23 #[.val (.ref a1), .val (.int p1), .val (.int p2), .val (.int (Int32.ofNat i)), .val (.int (Int32.ofNat j)), .val (.int p5), .val (.int p6)] [(.int (pf k))])) _
      refine XS.iload X5.here hx rfl (hb hby d9_23) rfl ?_
      show Steps p.tables e below (T5.setTop (mkF m 25 #[.val (.ref a1), .val (.int p1), .val (.int p2), .val (.int (Int32.ofNat i)), .val (.int (Int32.ofNat j)), .val (.int p5), .val (.int p6)] [(.int p6), (.int (pf k))])) _
      refine XS.icmpYes X5.here hx rfl (pc0 := 25) (pc' := 30) rfl (hb hby d9_25) rfl (teq h2).1 (by decide) (by decide) ?_
      show Steps p.tables e below (T5.setTop (mkF m 30 #[.val (.ref a1), .val (.int p1), .val (.int p2), .val (.int (Int32.ofNat i)), .val (.int (Int32.ofNat j)), .val (.int p5), .val (.int p6)] [])) _
      refine XS.iloadN X5.here hx rfl (hb hby d9_30) rfl ?_
      exact kT)
    by_cases hl1 : p2 = (0 : Int32)
    · have pre8 : ∀ t, Steps p.tables e below (T5.setTop (mkF m 49 #[.val (.ref a1), .val (.int p1), .val (.int p2), .val (.int (Int32.ofNat i)), .val (.int (Int32.ofNat j)), .val (.int p5), .val (.int p6)] [(.int (1 : Int32))])) t → Steps p.tables e below (s₁.setTop (entryFrame m #[(.ref a1), (.int p1), (.int p2), (.int (Int32.ofNat i)), (.int (Int32.ofNat j)), (.int p5), (.int p6)] 7)) t := fun t kT => pre7 t (by
        show Steps p.tables e below (T5.setTop (mkF m 31 #[.val (.ref a1), .val (.int p1), .val (.int p2), .val (.int (Int32.ofNat i)), .val (.int (Int32.ofNat j)), .val (.int p5), .val (.int p6)] [(.int p2)])) _
        refine XS.ifYes X5.here hx rfl (pc0 := 31) (pc' := 48) rfl (hb hby d9_31) rfl ((if0 _ _).trans (teq hl1).1) (by decide) (by decide) ?_
        show Steps p.tables e below (T5.setTop (mkF m 48 #[.val (.ref a1), .val (.int p1), .val (.int p2), .val (.int (Int32.ofNat i)), .val (.int (Int32.ofNat j)), .val (.int p5), .val (.int p6)] [])) _
        refine XS.iconst X5.here hx rfl (hb hby d9_48) ?_
        exact kT)
      obtain ⟨fs, hr, hrun, hended, hW, hsame⟩ := X5.leave (v := some (.int (1 : Int32))) (fun h => by rw [Bd.returns] at h; cases h)
      refine ⟨_, _, pre8 _ ?_, hrun, hended, _, _, rfl, ?_, ⟨_, rfl⟩, hW, hsame.mono (by decide) (by decide)⟩
      · exact retN X5 hx (t := .boolean) Bd.returns (by simp) (hb hby d9_49) hr
      · exact ⟨rfl, N5, er1⟩
    · have pre9 : ∀ t, Steps p.tables e below (T5.setTop (mkF m 36 #[.val (.ref a1), .val (.int p1), .val (.int p2), .val (.int (Int32.ofNat i)), .val (.int (Int32.ofNat j)), .val (.int p5), .val (.int p6)] [(.int (Int32.ofNat i)), (.ref a1)])) t → Steps p.tables e below (s₁.setTop (entryFrame m #[(.ref a1), (.int p1), (.int p2), (.int (Int32.ofNat i)), (.int (Int32.ofNat j)), (.int p5), (.int p6)] 7)) t := fun t kT => pre7 t (by
        show Steps p.tables e below (T5.setTop (mkF m 31 #[.val (.ref a1), .val (.int p1), .val (.int p2), .val (.int (Int32.ofNat i)), .val (.int (Int32.ofNat j)), .val (.int p5), .val (.int p6)] [(.int p2)])) _
        refine XS.ifNo X5.here hx rfl (hb hby d9_31) rfl ((if0 _ _).trans (feq hl1).1) ?_
        show Steps p.tables e below (T5.setTop (mkF m 34 #[.val (.ref a1), .val (.int p1), .val (.int p2), .val (.int (Int32.ofNat i)), .val (.int (Int32.ofNat j)), .val (.int p5), .val (.int p6)] [])) _
        refine XS.aloadN X5.here hx rfl (hb hby d9_34) rfl rfl ?_
        show Steps p.tables e below (T5.setTop (mkF m 35 #[.val (.ref a1), .val (.int p1), .val (.int p2), .val (.int (Int32.ofNat i)), .val (.int (Int32.ofNat j)), .val (.int p5), .val (.int p6)] [(.ref a1)])) _
        refine XS.iloadN X5.here hx rfl (hb hby d9_35) rfl ?_
        exact kT)
      obtain ⟨cI10, kI10, q10a, q10b, q10c⟩ := isOf hZ er1 B.1.2.2.2
      have pre11 : ∀ t, Steps p.tables e below (T5.setTop (mkF m 36 #[.val (.ref a1), .val (.int p1), .val (.int p2), .val (.int (Int32.ofNat i)), .val (.int (Int32.ofNat j)), .val (.int p5), .val (.int p6)] [(.int (Int32.ofNat i)), (.ref a1)])) t → Steps p.tables e below (s₁.setTop (entryFrame m #[(.ref a1), (.int p1), (.int p2), (.int (Int32.ofNat i)), (.int (Int32.ofNat j)), (.int p5), (.int p6)] 7)) t := fun t kT => pre9 t (by
        exact kT)
      obtain ⟨_, _, ⟨T12, L12, k12, n12⟩, -, X12, ⟨Lc12, hQ12, l12, y12, z12⟩, st12⟩ := X5.virtualBack hx (y := (⟨"com/example/esteem/esteem/index/Postings", "freq", "(I)I"⟩ : MethodName)) (z := (⟨"com/example/esteem/esteem/index/Postings", "freq", "(I)I"⟩ : MethodName)) hown (mvT hZ (hw _ (List.mem_of_getElem? (i := 87) rfl))) (mvT hZ (hw _ (List.mem_of_getElem? (i := 88) rfl))) (notFace_of_selects (args := #[]) (mvT hZ (hw _ (List.mem_of_getElem? (i := 90) rfl)))) (mvT hZ (hw _ (List.mem_of_getElem? (i := 90) rfl))) (mvT hZ (hw _ (List.mem_of_getElem? (i := 89) rfl))) (by decide) (backOf (W := 0) (rmFQ l Z a0 hw [] a1 i dd ds dp dc pc df sf pf h0 n0 Z0 B hdc hpc hi) hZ (hw _ (List.mem_of_getElem? (i := 91) rfl)) (hw _ (List.mem_of_getElem? (i := 27) rfl)) (by decide) (by decide)) q10a q10c (g := (mkF m 36 #[.val (.ref a1), .val (.int p1), .val (.int p2), .val (.int (Int32.ofNat i)), .val (.int (Int32.ofNat j)), .val (.int p5), .val (.int p6)] [(.int (Int32.ofNat i)), (.ref a1)])) rfl (by rw [hml]; rfl) (Steps.refl _) (argsL := [(.int (Int32.ofNat i))]) (rest := []) (lenOf pd__I_I rfl) rfl (by show 2 * 0 + _ ≤ _; exact Nat.le_of_eq rfl) (hb hby d9_36) (fun _ _ => ⟨rfl, er1, (by decide : 0 + 0 ≤ _), (by decide : 0 + 0 ≤ _)⟩)
      dsimp only [Pt.U, Pt.locs, Pt.cells, Pt.slots] at X12 l12 y12 z12 st12 hQ12
      have X12 := own_st X12 (y12.trans (show _ = 0 from rfl)) (z12.trans (show _ = 0 from rfl))
      obtain ⟨rfl, N12q, er2⟩ := hQ12
      have N12 := own_fr l12 N5 N12q
      have pre13 : ∀ t, Steps p.tables e below (T12.setTop (mkF m 39 #[.val (.ref a1), .val (.int p1), .val (.int p2), .val (.int (Int32.ofNat i)), .val (.int (Int32.ofNat j)), .val (.int p5), .val (.int p6)] [(.int (sf (i + 1) - sf i))])) t → Steps p.tables e below (s₁.setTop (entryFrame m #[(.ref a1), (.int p1), (.int p2), (.int (Int32.ofNat i)), (.int (Int32.ofNat j)), (.int p5), (.int p6)] 7)) t := fun t kT => pre11 t (st12.trans kT)
      have pre14 : ∀ t, Steps p.tables e below (T12.setTop (mkF m 43 #[.val (.ref a1), .val (.int p1), .val (.int p2), .val (.int (Int32.ofNat i)), .val (.int (Int32.ofNat j)), .val (.int p5), .val (.int p6)] [(.int ((Int32.ofNat j) + (1 : Int32))), (.int (sf (i + 1) - sf i))])) t → Steps p.tables e below (s₁.setTop (entryFrame m #[(.ref a1), (.int p1), (.int p2), (.int (Int32.ofNat i)), (.int (Int32.ofNat j)), (.int p5), (.int p6)] 7)) t := fun t kT => pre13 t (by
        show Steps p.tables e below (T12.setTop (mkF m 39 #[.val (.ref a1), .val (.int p1), .val (.int p2), .val (.int (Int32.ofNat i)), .val (.int (Int32.ofNat j)), .val (.int p5), .val (.int p6)] [(.int (sf (i + 1) - sf i))])) _
        refine XS.iload X12.here hx rfl (hb hby d9_39) rfl ?_
        show Steps p.tables e below (T12.setTop (mkF m 41 #[.val (.ref a1), .val (.int p1), .val (.int p2), .val (.int (Int32.ofNat i)), .val (.int (Int32.ofNat j)), .val (.int p5), .val (.int p6)] [(.int (Int32.ofNat j)), (.int (sf (i + 1) - sf i))])) _
        refine XS.iconst X12.here hx rfl (hb hby d9_41) ?_
        show Steps p.tables e below (T12.setTop (mkF m 42 #[.val (.ref a1), .val (.int p1), .val (.int p2), .val (.int (Int32.ofNat i)), .val (.int (Int32.ofNat j)), .val (.int p5), .val (.int p6)] [(.int (1 : Int32)), (.int (Int32.ofNat j)), (.int (sf (i + 1) - sf i))])) _
        refine XS.iadd X12.here hx rfl (hb hby d9_42) rfl ?_
        exact kT)
      rw [own_one] at pre14
      have pre15 : ∀ t, Steps p.tables e below (T12.setTop (mkF m 49 #[.val (.ref a1), .val (.int p1), .val (.int p2), .val (.int (Int32.ofNat i)), .val (.int (Int32.ofNat j)), .val (.int p5), .val (.int p6)] [(.int (1 : Int32))])) t → Steps p.tables e below (s₁.setTop (entryFrame m #[(.ref a1), (.int p1), (.int p2), (.int (Int32.ofNat i)), (.int (Int32.ofNat j)), (.int p5), (.int p6)] 7)) t := fun t kT => pre14 t (by
        show Steps p.tables e below (T12.setTop (mkF m 43 #[.val (.ref a1), .val (.int p1), .val (.int p2), .val (.int (Int32.ofNat i)), .val (.int (Int32.ofNat j)), .val (.int p5), .val (.int p6)] [(.int (Int32.ofNat (j + 1))), (.int (sf (i + 1) - sf i))])) _
        refine XS.icmpYes X12.here hx rfl (pc0 := 43) (pc' := 48) rfl (hb hby d9_43) rfl (teq (h3 hl1)).1 (by decide) (by decide) ?_
        show Steps p.tables e below (T12.setTop (mkF m 48 #[.val (.ref a1), .val (.int p1), .val (.int p2), .val (.int (Int32.ofNat i)), .val (.int (Int32.ofNat j)), .val (.int p5), .val (.int p6)] [])) _
        refine XS.iconst X12.here hx rfl (hb hby d9_48) ?_
        exact kT)
      obtain ⟨fs, hr, hrun, hended, hW, hsame⟩ := X12.leave (v := some (.int (1 : Int32))) (fun h => by rw [Bd.returns] at h; cases h)
      refine ⟨_, _, pre15 _ ?_, hrun, hended, _, _, rfl, ?_, ⟨_, rfl⟩, hW, hsame.mono (by decide) (by decide)⟩
      · exact retN X12 hx (t := .boolean) Bd.returns (by simp) (hb hby d9_49) hr
      · exact ⟨rfl, N12, er2⟩
  · have pre16 : ∀ t, Steps p.tables e below (s₁.setTop (mkF m 6 #[.val (.ref a1), .val (.int p1), .val (.int p2), .val (.int (Int32.ofNat i)), .val (.int (Int32.ofNat j)), .val (.int p5), .val (.int p6)] [(.int (Int32.ofNat i)), (.ref a1)])) t → Steps p.tables e below (s₁.setTop (entryFrame m #[(.ref a1), (.int p1), (.int p2), (.int (Int32.ofNat i)), (.int (Int32.ofNat j)), (.int p5), (.int p6)] 7)) t := fun t kT => pre1 t (by
      show Steps p.tables e below (s₁.setTop (mkF m 1 #[.val (.ref a1), .val (.int p1), .val (.int p2), .val (.int (Int32.ofNat i)), .val (.int (Int32.ofNat j)), .val (.int p5), .val (.int p6)] [(.int p1)])) _
      refine XS.ifNo X0.here hx rfl (hb hby d9_1) rfl ((if0 _ _).trans (feq hf).1) ?_
      show Steps p.tables e below (s₁.setTop (mkF m 4 #[.val (.ref a1), .val (.int p1), .val (.int p2), .val (.int (Int32.ofNat i)), .val (.int (Int32.ofNat j)), .val (.int p5), .val (.int p6)] [])) _
      refine XS.aloadN X0.here hx rfl (hb hby d9_4) rfl rfl ?_
      show Steps p.tables e below (s₁.setTop (mkF m 5 #[.val (.ref a1), .val (.int p1), .val (.int p2), .val (.int (Int32.ofNat i)), .val (.int (Int32.ofNat j)), .val (.int p5), .val (.int p6)] [(.ref a1)])) _
      refine XS.iloadN X0.here hx rfl (hb hby d9_5) rfl ?_
      exact kT)
    obtain ⟨cI17, kI17, q17a, q17b, q17c⟩ := isOf hZ e0 B.1.2.2.2
    have pre18 : ∀ t, Steps p.tables e below (s₁.setTop (mkF m 6 #[.val (.ref a1), .val (.int p1), .val (.int p2), .val (.int (Int32.ofNat i)), .val (.int (Int32.ofNat j)), .val (.int p5), .val (.int p6)] [(.int (Int32.ofNat i)), (.ref a1)])) t → Steps p.tables e below (s₁.setTop (entryFrame m #[(.ref a1), (.int p1), (.int p2), (.int (Int32.ofNat i)), (.int (Int32.ofNat j)), (.int p5), (.int p6)] 7)) t := fun t kT => pre16 t (by
      exact kT)
    obtain ⟨_, _, ⟨T19, L19, k19, n19⟩, -, X19, ⟨Lc19, hQ19, l19, y19, z19⟩, st19⟩ := X0.virtualBack hx (y := (⟨"com/example/esteem/esteem/index/Postings", "doc", "(I)I"⟩ : MethodName)) (z := (⟨"com/example/esteem/esteem/index/Postings", "doc", "(I)I"⟩ : MethodName)) hown (mvT hZ (hw _ (List.mem_of_getElem? (i := 77) rfl))) (mvT hZ (hw _ (List.mem_of_getElem? (i := 78) rfl))) (notFace_of_selects (args := #[]) (mvT hZ (hw _ (List.mem_of_getElem? (i := 80) rfl)))) (mvT hZ (hw _ (List.mem_of_getElem? (i := 80) rfl))) (mvT hZ (hw _ (List.mem_of_getElem? (i := 79) rfl))) (by decide) (backOf (W := 0) (rmDO l Z a0 hw [] a1 i dd ds dp dc pc df sf pf h0 n0 Z0 B hdc hpc hi) hZ (hw _ (List.mem_of_getElem? (i := 81) rfl)) (hw _ (List.mem_of_getElem? (i := 27) rfl)) (by decide) (by decide)) q17a q17c (g := (mkF m 6 #[.val (.ref a1), .val (.int p1), .val (.int p2), .val (.int (Int32.ofNat i)), .val (.int (Int32.ofNat j)), .val (.int p5), .val (.int p6)] [(.int (Int32.ofNat i)), (.ref a1)])) rfl (by rw [hml]; rfl) (Steps.refl _) (argsL := [(.int (Int32.ofNat i))]) (rest := []) (lenOf pd__I_I rfl) rfl (by show 2 * 0 + _ ≤ _; exact Nat.le_of_eq rfl) (hb hby d9_6) (fun _ _ => ⟨rfl, e0, (by decide : 0 + 0 ≤ _), (by decide : 0 + 0 ≤ _)⟩)
    dsimp only [Pt.U, Pt.locs, Pt.cells, Pt.slots] at X19 l19 y19 z19 st19 hQ19
    have X19 := own_st X19 (y19.trans (show _ = 0 from rfl)) (z19.trans (show _ = 0 from rfl))
    obtain ⟨rfl, N19q, er3⟩ := hQ19
    have N19 := own_fr l19 N0 N19q
    have pre20 : ∀ t, Steps p.tables e below (T19.setTop (mkF m 9 #[.val (.ref a1), .val (.int p1), .val (.int p2), .val (.int (Int32.ofNat i)), .val (.int (Int32.ofNat j)), .val (.int p5), .val (.int p6)] [(.int (df i))])) t → Steps p.tables e below (s₁.setTop (entryFrame m #[(.ref a1), (.int p1), (.int p2), (.int (Int32.ofNat i)), (.int (Int32.ofNat j)), (.int p5), (.int p6)] 7)) t := fun t kT => pre18 t (st19.trans kT)
    have pre21 : ∀ t, Steps p.tables e below (T19.setTop (mkF m 20 #[.val (.ref a1), .val (.int p1), .val (.int p2), .val (.int (Int32.ofNat i)), .val (.int (Int32.ofNat j)), .val (.int p5), .val (.int p6)] [(.int (Int32.ofNat j)), (.int (Int32.ofNat i)), (.ref a1)])) t → Steps p.tables e below (s₁.setTop (entryFrame m #[(.ref a1), (.int p1), (.int p2), (.int (Int32.ofNat i)), (.int (Int32.ofNat j)), (.int p5), (.int p6)] 7)) t := fun t kT => pre20 t (by
      show Steps p.tables e below (T19.setTop (mkF m 9 #[.val (.ref a1), .val (.int p1), .val (.int p2), .val (.int (Int32.ofNat i)), .val (.int (Int32.ofNat j)), .val (.int p5), .val (.int p6)] [(.int (df i))])) _
      refine XS.iload X19.here hx rfl (hb hby d9_9) rfl ?_
      show Steps p.tables e below (T19.setTop (mkF m 11 #[.val (.ref a1), .val (.int p1), .val (.int p2), .val (.int (Int32.ofNat i)), .val (.int (Int32.ofNat j)), .val (.int p5), .val (.int p6)] [(.int p5), (.int (df i))])) _
      refine XS.icmpYes X19.here hx rfl (pc0 := 11) (pc' := 16) rfl (hb hby d9_11) rfl (teq (h1 hf)).1 (by decide) (by decide) ?_
      show Steps p.tables e below (T19.setTop (mkF m 16 #[.val (.ref a1), .val (.int p1), .val (.int p2), .val (.int (Int32.ofNat i)), .val (.int (Int32.ofNat j)), .val (.int p5), .val (.int p6)] [])) _
      refine XS.aloadN X19.here hx rfl (hb hby d9_16) rfl rfl ?_
      show Steps p.tables e below (T19.setTop (mkF m 17 #[.val (.ref a1), .val (.int p1), .val (.int p2), .val (.int (Int32.ofNat i)), .val (.int (Int32.ofNat j)), .val (.int p5), .val (.int p6)] [(.ref a1)])) _
      refine XS.iloadN X19.here hx rfl (hb hby d9_17) rfl ?_
      show Steps p.tables e below (T19.setTop (mkF m 18 #[.val (.ref a1), .val (.int p1), .val (.int p2), .val (.int (Int32.ofNat i)), .val (.int (Int32.ofNat j)), .val (.int p5), .val (.int p6)] [(.int (Int32.ofNat i)), (.ref a1)])) _
      refine XS.iload X19.here hx rfl (hb hby d9_18) rfl ?_
      exact kT)
    obtain ⟨cI22, kI22, q22a, q22b, q22c⟩ := isOf hZ er3 B.1.2.2.2
    have pre23 : ∀ t, Steps p.tables e below (T19.setTop (mkF m 20 #[.val (.ref a1), .val (.int p1), .val (.int p2), .val (.int (Int32.ofNat i)), .val (.int (Int32.ofNat j)), .val (.int p5), .val (.int p6)] [(.int (Int32.ofNat j)), (.int (Int32.ofNat i)), (.ref a1)])) t → Steps p.tables e below (s₁.setTop (entryFrame m #[(.ref a1), (.int p1), (.int p2), (.int (Int32.ofNat i)), (.int (Int32.ofNat j)), (.int p5), (.int p6)] 7)) t := fun t kT => pre21 t (by
      exact kT)
    obtain ⟨_, _, ⟨T24, L24, k24, n24⟩, -, X24, ⟨Lc24, hQ24, l24, y24, z24⟩, st24⟩ := X19.virtualBack hx (y := (⟨"com/example/esteem/esteem/index/Postings", "position", "(II)I"⟩ : MethodName)) (z := (⟨"com/example/esteem/esteem/index/Postings", "position", "(II)I"⟩ : MethodName)) hown (mvT hZ (hw _ (List.mem_of_getElem? (i := 82) rfl))) (mvT hZ (hw _ (List.mem_of_getElem? (i := 83) rfl))) (notFace_of_selects (args := #[]) (mvT hZ (hw _ (List.mem_of_getElem? (i := 85) rfl)))) (mvT hZ (hw _ (List.mem_of_getElem? (i := 85) rfl))) (mvT hZ (hw _ (List.mem_of_getElem? (i := 84) rfl))) (by decide) (backOf (W := 0) (rmPS l Z a0 hw [] a1 (Int32.ofNat j) i k dd ds dp dc pc df sf pf h0 n0 Z0 B hdc hpc (by omega) hk hs) hZ (hw _ (List.mem_of_getElem? (i := 86) rfl)) (hw _ (List.mem_of_getElem? (i := 27) rfl)) (by decide) (by decide)) q22a q22c (g := (mkF m 20 #[.val (.ref a1), .val (.int p1), .val (.int p2), .val (.int (Int32.ofNat i)), .val (.int (Int32.ofNat j)), .val (.int p5), .val (.int p6)] [(.int (Int32.ofNat j)), (.int (Int32.ofNat i)), (.ref a1)])) rfl (by rw [hml]; rfl) (Steps.refl _) (argsL := [(.int (Int32.ofNat i)), (.int (Int32.ofNat j))]) (rest := []) (lenOf pd__II_I rfl) rfl (by show 2 * 0 + _ ≤ _; exact Nat.le_of_eq rfl) (hb hby d9_20) (fun _ _ => ⟨rfl, er3, (by decide : 0 + 0 ≤ _), (by decide : 0 + 0 ≤ _)⟩)
    dsimp only [Pt.U, Pt.locs, Pt.cells, Pt.slots] at X24 l24 y24 z24 st24 hQ24
    have X24 := own_st X24 (y24.trans (show _ = 0 from rfl)) (z24.trans (show _ = 0 from rfl))
    obtain ⟨rfl, N24q, er4⟩ := hQ24
    have N24 := own_fr l24 N19 N24q
    have pre25 : ∀ t, Steps p.tables e below (T24.setTop (mkF m 23 #[.val (.ref a1), .val (.int p1), .val (.int p2), .val (.int (Int32.ofNat i)), .val (.int (Int32.ofNat j)), .val (.int p5), .val (.int p6)] [(.int (pf k))])) t → Steps p.tables e below (s₁.setTop (entryFrame m #[(.ref a1), (.int p1), (.int p2), (.int (Int32.ofNat i)), (.int (Int32.ofNat j)), (.int p5), (.int p6)] 7)) t := fun t kT => pre23 t (st24.trans kT)
    have pre26 : ∀ t, Steps p.tables e below (T24.setTop (mkF m 31 #[.val (.ref a1), .val (.int p1), .val (.int p2), .val (.int (Int32.ofNat i)), .val (.int (Int32.ofNat j)), .val (.int p5), .val (.int p6)] [(.int p2)])) t → Steps p.tables e below (s₁.setTop (entryFrame m #[(.ref a1), (.int p1), (.int p2), (.int (Int32.ofNat i)), (.int (Int32.ofNat j)), (.int p5), (.int p6)] 7)) t := fun t kT => pre25 t (by
      show Steps p.tables e below (T24.setTop (mkF m 23 #[.val (.ref a1), .val (.int p1), .val (.int p2), .val (.int (Int32.ofNat i)), .val (.int (Int32.ofNat j)), .val (.int p5), .val (.int p6)] [(.int (pf k))])) _
      refine XS.iload X24.here hx rfl (hb hby d9_23) rfl ?_
      show Steps p.tables e below (T24.setTop (mkF m 25 #[.val (.ref a1), .val (.int p1), .val (.int p2), .val (.int (Int32.ofNat i)), .val (.int (Int32.ofNat j)), .val (.int p5), .val (.int p6)] [(.int p6), (.int (pf k))])) _
      refine XS.icmpYes X24.here hx rfl (pc0 := 25) (pc' := 30) rfl (hb hby d9_25) rfl (teq h2).1 (by decide) (by decide) ?_
      show Steps p.tables e below (T24.setTop (mkF m 30 #[.val (.ref a1), .val (.int p1), .val (.int p2), .val (.int (Int32.ofNat i)), .val (.int (Int32.ofNat j)), .val (.int p5), .val (.int p6)] [])) _
      refine XS.iloadN X24.here hx rfl (hb hby d9_30) rfl ?_
      exact kT)
    by_cases hl4 : p2 = (0 : Int32)
    · have pre27 : ∀ t, Steps p.tables e below (T24.setTop (mkF m 49 #[.val (.ref a1), .val (.int p1), .val (.int p2), .val (.int (Int32.ofNat i)), .val (.int (Int32.ofNat j)), .val (.int p5), .val (.int p6)] [(.int (1 : Int32))])) t → Steps p.tables e below (s₁.setTop (entryFrame m #[(.ref a1), (.int p1), (.int p2), (.int (Int32.ofNat i)), (.int (Int32.ofNat j)), (.int p5), (.int p6)] 7)) t := fun t kT => pre26 t (by
        show Steps p.tables e below (T24.setTop (mkF m 31 #[.val (.ref a1), .val (.int p1), .val (.int p2), .val (.int (Int32.ofNat i)), .val (.int (Int32.ofNat j)), .val (.int p5), .val (.int p6)] [(.int p2)])) _
        refine XS.ifYes X24.here hx rfl (pc0 := 31) (pc' := 48) rfl (hb hby d9_31) rfl ((if0 _ _).trans (teq hl4).1) (by decide) (by decide) ?_
        show Steps p.tables e below (T24.setTop (mkF m 48 #[.val (.ref a1), .val (.int p1), .val (.int p2), .val (.int (Int32.ofNat i)), .val (.int (Int32.ofNat j)), .val (.int p5), .val (.int p6)] [])) _
        refine XS.iconst X24.here hx rfl (hb hby d9_48) ?_
        exact kT)
      obtain ⟨fs, hr, hrun, hended, hW, hsame⟩ := X24.leave (v := some (.int (1 : Int32))) (fun h => by rw [Bd.returns] at h; cases h)
      refine ⟨_, _, pre27 _ ?_, hrun, hended, _, _, rfl, ?_, ⟨_, rfl⟩, hW, hsame.mono (by decide) (by decide)⟩
      · exact retN X24 hx (t := .boolean) Bd.returns (by simp) (hb hby d9_49) hr
      · exact ⟨rfl, N24, er4⟩
    · have pre28 : ∀ t, Steps p.tables e below (T24.setTop (mkF m 36 #[.val (.ref a1), .val (.int p1), .val (.int p2), .val (.int (Int32.ofNat i)), .val (.int (Int32.ofNat j)), .val (.int p5), .val (.int p6)] [(.int (Int32.ofNat i)), (.ref a1)])) t → Steps p.tables e below (s₁.setTop (entryFrame m #[(.ref a1), (.int p1), (.int p2), (.int (Int32.ofNat i)), (.int (Int32.ofNat j)), (.int p5), (.int p6)] 7)) t := fun t kT => pre26 t (by
        show Steps p.tables e below (T24.setTop (mkF m 31 #[.val (.ref a1), .val (.int p1), .val (.int p2), .val (.int (Int32.ofNat i)), .val (.int (Int32.ofNat j)), .val (.int p5), .val (.int p6)] [(.int p2)])) _
        refine XS.ifNo X24.here hx rfl (hb hby d9_31) rfl ((if0 _ _).trans (feq hl4).1) ?_
        show Steps p.tables e below (T24.setTop (mkF m 34 #[.val (.ref a1), .val (.int p1), .val (.int p2), .val (.int (Int32.ofNat i)), .val (.int (Int32.ofNat j)), .val (.int p5), .val (.int p6)] [])) _
        refine XS.aloadN X24.here hx rfl (hb hby d9_34) rfl rfl ?_
        show Steps p.tables e below (T24.setTop (mkF m 35 #[.val (.ref a1), .val (.int p1), .val (.int p2), .val (.int (Int32.ofNat i)), .val (.int (Int32.ofNat j)), .val (.int p5), .val (.int p6)] [(.ref a1)])) _
        refine XS.iloadN X24.here hx rfl (hb hby d9_35) rfl ?_
        exact kT)
      obtain ⟨cI29, kI29, q29a, q29b, q29c⟩ := isOf hZ er4 B.1.2.2.2
      have pre30 : ∀ t, Steps p.tables e below (T24.setTop (mkF m 36 #[.val (.ref a1), .val (.int p1), .val (.int p2), .val (.int (Int32.ofNat i)), .val (.int (Int32.ofNat j)), .val (.int p5), .val (.int p6)] [(.int (Int32.ofNat i)), (.ref a1)])) t → Steps p.tables e below (s₁.setTop (entryFrame m #[(.ref a1), (.int p1), (.int p2), (.int (Int32.ofNat i)), (.int (Int32.ofNat j)), (.int p5), (.int p6)] 7)) t := fun t kT => pre28 t (by
        exact kT)
      obtain ⟨_, _, ⟨T31, L31, k31, n31⟩, -, X31, ⟨Lc31, hQ31, l31, y31, z31⟩, st31⟩ := X24.virtualBack hx (y := (⟨"com/example/esteem/esteem/index/Postings", "freq", "(I)I"⟩ : MethodName)) (z := (⟨"com/example/esteem/esteem/index/Postings", "freq", "(I)I"⟩ : MethodName)) hown (mvT hZ (hw _ (List.mem_of_getElem? (i := 87) rfl))) (mvT hZ (hw _ (List.mem_of_getElem? (i := 88) rfl))) (notFace_of_selects (args := #[]) (mvT hZ (hw _ (List.mem_of_getElem? (i := 90) rfl)))) (mvT hZ (hw _ (List.mem_of_getElem? (i := 90) rfl))) (mvT hZ (hw _ (List.mem_of_getElem? (i := 89) rfl))) (by decide) (backOf (W := 0) (rmFQ l Z a0 hw [] a1 i dd ds dp dc pc df sf pf h0 n0 Z0 B hdc hpc hi) hZ (hw _ (List.mem_of_getElem? (i := 91) rfl)) (hw _ (List.mem_of_getElem? (i := 27) rfl)) (by decide) (by decide)) q29a q29c (g := (mkF m 36 #[.val (.ref a1), .val (.int p1), .val (.int p2), .val (.int (Int32.ofNat i)), .val (.int (Int32.ofNat j)), .val (.int p5), .val (.int p6)] [(.int (Int32.ofNat i)), (.ref a1)])) rfl (by rw [hml]; rfl) (Steps.refl _) (argsL := [(.int (Int32.ofNat i))]) (rest := []) (lenOf pd__I_I rfl) rfl (by show 2 * 0 + _ ≤ _; exact Nat.le_of_eq rfl) (hb hby d9_36) (fun _ _ => ⟨rfl, er4, (by decide : 0 + 0 ≤ _), (by decide : 0 + 0 ≤ _)⟩)
      dsimp only [Pt.U, Pt.locs, Pt.cells, Pt.slots] at X31 l31 y31 z31 st31 hQ31
      have X31 := own_st X31 (y31.trans (show _ = 0 from rfl)) (z31.trans (show _ = 0 from rfl))
      obtain ⟨rfl, N31q, er5⟩ := hQ31
      have N31 := own_fr l31 N24 N31q
      have pre32 : ∀ t, Steps p.tables e below (T31.setTop (mkF m 39 #[.val (.ref a1), .val (.int p1), .val (.int p2), .val (.int (Int32.ofNat i)), .val (.int (Int32.ofNat j)), .val (.int p5), .val (.int p6)] [(.int (sf (i + 1) - sf i))])) t → Steps p.tables e below (s₁.setTop (entryFrame m #[(.ref a1), (.int p1), (.int p2), (.int (Int32.ofNat i)), (.int (Int32.ofNat j)), (.int p5), (.int p6)] 7)) t := fun t kT => pre30 t (st31.trans kT)
      have pre33 : ∀ t, Steps p.tables e below (T31.setTop (mkF m 43 #[.val (.ref a1), .val (.int p1), .val (.int p2), .val (.int (Int32.ofNat i)), .val (.int (Int32.ofNat j)), .val (.int p5), .val (.int p6)] [(.int ((Int32.ofNat j) + (1 : Int32))), (.int (sf (i + 1) - sf i))])) t → Steps p.tables e below (s₁.setTop (entryFrame m #[(.ref a1), (.int p1), (.int p2), (.int (Int32.ofNat i)), (.int (Int32.ofNat j)), (.int p5), (.int p6)] 7)) t := fun t kT => pre32 t (by
        show Steps p.tables e below (T31.setTop (mkF m 39 #[.val (.ref a1), .val (.int p1), .val (.int p2), .val (.int (Int32.ofNat i)), .val (.int (Int32.ofNat j)), .val (.int p5), .val (.int p6)] [(.int (sf (i + 1) - sf i))])) _
        refine XS.iload X31.here hx rfl (hb hby d9_39) rfl ?_
        show Steps p.tables e below (T31.setTop (mkF m 41 #[.val (.ref a1), .val (.int p1), .val (.int p2), .val (.int (Int32.ofNat i)), .val (.int (Int32.ofNat j)), .val (.int p5), .val (.int p6)] [(.int (Int32.ofNat j)), (.int (sf (i + 1) - sf i))])) _
        refine XS.iconst X31.here hx rfl (hb hby d9_41) ?_
        show Steps p.tables e below (T31.setTop (mkF m 42 #[.val (.ref a1), .val (.int p1), .val (.int p2), .val (.int (Int32.ofNat i)), .val (.int (Int32.ofNat j)), .val (.int p5), .val (.int p6)] [(.int (1 : Int32)), (.int (Int32.ofNat j)), (.int (sf (i + 1) - sf i))])) _
        refine XS.iadd X31.here hx rfl (hb hby d9_42) rfl ?_
        exact kT)
      rw [own_one] at pre33
      have pre34 : ∀ t, Steps p.tables e below (T31.setTop (mkF m 49 #[.val (.ref a1), .val (.int p1), .val (.int p2), .val (.int (Int32.ofNat i)), .val (.int (Int32.ofNat j)), .val (.int p5), .val (.int p6)] [(.int (1 : Int32))])) t → Steps p.tables e below (s₁.setTop (entryFrame m #[(.ref a1), (.int p1), (.int p2), (.int (Int32.ofNat i)), (.int (Int32.ofNat j)), (.int p5), (.int p6)] 7)) t := fun t kT => pre33 t (by
        show Steps p.tables e below (T31.setTop (mkF m 43 #[.val (.ref a1), .val (.int p1), .val (.int p2), .val (.int (Int32.ofNat i)), .val (.int (Int32.ofNat j)), .val (.int p5), .val (.int p6)] [(.int (Int32.ofNat (j + 1))), (.int (sf (i + 1) - sf i))])) _
        refine XS.icmpYes X31.here hx rfl (pc0 := 43) (pc' := 48) rfl (hb hby d9_43) rfl (teq (h3 hl4)).1 (by decide) (by decide) ?_
        show Steps p.tables e below (T31.setTop (mkF m 48 #[.val (.ref a1), .val (.int p1), .val (.int p2), .val (.int (Int32.ofNat i)), .val (.int (Int32.ofNat j)), .val (.int p5), .val (.int p6)] [])) _
        refine XS.iconst X31.here hx rfl (hb hby d9_48) ?_
        exact kT)
      obtain ⟨fs, hr, hrun, hended, hW, hsame⟩ := X31.leave (v := some (.int (1 : Int32))) (fun h => by rw [Bd.returns] at h; cases h)
      refine ⟨_, _, pre34 _ ?_, hrun, hended, _, _, rfl, ?_, ⟨_, rfl⟩, hW, hsame.mono (by decide) (by decide)⟩
      · exact retN X31 hx (t := .boolean) Bd.returns (by simp) (hb hby d9_49) hr
      · exact ⟨rfl, N31, er5⟩
theorem ef_rm0 (m : MethodId) (x0 : Int32) (x1 : Int32) (x2 : Int32) (x3 : Int32) (x4 : Int32) (x5 : Int32) : entryFrame m #[(.int x0), (.int x1), (.int x2), (.int x3), (.int x4), (.int x5)] maxLocals = mkF m 0 #[.val (.int x0), .val (.int x1), .val (.int x2), .val (.int x3), .val (.int x4), .val (.int x5), .unset, .unset, .unset, .unset, .unset, .unset, .unset, .unset, .unset] [] := by first | (simp [entryFrame, mkF, argsToLocals, Value.category, maxLocals]; done) | rfl
theorem pd___V : parseMethodDescriptor "()V" = some ⟨[], none⟩ := by decide +kernel
theorem own_s0 {s : Int32} (h : s = 0 ∨ s = 1) (z : ¬ own_sel s (0 : Int32) (1 : Int32) = 0) : s = 0 := h.resolve_right (fun q => z (own_sel1 q))
theorem pd___Lcom_example_esteem_esteem_index_Postings_ : parseMethodDescriptor "()Lcom/example/esteem/esteem/index/Postings;" = some ⟨[], some (.object "com/example/esteem/esteem/index/Postings")⟩ := by decide +kernel
theorem pd__II_V : parseMethodDescriptor "(II)V" = some ⟨[.int, .int], none⟩ := by decide +kernel
theorem pd__Lcom_example_esteem_esteem_index_Postings_ZZIIII_Z : parseMethodDescriptor "(Lcom/example/esteem/esteem/index/Postings;ZZIIII)Z" = some ⟨[(.object "com/example/esteem/esteem/index/Postings"), .boolean, .boolean, .int, .int, .int, .int], some .boolean⟩ := by decide +kernel
def Q_rm0 (Z : State) (p1 : Int32) (p2 : Int32) (p3 : Int32) (p4 : Int32) (p5 : Int32) (p6 : Int32) (h0 : Heap) (n0 : Nat) (v : Option Value) (h : Heap) (L : List Loc) : Prop := v = some (.int (1 : Int32)) ∧ Fr n0 L
set_option maxRecDepth 65536 in
set_option maxHeartbeats 40000000 in
theorem rm0 (l : Launch) (Z : State) (a0 : Array Value) (hw : ∀ d ∈ tables_1, d.before a0 Z = true) (ws : List Jvm.Cond) (p1 : Int32) (p2 : Int32) (p3 : Int32) (p4 : Int32) (p5 : Int32) (p6 : Int32) (h0 : Heap) (n0 : Nat) (Z0 : n0 ≤ h0.size) :
    MetFree l x (head1 (Jvm.Cond.code x code maxLocals ret :: ws) room_1) (fun a U => a = #[(.int p1), (.int p2), (.int p3), (.int p4), (.int p5), (.int p6)] ∧ Z.Warmed39 U.vm ∧ U.heap = h0) (fun _ _ _ _ _ => True) (fun _ U o U' => ∃ v L, o = .returned v ∧ Q_rm0 Z p1 p2 p3 p4 p5 p6 h0 n0 v U'.heap L ∧ FrameEnd U o U' L 48 192) := by
  refine MetFree.of_bodySF (plainFor_of_name pn_com_example_esteem_esteem_index_PostingsBuildPinLaw) hisR ?_
  intro p e s m args below meth c s₁ Bd hml0 hP hK
  obtain ⟨rfl, hZ, hh⟩ := hP
  have hx := Bd.exec
  have hby := Bd.bytes
  have hml : c.maxLocals = 15 := hml0
  have hown : s.vm.findClass "com/example/esteem/esteem/index/PostingsBuildPinLaw" = some m.cls := findClass_of_methodNamed Bd.named
  have hnm := (name_of_methodNamed Bd.named Bd.method).1
  have X0 : Stand p l e room_1 s m #[(.int p1), (.int p2), (.int p3), (.int p4), (.int p5), (.int p6)] below meth c s₁ [] 0 0 := Stand.of_body Bd
  have e0 : s₁.heap = h0 := by rw [← hh, Bd.state]; rfl
  have N0 := Fr.nil n0
  have pre0 : ∀ t, Steps p.tables e below (s₁.setTop (mkF m 0 #[.val (.int p1), .val (.int p2), .val (.int p3), .val (.int p4), .val (.int p5), .val (.int p6), .unset, .unset, .unset, .unset, .unset, .unset, .unset, .unset, .unset] [])) t → Steps p.tables e below (s₁.setTop (entryFrame m #[(.int p1), (.int p2), (.int p3), (.int p4), (.int p5), (.int p6)] maxLocals)) t := fun t kT => castTop (ef_rm0 m p1 p2 p3 p4 p5 p6) kT
  have pre1 : ∀ t, Steps p.tables e below (s₁.setTop (mkF m 8 #[.val (.int p1), .val (.int p2), .val (.int p3), .val (.int p4), .val (.int p5), .val (.int p6), .val (.int ((p1 &&& (2147483647 : Int32)) - ((p1 &&& (2147483647 : Int32)) / (4 : Int32)) * (4 : Int32))), .unset, .unset, .unset, .unset, .unset, .unset, .unset, .unset] [])) t → Steps p.tables e below (s₁.setTop (entryFrame m #[(.int p1), (.int p2), (.int p3), (.int p4), (.int p5), (.int p6)] maxLocals)) t := fun t kT => pre0 t (by
    show Steps p.tables e below (s₁.setTop (mkF m 0 #[.val (.int p1), .val (.int p2), .val (.int p3), .val (.int p4), .val (.int p5), .val (.int p6), .unset, .unset, .unset, .unset, .unset, .unset, .unset, .unset, .unset] [])) _
    refine XS.iloadN X0.here hx rfl (hb hby at_0) rfl ?_
    show Steps p.tables e below (s₁.setTop (mkF m 1 #[.val (.int p1), .val (.int p2), .val (.int p3), .val (.int p4), .val (.int p5), .val (.int p6), .unset, .unset, .unset, .unset, .unset, .unset, .unset, .unset, .unset] [(.int p1)])) _
    refine X0.ldcI hx hown (mvT hZ (hw _ (List.mem_of_getElem? (i := 0) rfl))) rfl (hb hby at_1) ?_
    show Steps p.tables e below (s₁.setTop (mkF m 3 #[.val (.int p1), .val (.int p2), .val (.int p3), .val (.int p4), .val (.int p5), .val (.int p6), .unset, .unset, .unset, .unset, .unset, .unset, .unset, .unset, .unset] [(.int (2147483647 : Int32)), (.int p1)])) _
    refine XS.iand X0.here hx rfl (hb hby at_3) rfl ?_
    show Steps p.tables e below (s₁.setTop (mkF m 4 #[.val (.int p1), .val (.int p2), .val (.int p3), .val (.int p4), .val (.int p5), .val (.int p6), .unset, .unset, .unset, .unset, .unset, .unset, .unset, .unset, .unset] [(.int (p1 &&& (2147483647 : Int32)))])) _
    refine XS.iconst X0.here hx rfl (hb hby at_4) ?_
    show Steps p.tables e below (s₁.setTop (mkF m 5 #[.val (.int p1), .val (.int p2), .val (.int p3), .val (.int p4), .val (.int p5), .val (.int p6), .unset, .unset, .unset, .unset, .unset, .unset, .unset, .unset, .unset] [(.int (4 : Int32)), (.int (p1 &&& (2147483647 : Int32)))])) _
    refine XS.irem X0.here hx rfl (hb hby at_5) rfl (by decide) ?_
    show Steps p.tables e below (s₁.setTop (mkF m 6 #[.val (.int p1), .val (.int p2), .val (.int p3), .val (.int p4), .val (.int p5), .val (.int p6), .unset, .unset, .unset, .unset, .unset, .unset, .unset, .unset, .unset] [(.int ((p1 &&& (2147483647 : Int32)) - ((p1 &&& (2147483647 : Int32)) / (4 : Int32)) * (4 : Int32)))])) _
    refine XS.istore X0.here hx rfl (hb hby at_6) rfl (l' := #[.val (.int p1), .val (.int p2), .val (.int p3), .val (.int p4), .val (.int p5), .val (.int p6), .val (.int ((p1 &&& (2147483647 : Int32)) - ((p1 &&& (2147483647 : Int32)) / (4 : Int32)) * (4 : Int32))), .unset, .unset, .unset, .unset, .unset, .unset, .unset, .unset]) rfl ?_
    exact kT)
  obtain ⟨jx, hjx⟩ : ∃ z, z = ((p1 &&& (2147483647 : Int32)) - ((p1 &&& (2147483647 : Int32)) / (4 : Int32)) * (4 : Int32)) := ⟨_, rfl⟩
  rw [← hjx] at pre1
  have rj := own_rem (p1 &&& (2147483647 : Int32)) (4 : Int32) 4 rfl (by decide) (own_nn p1)
  rw [← hjx] at rj
  obtain ⟨nn, hnn, hjn⟩ := own_of (j := jx) (by omega) (by omega)
  subst hjn
  have pre2 : ∀ t, Steps p.tables e below (s₁.setTop (mkF m 9 #[.val (.int p1), .val (.int p2), .val (.int p3), .val (.int p4), .val (.int p5), .val (.int p6), .val (.int (Int32.ofNat nn)), .unset, .unset, .unset, .unset, .unset, .unset, .unset, .unset] [(.int (3 : Int32))])) t → Steps p.tables e below (s₁.setTop (entryFrame m #[(.int p1), (.int p2), (.int p3), (.int p4), (.int p5), (.int p6)] maxLocals)) t := fun t kT => pre1 t (by
    show Steps p.tables e below (s₁.setTop (mkF m 8 #[.val (.int p1), .val (.int p2), .val (.int p3), .val (.int p4), .val (.int p5), .val (.int p6), .val (.int (Int32.ofNat nn)), .unset, .unset, .unset, .unset, .unset, .unset, .unset, .unset] [])) _
    refine XS.iconst X0.here hx rfl (hb hby at_8) ?_
    exact kT)
  obtain ⟨T3, h3, X3, e3, E3, A3, st3⟩ := own_newP X0 hx hZ (hw _ (List.mem_of_getElem? (i := 1) rfl)) e0 (g := (mkF m 9 #[.val (.int p1), .val (.int p2), .val (.int p3), .val (.int p4), .val (.int p5), .val (.int p6), .val (.int (Int32.ofNat nn)), .unset, .unset, .unset, .unset, .unset, .unset, .unset, .unset] [(.int (3 : Int32))])) rfl (hb hby at_9) rfl (by decide) (cap := 3) (by decide) (by decide) (by decide) (by decide)
  obtain ⟨bS, g3⟩ : ∃ z, z = h0.size := ⟨_, rfl⟩
  rw [← g3] at A3 st3
  have g_bS : n0 ≤ bS := Nat.le_trans Z0 (Nat.le_of_eq g3.symm)
  have pre4 : ∀ t, Steps p.tables e below (T3.setTop (mkF m 11 #[.val (.int p1), .val (.int p2), .val (.int p3), .val (.int p4), .val (.int p5), .val (.int p6), .val (.int (Int32.ofNat nn)), .unset, .unset, .unset, .unset, .unset, .unset, .unset, .unset] [(.ref bS)])) t → Steps p.tables e below (s₁.setTop (entryFrame m #[(.int p1), (.int p2), (.int p3), (.int p4), (.int p5), (.int p6)] maxLocals)) t := fun t kT => pre2 t (st3 t kT)
  have sz3 : n0 ≤ h3.size := Nat.le_trans Z0 E3.1
  have V_bS : own_Ar Z h3 bS .boolean 3 (fun _ => (.int (0 : Int32))) := A3
  have pre5 : ∀ t, Steps p.tables e below (T3.setTop (mkF m 14 #[.val (.int p1), .val (.int p2), .val (.int p3), .val (.int p4), .val (.int p5), .val (.int p6), .val (.int (Int32.ofNat nn)), .val (.ref bS), .unset, .unset, .unset, .unset, .unset, .unset, .unset] [(.int (3 : Int32))])) t → Steps p.tables e below (s₁.setTop (entryFrame m #[(.int p1), (.int p2), (.int p3), (.int p4), (.int p5), (.int p6)] maxLocals)) t := fun t kT => pre4 t (by
    show Steps p.tables e below (T3.setTop (mkF m 11 #[.val (.int p1), .val (.int p2), .val (.int p3), .val (.int p4), .val (.int p5), .val (.int p6), .val (.int (Int32.ofNat nn)), .unset, .unset, .unset, .unset, .unset, .unset, .unset, .unset] [(.ref bS)])) _
    refine XS.astore X3.here hx rfl (hb hby at_11) rfl rfl (l' := #[.val (.int p1), .val (.int p2), .val (.int p3), .val (.int p4), .val (.int p5), .val (.int p6), .val (.int (Int32.ofNat nn)), .val (.ref bS), .unset, .unset, .unset, .unset, .unset, .unset, .unset]) rfl ?_
    show Steps p.tables e below (T3.setTop (mkF m 13 #[.val (.int p1), .val (.int p2), .val (.int p3), .val (.int p4), .val (.int p5), .val (.int p6), .val (.int (Int32.ofNat nn)), .val (.ref bS), .unset, .unset, .unset, .unset, .unset, .unset, .unset] [])) _
    refine XS.iconst X3.here hx rfl (hb hby at_13) ?_
    exact kT)
  obtain ⟨T6, h6, X6, e6, E6, A6, st6⟩ := own_newP X3 hx hZ (hw _ (List.mem_of_getElem? (i := 2) rfl)) e3 (g := (mkF m 14 #[.val (.int p1), .val (.int p2), .val (.int p3), .val (.int p4), .val (.int p5), .val (.int p6), .val (.int (Int32.ofNat nn)), .val (.ref bS), .unset, .unset, .unset, .unset, .unset, .unset, .unset] [(.int (3 : Int32))])) rfl (hb hby at_14) rfl (by decide) (cap := 3) (by decide) (by decide) (by decide) (by decide)
  obtain ⟨bD, g6⟩ : ∃ z, z = h3.size := ⟨_, rfl⟩
  rw [← g6] at A6 st6
  have ne_bS_bD : bS ≠ bD := Nat.ne_of_lt (Nat.lt_of_lt_of_le V_bS.lt (Nat.le_of_eq g6.symm))
  have g_bD : n0 ≤ bD := Nat.le_trans sz3 (Nat.le_of_eq g6.symm)
  have pre7 : ∀ t, Steps p.tables e below (T6.setTop (mkF m 16 #[.val (.int p1), .val (.int p2), .val (.int p3), .val (.int p4), .val (.int p5), .val (.int p6), .val (.int (Int32.ofNat nn)), .val (.ref bS), .unset, .unset, .unset, .unset, .unset, .unset, .unset] [(.ref bD)])) t → Steps p.tables e below (s₁.setTop (entryFrame m #[(.int p1), (.int p2), (.int p3), (.int p4), (.int p5), (.int p6)] maxLocals)) t := fun t kT => pre5 t (st6 t kT)
  have V_bS_e6 : own_Ar Z h6 bS .boolean 3 (fun _ => (.int (0 : Int32))) := V_bS.ext E6
  have sz6 : n0 ≤ h6.size := Nat.le_trans sz3 E6.1
  have V_bD : own_Ar Z h6 bD .int 3 (fun _ => (.int (0 : Int32))) := A6
  have pre8 : ∀ t, Steps p.tables e below (T6.setTop (mkF m 19 #[.val (.int p1), .val (.int p2), .val (.int p3), .val (.int p4), .val (.int p5), .val (.int p6), .val (.int (Int32.ofNat nn)), .val (.ref bS), .val (.ref bD), .unset, .unset, .unset, .unset, .unset, .unset] [(.int (3 : Int32))])) t → Steps p.tables e below (s₁.setTop (entryFrame m #[(.int p1), (.int p2), (.int p3), (.int p4), (.int p5), (.int p6)] maxLocals)) t := fun t kT => pre7 t (by
    show Steps p.tables e below (T6.setTop (mkF m 16 #[.val (.int p1), .val (.int p2), .val (.int p3), .val (.int p4), .val (.int p5), .val (.int p6), .val (.int (Int32.ofNat nn)), .val (.ref bS), .unset, .unset, .unset, .unset, .unset, .unset, .unset] [(.ref bD)])) _
    refine XS.astore X6.here hx rfl (hb hby at_16) rfl rfl (l' := #[.val (.int p1), .val (.int p2), .val (.int p3), .val (.int p4), .val (.int p5), .val (.int p6), .val (.int (Int32.ofNat nn)), .val (.ref bS), .val (.ref bD), .unset, .unset, .unset, .unset, .unset, .unset]) rfl ?_
    show Steps p.tables e below (T6.setTop (mkF m 18 #[.val (.int p1), .val (.int p2), .val (.int p3), .val (.int p4), .val (.int p5), .val (.int p6), .val (.int (Int32.ofNat nn)), .val (.ref bS), .val (.ref bD), .unset, .unset, .unset, .unset, .unset, .unset] [])) _
    refine XS.iconst X6.here hx rfl (hb hby at_18) ?_
    exact kT)
  obtain ⟨T9, h9, X9, e9, E9, A9, st9⟩ := own_newP X6 hx hZ (hw _ (List.mem_of_getElem? (i := 2) rfl)) e6 (g := (mkF m 19 #[.val (.int p1), .val (.int p2), .val (.int p3), .val (.int p4), .val (.int p5), .val (.int p6), .val (.int (Int32.ofNat nn)), .val (.ref bS), .val (.ref bD), .unset, .unset, .unset, .unset, .unset, .unset] [(.int (3 : Int32))])) rfl (hb hby at_19) rfl (by decide) (cap := 3) (by decide) (by decide) (by decide) (by decide)
  obtain ⟨bP, g9⟩ : ∃ z, z = h6.size := ⟨_, rfl⟩
  rw [← g9] at A9 st9
  have ne_bS_bP : bS ≠ bP := Nat.ne_of_lt (Nat.lt_of_lt_of_le V_bS_e6.lt (Nat.le_of_eq g9.symm))
  have ne_bD_bP : bD ≠ bP := Nat.ne_of_lt (Nat.lt_of_lt_of_le V_bD.lt (Nat.le_of_eq g9.symm))
  have g_bP : n0 ≤ bP := Nat.le_trans sz6 (Nat.le_of_eq g9.symm)
  have pre10 : ∀ t, Steps p.tables e below (T9.setTop (mkF m 21 #[.val (.int p1), .val (.int p2), .val (.int p3), .val (.int p4), .val (.int p5), .val (.int p6), .val (.int (Int32.ofNat nn)), .val (.ref bS), .val (.ref bD), .unset, .unset, .unset, .unset, .unset, .unset] [(.ref bP)])) t → Steps p.tables e below (s₁.setTop (entryFrame m #[(.int p1), (.int p2), (.int p3), (.int p4), (.int p5), (.int p6)] maxLocals)) t := fun t kT => pre8 t (st9 t kT)
  have V_bS_e9 : own_Ar Z h9 bS .boolean 3 (fun _ => (.int (0 : Int32))) := V_bS_e6.ext E9
  have V_bD_e9 : own_Ar Z h9 bD .int 3 (fun _ => (.int (0 : Int32))) := V_bD.ext E9
  have sz9 : n0 ≤ h9.size := Nat.le_trans sz6 E9.1
  have V_bP : own_Ar Z h9 bP .int 3 (fun _ => (.int (0 : Int32))) := A9
  have pre11 : ∀ t, Steps p.tables e below (T9.setTop (mkF m 24 #[.val (.int p1), .val (.int p2), .val (.int p3), .val (.int p4), .val (.int p5), .val (.int p6), .val (.int (Int32.ofNat nn)), .val (.ref bS), .val (.ref bD), .val (.ref bP), .unset, .unset, .unset, .unset, .unset] [(.int (3 : Int32))])) t → Steps p.tables e below (s₁.setTop (entryFrame m #[(.int p1), (.int p2), (.int p3), (.int p4), (.int p5), (.int p6)] maxLocals)) t := fun t kT => pre10 t (by
    show Steps p.tables e below (T9.setTop (mkF m 21 #[.val (.int p1), .val (.int p2), .val (.int p3), .val (.int p4), .val (.int p5), .val (.int p6), .val (.int (Int32.ofNat nn)), .val (.ref bS), .val (.ref bD), .unset, .unset, .unset, .unset, .unset, .unset] [(.ref bP)])) _
    refine XS.astore X9.here hx rfl (hb hby at_21) rfl rfl (l' := #[.val (.int p1), .val (.int p2), .val (.int p3), .val (.int p4), .val (.int p5), .val (.int p6), .val (.int (Int32.ofNat nn)), .val (.ref bS), .val (.ref bD), .val (.ref bP), .unset, .unset, .unset, .unset, .unset]) rfl ?_
    show Steps p.tables e below (T9.setTop (mkF m 23 #[.val (.int p1), .val (.int p2), .val (.int p3), .val (.int p4), .val (.int p5), .val (.int p6), .val (.int (Int32.ofNat nn)), .val (.ref bS), .val (.ref bD), .val (.ref bP), .unset, .unset, .unset, .unset, .unset] [])) _
    refine XS.iconst X9.here hx rfl (hb hby at_23) ?_
    exact kT)
  obtain ⟨T12, h12, X12, e12, E12, A12, st12⟩ := own_newP X9 hx hZ (hw _ (List.mem_of_getElem? (i := 2) rfl)) e9 (g := (mkF m 24 #[.val (.int p1), .val (.int p2), .val (.int p3), .val (.int p4), .val (.int p5), .val (.int p6), .val (.int (Int32.ofNat nn)), .val (.ref bS), .val (.ref bD), .val (.ref bP), .unset, .unset, .unset, .unset, .unset] [(.int (3 : Int32))])) rfl (hb hby at_24) rfl (by decide) (cap := 3) (by decide) (by decide) (by decide) (by decide)
  obtain ⟨bI, g12⟩ : ∃ z, z = h9.size := ⟨_, rfl⟩
  rw [← g12] at A12 st12
  have ne_bS_bI : bS ≠ bI := Nat.ne_of_lt (Nat.lt_of_lt_of_le V_bS_e9.lt (Nat.le_of_eq g12.symm))
  have ne_bD_bI : bD ≠ bI := Nat.ne_of_lt (Nat.lt_of_lt_of_le V_bD_e9.lt (Nat.le_of_eq g12.symm))
  have ne_bP_bI : bP ≠ bI := Nat.ne_of_lt (Nat.lt_of_lt_of_le V_bP.lt (Nat.le_of_eq g12.symm))
  have g_bI : n0 ≤ bI := Nat.le_trans sz9 (Nat.le_of_eq g12.symm)
  have pre13 : ∀ t, Steps p.tables e below (T12.setTop (mkF m 26 #[.val (.int p1), .val (.int p2), .val (.int p3), .val (.int p4), .val (.int p5), .val (.int p6), .val (.int (Int32.ofNat nn)), .val (.ref bS), .val (.ref bD), .val (.ref bP), .unset, .unset, .unset, .unset, .unset] [(.ref bI)])) t → Steps p.tables e below (s₁.setTop (entryFrame m #[(.int p1), (.int p2), (.int p3), (.int p4), (.int p5), (.int p6)] maxLocals)) t := fun t kT => pre11 t (st12 t kT)
  have V_bS_e12 : own_Ar Z h12 bS .boolean 3 (fun _ => (.int (0 : Int32))) := V_bS_e9.ext E12
  have V_bD_e12 : own_Ar Z h12 bD .int 3 (fun _ => (.int (0 : Int32))) := V_bD_e9.ext E12
  have V_bP_e12 : own_Ar Z h12 bP .int 3 (fun _ => (.int (0 : Int32))) := V_bP.ext E12
  have sz12 : n0 ≤ h12.size := Nat.le_trans sz9 E12.1
  have V_bI : own_Ar Z h12 bI .int 3 (fun _ => (.int (0 : Int32))) := A12
  have pre14 : ∀ t, Steps p.tables e below (T12.setTop (mkF m 29 #[.val (.int p1), .val (.int p2), .val (.int p3), .val (.int p4), .val (.int p5), .val (.int p6), .val (.int (Int32.ofNat nn)), .val (.ref bS), .val (.ref bD), .val (.ref bP), .val (.ref bI), .unset, .unset, .unset, .unset] [(.int (3 : Int32))])) t → Steps p.tables e below (s₁.setTop (entryFrame m #[(.int p1), (.int p2), (.int p3), (.int p4), (.int p5), (.int p6)] maxLocals)) t := fun t kT => pre13 t (by
    show Steps p.tables e below (T12.setTop (mkF m 26 #[.val (.int p1), .val (.int p2), .val (.int p3), .val (.int p4), .val (.int p5), .val (.int p6), .val (.int (Int32.ofNat nn)), .val (.ref bS), .val (.ref bD), .val (.ref bP), .unset, .unset, .unset, .unset, .unset] [(.ref bI)])) _
    refine XS.astore X12.here hx rfl (hb hby at_26) rfl rfl (l' := #[.val (.int p1), .val (.int p2), .val (.int p3), .val (.int p4), .val (.int p5), .val (.int p6), .val (.int (Int32.ofNat nn)), .val (.ref bS), .val (.ref bD), .val (.ref bP), .val (.ref bI), .unset, .unset, .unset, .unset]) rfl ?_
    show Steps p.tables e below (T12.setTop (mkF m 28 #[.val (.int p1), .val (.int p2), .val (.int p3), .val (.int p4), .val (.int p5), .val (.int p6), .val (.int (Int32.ofNat nn)), .val (.ref bS), .val (.ref bD), .val (.ref bP), .val (.ref bI), .unset, .unset, .unset, .unset] [])) _
    refine XS.iconst X12.here hx rfl (hb hby at_28) ?_
    exact kT)
  obtain ⟨T15, h15, X15, e15, E15, A15, st15⟩ := own_newP X12 hx hZ (hw _ (List.mem_of_getElem? (i := 2) rfl)) e12 (g := (mkF m 29 #[.val (.int p1), .val (.int p2), .val (.int p3), .val (.int p4), .val (.int p5), .val (.int p6), .val (.int (Int32.ofNat nn)), .val (.ref bS), .val (.ref bD), .val (.ref bP), .val (.ref bI), .unset, .unset, .unset, .unset] [(.int (3 : Int32))])) rfl (hb hby at_29) rfl (by decide) (cap := 3) (by decide) (by decide) (by decide) (by decide)
  obtain ⟨bJ, g15⟩ : ∃ z, z = h12.size := ⟨_, rfl⟩
  rw [← g15] at A15 st15
  have ne_bS_bJ : bS ≠ bJ := Nat.ne_of_lt (Nat.lt_of_lt_of_le V_bS_e12.lt (Nat.le_of_eq g15.symm))
  have ne_bD_bJ : bD ≠ bJ := Nat.ne_of_lt (Nat.lt_of_lt_of_le V_bD_e12.lt (Nat.le_of_eq g15.symm))
  have ne_bP_bJ : bP ≠ bJ := Nat.ne_of_lt (Nat.lt_of_lt_of_le V_bP_e12.lt (Nat.le_of_eq g15.symm))
  have ne_bI_bJ : bI ≠ bJ := Nat.ne_of_lt (Nat.lt_of_lt_of_le V_bI.lt (Nat.le_of_eq g15.symm))
  have g_bJ : n0 ≤ bJ := Nat.le_trans sz12 (Nat.le_of_eq g15.symm)
  have pre16 : ∀ t, Steps p.tables e below (T15.setTop (mkF m 31 #[.val (.int p1), .val (.int p2), .val (.int p3), .val (.int p4), .val (.int p5), .val (.int p6), .val (.int (Int32.ofNat nn)), .val (.ref bS), .val (.ref bD), .val (.ref bP), .val (.ref bI), .unset, .unset, .unset, .unset] [(.ref bJ)])) t → Steps p.tables e below (s₁.setTop (entryFrame m #[(.int p1), (.int p2), (.int p3), (.int p4), (.int p5), (.int p6)] maxLocals)) t := fun t kT => pre14 t (st15 t kT)
  have V_bS_e15 : own_Ar Z h15 bS .boolean 3 (fun _ => (.int (0 : Int32))) := V_bS_e12.ext E15
  have V_bD_e15 : own_Ar Z h15 bD .int 3 (fun _ => (.int (0 : Int32))) := V_bD_e12.ext E15
  have V_bP_e15 : own_Ar Z h15 bP .int 3 (fun _ => (.int (0 : Int32))) := V_bP_e12.ext E15
  have V_bI_e15 : own_Ar Z h15 bI .int 3 (fun _ => (.int (0 : Int32))) := V_bI.ext E15
  have sz15 : n0 ≤ h15.size := Nat.le_trans sz12 E15.1
  have V_bJ : own_Ar Z h15 bJ .int 3 (fun _ => (.int (0 : Int32))) := A15
  obtain ⟨co17, ⟨Ao17, Ko17⟩, So17, Ho17⟩ := id V_bS_e15
  have io17 := (own_ld So17 Ho17 (j := (0 : Int32)) (i := 0) (by decide) (show (0 : Int32).toNatClampNeg = 0 from rfl) (by decide) rfl).1
  have pre18 : ∀ t, Steps p.tables e below (T15.setTop (mkF m 37 #[.val (.int p1), .val (.int p2), .val (.int p3), .val (.int p4), .val (.int p5), .val (.int p6), .val (.int (Int32.ofNat nn)), .val (.ref bS), .val (.ref bD), .val (.ref bP), .val (.ref bI), .val (.ref bJ), .unset, .unset, .unset] [(.int (0 : Int32)), (.int (0 : Int32)), (.ref bS)])) t → Steps p.tables e below (s₁.setTop (entryFrame m #[(.int p1), (.int p2), (.int p3), (.int p4), (.int p5), (.int p6)] maxLocals)) t := fun t kT => pre16 t (by
    show Steps p.tables e below (T15.setTop (mkF m 31 #[.val (.int p1), .val (.int p2), .val (.int p3), .val (.int p4), .val (.int p5), .val (.int p6), .val (.int (Int32.ofNat nn)), .val (.ref bS), .val (.ref bD), .val (.ref bP), .val (.ref bI), .unset, .unset, .unset, .unset] [(.ref bJ)])) _
    refine XS.astore X15.here hx rfl (hb hby at_31) rfl rfl (l' := #[.val (.int p1), .val (.int p2), .val (.int p3), .val (.int p4), .val (.int p5), .val (.int p6), .val (.int (Int32.ofNat nn)), .val (.ref bS), .val (.ref bD), .val (.ref bP), .val (.ref bI), .val (.ref bJ), .unset, .unset, .unset]) rfl ?_
    show Steps p.tables e below (T15.setTop (mkF m 33 #[.val (.int p1), .val (.int p2), .val (.int p3), .val (.int p4), .val (.int p5), .val (.int p6), .val (.int (Int32.ofNat nn)), .val (.ref bS), .val (.ref bD), .val (.ref bP), .val (.ref bI), .val (.ref bJ), .unset, .unset, .unset] [])) _
    refine XS.aload X15.here hx rfl (hb hby at_33) rfl rfl ?_
    show Steps p.tables e below (T15.setTop (mkF m 35 #[.val (.int p1), .val (.int p2), .val (.int p3), .val (.int p4), .val (.int p5), .val (.int p6), .val (.int (Int32.ofNat nn)), .val (.ref bS), .val (.ref bD), .val (.ref bP), .val (.ref bI), .val (.ref bJ), .unset, .unset, .unset] [(.ref bS)])) _
    refine XS.iconst X15.here hx rfl (hb hby at_35) ?_
    show Steps p.tables e below (T15.setTop (mkF m 36 #[.val (.int p1), .val (.int p2), .val (.int p3), .val (.int p4), .val (.int p5), .val (.int p6), .val (.int (Int32.ofNat nn)), .val (.ref bS), .val (.ref bD), .val (.ref bP), .val (.ref bI), .val (.ref bJ), .unset, .unset, .unset] [(.int (0 : Int32)), (.ref bS)])) _
    refine XS.iconst X15.here hx rfl (hb hby at_36) ?_
    exact kT)
  obtain ⟨T19, h19, X19, e19, W19, st19⟩ := stZ X15 hx hZ e15 Ao17 (j := (0 : Int32)) io17 (g := (mkF m 37 #[.val (.int p1), .val (.int p2), .val (.int p3), .val (.int p4), .val (.int p5), .val (.int p6), .val (.int (Int32.ofNat nn)), .val (.ref bS), .val (.ref bD), .val (.ref bP), .val (.ref bI), .val (.ref bJ), .unset, .unset, .unset] [(.int (0 : Int32)), (.int (0 : Int32)), (.ref bS)])) rfl rfl (hb hby at_37)
  rw [(show (0 : Int32).toNatClampNeg = 0 from rfl)] at W19
  have pre20 : ∀ t, Steps p.tables e below (T19.setTop (mkF m 38 #[.val (.int p1), .val (.int p2), .val (.int p3), .val (.int p4), .val (.int p5), .val (.int p6), .val (.int (Int32.ofNat nn)), .val (.ref bS), .val (.ref bD), .val (.ref bP), .val (.ref bI), .val (.ref bJ), .unset, .unset, .unset] [])) t → Steps p.tables e below (s₁.setTop (entryFrame m #[(.int p1), (.int p2), (.int p3), (.int p4), (.int p5), (.int p6)] maxLocals)) t := fun t kT => pre18 t (st19 t kT)
  have V_bD_e19 : own_Ar Z h19 bD .int 3 (fun _ => (.int (0 : Int32))) := V_bD_e15.other W19 (Ne.symm ne_bS_bD)
  have V_bP_e19 : own_Ar Z h19 bP .int 3 (fun _ => (.int (0 : Int32))) := V_bP_e15.other W19 (Ne.symm ne_bS_bP)
  have V_bI_e19 : own_Ar Z h19 bI .int 3 (fun _ => (.int (0 : Int32))) := V_bI_e15.other W19 (Ne.symm ne_bS_bI)
  have V_bJ_e19 : own_Ar Z h19 bJ .int 3 (fun _ => (.int (0 : Int32))) := V_bJ.other W19 (Ne.symm ne_bS_bJ)
  have sz19 : n0 ≤ h19.size := Nat.le_trans sz15 (Keep.of_wr W19).1
  have V_bS_e19 : own_Ar Z h19 bS .boolean 3 (own_upd (fun _ => (.int (0 : Int32))) 0 (.int (nar .boolean (0 : Int32)))) := V_bS_e15.set W19
  have N19 := Fr.snoc X19 N0 g_bS
  have pre21 : ∀ t, Steps p.tables e below (T19.setTop (mkF m 45 #[.val (.int p1), .val (.int p2), .val (.int p3), .val (.int p4), .val (.int p5), .val (.int p6), .val (.int (Int32.ofNat nn)), .val (.ref bS), .val (.ref bD), .val (.ref bP), .val (.ref bI), .val (.ref bJ), .unset, .unset, .unset] [(.int (p2 &&& (1073741823 : Int32))), (.int (0 : Int32)), (.ref bD)])) t → Steps p.tables e below (s₁.setTop (entryFrame m #[(.int p1), (.int p2), (.int p3), (.int p4), (.int p5), (.int p6)] maxLocals)) t := fun t kT => pre20 t (by
    show Steps p.tables e below (T19.setTop (mkF m 38 #[.val (.int p1), .val (.int p2), .val (.int p3), .val (.int p4), .val (.int p5), .val (.int p6), .val (.int (Int32.ofNat nn)), .val (.ref bS), .val (.ref bD), .val (.ref bP), .val (.ref bI), .val (.ref bJ), .unset, .unset, .unset] [])) _
    refine XS.aload X19.here hx rfl (hb hby at_38) rfl rfl ?_
    show Steps p.tables e below (T19.setTop (mkF m 40 #[.val (.int p1), .val (.int p2), .val (.int p3), .val (.int p4), .val (.int p5), .val (.int p6), .val (.int (Int32.ofNat nn)), .val (.ref bS), .val (.ref bD), .val (.ref bP), .val (.ref bI), .val (.ref bJ), .unset, .unset, .unset] [(.ref bD)])) _
    refine XS.iconst X19.here hx rfl (hb hby at_40) ?_
    show Steps p.tables e below (T19.setTop (mkF m 41 #[.val (.int p1), .val (.int p2), .val (.int p3), .val (.int p4), .val (.int p5), .val (.int p6), .val (.int (Int32.ofNat nn)), .val (.ref bS), .val (.ref bD), .val (.ref bP), .val (.ref bI), .val (.ref bJ), .unset, .unset, .unset] [(.int (0 : Int32)), (.ref bD)])) _
    refine XS.iloadN X19.here hx rfl (hb hby at_41) rfl ?_
    show Steps p.tables e below (T19.setTop (mkF m 42 #[.val (.int p1), .val (.int p2), .val (.int p3), .val (.int p4), .val (.int p5), .val (.int p6), .val (.int (Int32.ofNat nn)), .val (.ref bS), .val (.ref bD), .val (.ref bP), .val (.ref bI), .val (.ref bJ), .unset, .unset, .unset] [(.int p2), (.int (0 : Int32)), (.ref bD)])) _
    refine X19.ldcI hx hown (mvT hZ (hw _ (List.mem_of_getElem? (i := 3) rfl))) rfl (hb hby at_42) ?_
    show Steps p.tables e below (T19.setTop (mkF m 44 #[.val (.int p1), .val (.int p2), .val (.int p3), .val (.int p4), .val (.int p5), .val (.int p6), .val (.int (Int32.ofNat nn)), .val (.ref bS), .val (.ref bD), .val (.ref bP), .val (.ref bI), .val (.ref bJ), .unset, .unset, .unset] [(.int (1073741823 : Int32)), (.int p2), (.int (0 : Int32)), (.ref bD)])) _
    refine XS.iand X19.here hx rfl (hb hby at_44) rfl ?_
    exact kT)
  obtain ⟨dA, hdA⟩ : ∃ z, z = (p2 &&& (1073741823 : Int32)) := ⟨_, rfl⟩
  rw [← hdA] at pre21
  obtain ⟨co22, ⟨Ao22, Ko22⟩, So22, Ho22⟩ := id V_bD_e19
  have io22 := (own_ld So22 Ho22 (j := (0 : Int32)) (i := 0) (by decide) (show (0 : Int32).toNatClampNeg = 0 from rfl) (by decide) rfl).1
  have pre23 : ∀ t, Steps p.tables e below (T19.setTop (mkF m 45 #[.val (.int p1), .val (.int p2), .val (.int p3), .val (.int p4), .val (.int p5), .val (.int p6), .val (.int (Int32.ofNat nn)), .val (.ref bS), .val (.ref bD), .val (.ref bP), .val (.ref bI), .val (.ref bJ), .unset, .unset, .unset] [(.int dA), (.int (0 : Int32)), (.ref bD)])) t → Steps p.tables e below (s₁.setTop (entryFrame m #[(.int p1), (.int p2), (.int p3), (.int p4), (.int p5), (.int p6)] maxLocals)) t := fun t kT => pre21 t (by
    exact kT)
  obtain ⟨T24, h24, X24, e24, W24, st24⟩ := stI X19 hx hZ e19 Ao22 (j := (0 : Int32)) io22 (g := (mkF m 45 #[.val (.int p1), .val (.int p2), .val (.int p3), .val (.int p4), .val (.int p5), .val (.int p6), .val (.int (Int32.ofNat nn)), .val (.ref bS), .val (.ref bD), .val (.ref bP), .val (.ref bI), .val (.ref bJ), .unset, .unset, .unset] [(.int dA), (.int (0 : Int32)), (.ref bD)])) rfl rfl (hb hby at_45)
  rw [(show (0 : Int32).toNatClampNeg = 0 from rfl)] at W24
  have pre25 : ∀ t, Steps p.tables e below (T24.setTop (mkF m 46 #[.val (.int p1), .val (.int p2), .val (.int p3), .val (.int p4), .val (.int p5), .val (.int p6), .val (.int (Int32.ofNat nn)), .val (.ref bS), .val (.ref bD), .val (.ref bP), .val (.ref bI), .val (.ref bJ), .unset, .unset, .unset] [])) t → Steps p.tables e below (s₁.setTop (entryFrame m #[(.int p1), (.int p2), (.int p3), (.int p4), (.int p5), (.int p6)] maxLocals)) t := fun t kT => pre23 t (st24 t kT)
  have V_bS_e24 : own_Ar Z h24 bS .boolean 3 (own_upd (fun _ => (.int (0 : Int32))) 0 (.int (nar .boolean (0 : Int32)))) := V_bS_e19.other W24 ne_bS_bD
  have V_bP_e24 : own_Ar Z h24 bP .int 3 (fun _ => (.int (0 : Int32))) := V_bP_e19.other W24 (Ne.symm ne_bD_bP)
  have V_bI_e24 : own_Ar Z h24 bI .int 3 (fun _ => (.int (0 : Int32))) := V_bI_e19.other W24 (Ne.symm ne_bD_bI)
  have V_bJ_e24 : own_Ar Z h24 bJ .int 3 (fun _ => (.int (0 : Int32))) := V_bJ_e19.other W24 (Ne.symm ne_bD_bJ)
  have sz24 : n0 ≤ h24.size := Nat.le_trans sz19 (Keep.of_wr W24).1
  have V_bD_e24 : own_Ar Z h24 bD .int 3 (own_upd (fun _ => (.int (0 : Int32))) 0 (.int dA)) := V_bD_e19.set W24
  have N24 := Fr.snoc X24 N19 g_bD
  have pre26 : ∀ t, Steps p.tables e below (T24.setTop (mkF m 53 #[.val (.int p1), .val (.int p2), .val (.int p3), .val (.int p4), .val (.int p5), .val (.int p6), .val (.int (Int32.ofNat nn)), .val (.ref bS), .val (.ref bD), .val (.ref bP), .val (.ref bI), .val (.ref bJ), .unset, .unset, .unset] [(.int (p3 &&& (1073741823 : Int32))), (.int (0 : Int32)), (.ref bP)])) t → Steps p.tables e below (s₁.setTop (entryFrame m #[(.int p1), (.int p2), (.int p3), (.int p4), (.int p5), (.int p6)] maxLocals)) t := fun t kT => pre25 t (by
    show Steps p.tables e below (T24.setTop (mkF m 46 #[.val (.int p1), .val (.int p2), .val (.int p3), .val (.int p4), .val (.int p5), .val (.int p6), .val (.int (Int32.ofNat nn)), .val (.ref bS), .val (.ref bD), .val (.ref bP), .val (.ref bI), .val (.ref bJ), .unset, .unset, .unset] [])) _
    refine XS.aload X24.here hx rfl (hb hby at_46) rfl rfl ?_
    show Steps p.tables e below (T24.setTop (mkF m 48 #[.val (.int p1), .val (.int p2), .val (.int p3), .val (.int p4), .val (.int p5), .val (.int p6), .val (.int (Int32.ofNat nn)), .val (.ref bS), .val (.ref bD), .val (.ref bP), .val (.ref bI), .val (.ref bJ), .unset, .unset, .unset] [(.ref bP)])) _
    refine XS.iconst X24.here hx rfl (hb hby at_48) ?_
    show Steps p.tables e below (T24.setTop (mkF m 49 #[.val (.int p1), .val (.int p2), .val (.int p3), .val (.int p4), .val (.int p5), .val (.int p6), .val (.int (Int32.ofNat nn)), .val (.ref bS), .val (.ref bD), .val (.ref bP), .val (.ref bI), .val (.ref bJ), .unset, .unset, .unset] [(.int (0 : Int32)), (.ref bP)])) _
    refine XS.iloadN X24.here hx rfl (hb hby at_49) rfl ?_
    show Steps p.tables e below (T24.setTop (mkF m 50 #[.val (.int p1), .val (.int p2), .val (.int p3), .val (.int p4), .val (.int p5), .val (.int p6), .val (.int (Int32.ofNat nn)), .val (.ref bS), .val (.ref bD), .val (.ref bP), .val (.ref bI), .val (.ref bJ), .unset, .unset, .unset] [(.int p3), (.int (0 : Int32)), (.ref bP)])) _
    refine X24.ldcI hx hown (mvT hZ (hw _ (List.mem_of_getElem? (i := 3) rfl))) rfl (hb hby at_50) ?_
    show Steps p.tables e below (T24.setTop (mkF m 52 #[.val (.int p1), .val (.int p2), .val (.int p3), .val (.int p4), .val (.int p5), .val (.int p6), .val (.int (Int32.ofNat nn)), .val (.ref bS), .val (.ref bD), .val (.ref bP), .val (.ref bI), .val (.ref bJ), .unset, .unset, .unset] [(.int (1073741823 : Int32)), (.int p3), (.int (0 : Int32)), (.ref bP)])) _
    refine XS.iand X24.here hx rfl (hb hby at_52) rfl ?_
    exact kT)
  obtain ⟨qA, hqA⟩ : ∃ z, z = (p3 &&& (1073741823 : Int32)) := ⟨_, rfl⟩
  rw [← hqA] at pre26
  obtain ⟨co27, ⟨Ao27, Ko27⟩, So27, Ho27⟩ := id V_bP_e24
  have io27 := (own_ld So27 Ho27 (j := (0 : Int32)) (i := 0) (by decide) (show (0 : Int32).toNatClampNeg = 0 from rfl) (by decide) rfl).1
  have pre28 : ∀ t, Steps p.tables e below (T24.setTop (mkF m 53 #[.val (.int p1), .val (.int p2), .val (.int p3), .val (.int p4), .val (.int p5), .val (.int p6), .val (.int (Int32.ofNat nn)), .val (.ref bS), .val (.ref bD), .val (.ref bP), .val (.ref bI), .val (.ref bJ), .unset, .unset, .unset] [(.int qA), (.int (0 : Int32)), (.ref bP)])) t → Steps p.tables e below (s₁.setTop (entryFrame m #[(.int p1), (.int p2), (.int p3), (.int p4), (.int p5), (.int p6)] maxLocals)) t := fun t kT => pre26 t (by
    exact kT)
  obtain ⟨T29, h29, X29, e29, W29, st29⟩ := stI X24 hx hZ e24 Ao27 (j := (0 : Int32)) io27 (g := (mkF m 53 #[.val (.int p1), .val (.int p2), .val (.int p3), .val (.int p4), .val (.int p5), .val (.int p6), .val (.int (Int32.ofNat nn)), .val (.ref bS), .val (.ref bD), .val (.ref bP), .val (.ref bI), .val (.ref bJ), .unset, .unset, .unset] [(.int qA), (.int (0 : Int32)), (.ref bP)])) rfl rfl (hb hby at_53)
  rw [(show (0 : Int32).toNatClampNeg = 0 from rfl)] at W29
  have pre30 : ∀ t, Steps p.tables e below (T29.setTop (mkF m 54 #[.val (.int p1), .val (.int p2), .val (.int p3), .val (.int p4), .val (.int p5), .val (.int p6), .val (.int (Int32.ofNat nn)), .val (.ref bS), .val (.ref bD), .val (.ref bP), .val (.ref bI), .val (.ref bJ), .unset, .unset, .unset] [])) t → Steps p.tables e below (s₁.setTop (entryFrame m #[(.int p1), (.int p2), (.int p3), (.int p4), (.int p5), (.int p6)] maxLocals)) t := fun t kT => pre28 t (st29 t kT)
  have V_bS_e29 : own_Ar Z h29 bS .boolean 3 (own_upd (fun _ => (.int (0 : Int32))) 0 (.int (nar .boolean (0 : Int32)))) := V_bS_e24.other W29 ne_bS_bP
  have V_bD_e29 : own_Ar Z h29 bD .int 3 (own_upd (fun _ => (.int (0 : Int32))) 0 (.int dA)) := V_bD_e24.other W29 ne_bD_bP
  have V_bI_e29 : own_Ar Z h29 bI .int 3 (fun _ => (.int (0 : Int32))) := V_bI_e24.other W29 (Ne.symm ne_bP_bI)
  have V_bJ_e29 : own_Ar Z h29 bJ .int 3 (fun _ => (.int (0 : Int32))) := V_bJ_e24.other W29 (Ne.symm ne_bP_bJ)
  have sz29 : n0 ≤ h29.size := Nat.le_trans sz24 (Keep.of_wr W29).1
  have V_bP_e29 : own_Ar Z h29 bP .int 3 (own_upd (fun _ => (.int (0 : Int32))) 0 (.int qA)) := V_bP_e24.set W29
  have N29 := Fr.snoc X29 N24 g_bP
  obtain ⟨co31, ⟨Ao31, Ko31⟩, So31, Ho31⟩ := id V_bI_e29
  have io31 := (own_ld So31 Ho31 (j := (0 : Int32)) (i := 0) (by decide) (show (0 : Int32).toNatClampNeg = 0 from rfl) (by decide) rfl).1
  have pre32 : ∀ t, Steps p.tables e below (T29.setTop (mkF m 58 #[.val (.int p1), .val (.int p2), .val (.int p3), .val (.int p4), .val (.int p5), .val (.int p6), .val (.int (Int32.ofNat nn)), .val (.ref bS), .val (.ref bD), .val (.ref bP), .val (.ref bI), .val (.ref bJ), .unset, .unset, .unset] [(.int (0 : Int32)), (.int (0 : Int32)), (.ref bI)])) t → Steps p.tables e below (s₁.setTop (entryFrame m #[(.int p1), (.int p2), (.int p3), (.int p4), (.int p5), (.int p6)] maxLocals)) t := fun t kT => pre30 t (by
    show Steps p.tables e below (T29.setTop (mkF m 54 #[.val (.int p1), .val (.int p2), .val (.int p3), .val (.int p4), .val (.int p5), .val (.int p6), .val (.int (Int32.ofNat nn)), .val (.ref bS), .val (.ref bD), .val (.ref bP), .val (.ref bI), .val (.ref bJ), .unset, .unset, .unset] [])) _
    refine XS.aload X29.here hx rfl (hb hby at_54) rfl rfl ?_
    show Steps p.tables e below (T29.setTop (mkF m 56 #[.val (.int p1), .val (.int p2), .val (.int p3), .val (.int p4), .val (.int p5), .val (.int p6), .val (.int (Int32.ofNat nn)), .val (.ref bS), .val (.ref bD), .val (.ref bP), .val (.ref bI), .val (.ref bJ), .unset, .unset, .unset] [(.ref bI)])) _
    refine XS.iconst X29.here hx rfl (hb hby at_56) ?_
    show Steps p.tables e below (T29.setTop (mkF m 57 #[.val (.int p1), .val (.int p2), .val (.int p3), .val (.int p4), .val (.int p5), .val (.int p6), .val (.int (Int32.ofNat nn)), .val (.ref bS), .val (.ref bD), .val (.ref bP), .val (.ref bI), .val (.ref bJ), .unset, .unset, .unset] [(.int (0 : Int32)), (.ref bI)])) _
    refine XS.iconst X29.here hx rfl (hb hby at_57) ?_
    exact kT)
  obtain ⟨T33, h33, X33, e33, W33, st33⟩ := stI X29 hx hZ e29 Ao31 (j := (0 : Int32)) io31 (g := (mkF m 58 #[.val (.int p1), .val (.int p2), .val (.int p3), .val (.int p4), .val (.int p5), .val (.int p6), .val (.int (Int32.ofNat nn)), .val (.ref bS), .val (.ref bD), .val (.ref bP), .val (.ref bI), .val (.ref bJ), .unset, .unset, .unset] [(.int (0 : Int32)), (.int (0 : Int32)), (.ref bI)])) rfl rfl (hb hby at_58)
  rw [(show (0 : Int32).toNatClampNeg = 0 from rfl)] at W33
  have pre34 : ∀ t, Steps p.tables e below (T33.setTop (mkF m 59 #[.val (.int p1), .val (.int p2), .val (.int p3), .val (.int p4), .val (.int p5), .val (.int p6), .val (.int (Int32.ofNat nn)), .val (.ref bS), .val (.ref bD), .val (.ref bP), .val (.ref bI), .val (.ref bJ), .unset, .unset, .unset] [])) t → Steps p.tables e below (s₁.setTop (entryFrame m #[(.int p1), (.int p2), (.int p3), (.int p4), (.int p5), (.int p6)] maxLocals)) t := fun t kT => pre32 t (st33 t kT)
  have V_bS_e33 : own_Ar Z h33 bS .boolean 3 (own_upd (fun _ => (.int (0 : Int32))) 0 (.int (nar .boolean (0 : Int32)))) := V_bS_e29.other W33 ne_bS_bI
  have V_bD_e33 : own_Ar Z h33 bD .int 3 (own_upd (fun _ => (.int (0 : Int32))) 0 (.int dA)) := V_bD_e29.other W33 ne_bD_bI
  have V_bP_e33 : own_Ar Z h33 bP .int 3 (own_upd (fun _ => (.int (0 : Int32))) 0 (.int qA)) := V_bP_e29.other W33 ne_bP_bI
  have V_bJ_e33 : own_Ar Z h33 bJ .int 3 (fun _ => (.int (0 : Int32))) := V_bJ_e29.other W33 (Ne.symm ne_bI_bJ)
  have sz33 : n0 ≤ h33.size := Nat.le_trans sz29 (Keep.of_wr W33).1
  have V_bI_e33 : own_Ar Z h33 bI .int 3 (own_upd (fun _ => (.int (0 : Int32))) 0 (.int (0 : Int32))) := V_bI_e29.set W33
  have N33 := Fr.snoc X33 N29 g_bI
  obtain ⟨co35, ⟨Ao35, Ko35⟩, So35, Ho35⟩ := id V_bJ_e33
  have io35 := (own_ld So35 Ho35 (j := (0 : Int32)) (i := 0) (by decide) (show (0 : Int32).toNatClampNeg = 0 from rfl) (by decide) rfl).1
  have pre36 : ∀ t, Steps p.tables e below (T33.setTop (mkF m 63 #[.val (.int p1), .val (.int p2), .val (.int p3), .val (.int p4), .val (.int p5), .val (.int p6), .val (.int (Int32.ofNat nn)), .val (.ref bS), .val (.ref bD), .val (.ref bP), .val (.ref bI), .val (.ref bJ), .unset, .unset, .unset] [(.int (0 : Int32)), (.int (0 : Int32)), (.ref bJ)])) t → Steps p.tables e below (s₁.setTop (entryFrame m #[(.int p1), (.int p2), (.int p3), (.int p4), (.int p5), (.int p6)] maxLocals)) t := fun t kT => pre34 t (by
    show Steps p.tables e below (T33.setTop (mkF m 59 #[.val (.int p1), .val (.int p2), .val (.int p3), .val (.int p4), .val (.int p5), .val (.int p6), .val (.int (Int32.ofNat nn)), .val (.ref bS), .val (.ref bD), .val (.ref bP), .val (.ref bI), .val (.ref bJ), .unset, .unset, .unset] [])) _
    refine XS.aload X33.here hx rfl (hb hby at_59) rfl rfl ?_
    show Steps p.tables e below (T33.setTop (mkF m 61 #[.val (.int p1), .val (.int p2), .val (.int p3), .val (.int p4), .val (.int p5), .val (.int p6), .val (.int (Int32.ofNat nn)), .val (.ref bS), .val (.ref bD), .val (.ref bP), .val (.ref bI), .val (.ref bJ), .unset, .unset, .unset] [(.ref bJ)])) _
    refine XS.iconst X33.here hx rfl (hb hby at_61) ?_
    show Steps p.tables e below (T33.setTop (mkF m 62 #[.val (.int p1), .val (.int p2), .val (.int p3), .val (.int p4), .val (.int p5), .val (.int p6), .val (.int (Int32.ofNat nn)), .val (.ref bS), .val (.ref bD), .val (.ref bP), .val (.ref bI), .val (.ref bJ), .unset, .unset, .unset] [(.int (0 : Int32)), (.ref bJ)])) _
    refine XS.iconst X33.here hx rfl (hb hby at_62) ?_
    exact kT)
  obtain ⟨T37, h37, X37, e37, W37, st37⟩ := stI X33 hx hZ e33 Ao35 (j := (0 : Int32)) io35 (g := (mkF m 63 #[.val (.int p1), .val (.int p2), .val (.int p3), .val (.int p4), .val (.int p5), .val (.int p6), .val (.int (Int32.ofNat nn)), .val (.ref bS), .val (.ref bD), .val (.ref bP), .val (.ref bI), .val (.ref bJ), .unset, .unset, .unset] [(.int (0 : Int32)), (.int (0 : Int32)), (.ref bJ)])) rfl rfl (hb hby at_63)
  rw [(show (0 : Int32).toNatClampNeg = 0 from rfl)] at W37
  have pre38 : ∀ t, Steps p.tables e below (T37.setTop (mkF m 64 #[.val (.int p1), .val (.int p2), .val (.int p3), .val (.int p4), .val (.int p5), .val (.int p6), .val (.int (Int32.ofNat nn)), .val (.ref bS), .val (.ref bD), .val (.ref bP), .val (.ref bI), .val (.ref bJ), .unset, .unset, .unset] [])) t → Steps p.tables e below (s₁.setTop (entryFrame m #[(.int p1), (.int p2), (.int p3), (.int p4), (.int p5), (.int p6)] maxLocals)) t := fun t kT => pre36 t (st37 t kT)
  have V_bS_e37 : own_Ar Z h37 bS .boolean 3 (own_upd (fun _ => (.int (0 : Int32))) 0 (.int (nar .boolean (0 : Int32)))) := V_bS_e33.other W37 ne_bS_bJ
  have V_bD_e37 : own_Ar Z h37 bD .int 3 (own_upd (fun _ => (.int (0 : Int32))) 0 (.int dA)) := V_bD_e33.other W37 ne_bD_bJ
  have V_bP_e37 : own_Ar Z h37 bP .int 3 (own_upd (fun _ => (.int (0 : Int32))) 0 (.int qA)) := V_bP_e33.other W37 ne_bP_bJ
  have V_bI_e37 : own_Ar Z h37 bI .int 3 (own_upd (fun _ => (.int (0 : Int32))) 0 (.int (0 : Int32))) := V_bI_e33.other W37 ne_bI_bJ
  have sz37 : n0 ≤ h37.size := Nat.le_trans sz33 (Keep.of_wr W37).1
  have V_bJ_e37 : own_Ar Z h37 bJ .int 3 (own_upd (fun _ => (.int (0 : Int32))) 0 (.int (0 : Int32))) := V_bJ_e33.set W37
  have N37 := Fr.snoc X37 N33 g_bJ
  have mA : 0 ≤ dA.toInt ∧ dA.toInt < 1073741824 := hdA ▸ own_mask p2
  have mQ : 0 ≤ qA.toInt ∧ qA.toInt < 1073741824 := hqA ▸ own_mask p3
  have pre39 : ∀ t, Steps p.tables e below (T37.setTop (mkF m 80 #[.val (.int p1), .val (.int p2), .val (.int p3), .val (.int p4), .val (.int p5), .val (.int p6), .val (.int (Int32.ofNat nn)), .val (.ref bS), .val (.ref bD), .val (.ref bP), .val (.ref bI), .val (.ref bJ), .unset, .unset, .unset] [(.int (own_nz (((p1.toUInt32 >>> ((4 : Int32) &&& 31).toUInt32).toInt32) &&& (1 : Int32)))), (.int (1 : Int32)), (.ref bS)])) t → Steps p.tables e below (s₁.setTop (entryFrame m #[(.int p1), (.int p2), (.int p3), (.int p4), (.int p5), (.int p6)] maxLocals)) t := fun t kT => pre38 t (by
    show Steps p.tables e below (T37.setTop (mkF m 64 #[.val (.int p1), .val (.int p2), .val (.int p3), .val (.int p4), .val (.int p5), .val (.int p6), .val (.int (Int32.ofNat nn)), .val (.ref bS), .val (.ref bD), .val (.ref bP), .val (.ref bI), .val (.ref bJ), .unset, .unset, .unset] [])) _
    refine XS.aload X37.here hx rfl (hb hby at_64) rfl rfl ?_
    show Steps p.tables e below (T37.setTop (mkF m 66 #[.val (.int p1), .val (.int p2), .val (.int p3), .val (.int p4), .val (.int p5), .val (.int p6), .val (.int (Int32.ofNat nn)), .val (.ref bS), .val (.ref bD), .val (.ref bP), .val (.ref bI), .val (.ref bJ), .unset, .unset, .unset] [(.ref bS)])) _
    refine XS.iconst X37.here hx rfl (hb hby at_66) ?_
    show Steps p.tables e below (T37.setTop (mkF m 67 #[.val (.int p1), .val (.int p2), .val (.int p3), .val (.int p4), .val (.int p5), .val (.int p6), .val (.int (Int32.ofNat nn)), .val (.ref bS), .val (.ref bD), .val (.ref bP), .val (.ref bI), .val (.ref bJ), .unset, .unset, .unset] [(.int (1 : Int32)), (.ref bS)])) _
    refine XS.iloadN X37.here hx rfl (hb hby at_67) rfl ?_
    show Steps p.tables e below (T37.setTop (mkF m 68 #[.val (.int p1), .val (.int p2), .val (.int p3), .val (.int p4), .val (.int p5), .val (.int p6), .val (.int (Int32.ofNat nn)), .val (.ref bS), .val (.ref bD), .val (.ref bP), .val (.ref bI), .val (.ref bJ), .unset, .unset, .unset] [(.int p1), (.int (1 : Int32)), (.ref bS)])) _
    refine XS.iconst X37.here hx rfl (hb hby at_68) ?_
    show Steps p.tables e below (T37.setTop (mkF m 69 #[.val (.int p1), .val (.int p2), .val (.int p3), .val (.int p4), .val (.int p5), .val (.int p6), .val (.int (Int32.ofNat nn)), .val (.ref bS), .val (.ref bD), .val (.ref bP), .val (.ref bI), .val (.ref bJ), .unset, .unset, .unset] [(.int (4 : Int32)), (.int p1), (.int (1 : Int32)), (.ref bS)])) _
    refine XS.iushr X37.here hx rfl (hb hby at_69) rfl ?_
    show Steps p.tables e below (T37.setTop (mkF m 70 #[.val (.int p1), .val (.int p2), .val (.int p3), .val (.int p4), .val (.int p5), .val (.int p6), .val (.int (Int32.ofNat nn)), .val (.ref bS), .val (.ref bD), .val (.ref bP), .val (.ref bI), .val (.ref bJ), .unset, .unset, .unset] [(.int ((p1.toUInt32 >>> ((4 : Int32) &&& 31).toUInt32).toInt32)), (.int (1 : Int32)), (.ref bS)])) _
    refine XS.iconst X37.here hx rfl (hb hby at_70) ?_
    show Steps p.tables e below (T37.setTop (mkF m 71 #[.val (.int p1), .val (.int p2), .val (.int p3), .val (.int p4), .val (.int p5), .val (.int p6), .val (.int (Int32.ofNat nn)), .val (.ref bS), .val (.ref bD), .val (.ref bP), .val (.ref bI), .val (.ref bJ), .unset, .unset, .unset] [(.int (1 : Int32)), (.int ((p1.toUInt32 >>> ((4 : Int32) &&& 31).toUInt32).toInt32)), (.int (1 : Int32)), (.ref bS)])) _
    refine XS.iand X37.here hx rfl (hb hby at_71) rfl ?_
    by_cases hc72 : (((p1.toUInt32 >>> ((4 : Int32) &&& 31).toUInt32).toInt32) &&& (1 : Int32)) = (0 : Int32)
    · show Steps p.tables e below (T37.setTop (mkF m 72 #[.val (.int p1), .val (.int p2), .val (.int p3), .val (.int p4), .val (.int p5), .val (.int p6), .val (.int (Int32.ofNat nn)), .val (.ref bS), .val (.ref bD), .val (.ref bP), .val (.ref bI), .val (.ref bJ), .unset, .unset, .unset] [(.int (((p1.toUInt32 >>> ((4 : Int32) &&& 31).toUInt32).toInt32) &&& (1 : Int32))), (.int (1 : Int32)), (.ref bS)])) _
      refine XS.ifYes X37.here hx rfl (pc0 := 72) (pc' := 79) rfl (hb hby at_72) rfl ((if0 _ _).trans (teq hc72).1) (by decide) (by decide) ?_
      show Steps p.tables e below (T37.setTop (mkF m 79 #[.val (.int p1), .val (.int p2), .val (.int p3), .val (.int p4), .val (.int p5), .val (.int p6), .val (.int (Int32.ofNat nn)), .val (.ref bS), .val (.ref bD), .val (.ref bP), .val (.ref bI), .val (.ref bJ), .unset, .unset, .unset] [(.int (1 : Int32)), (.ref bS)])) _
      refine XS.iconst X37.here hx rfl (hb hby at_79) ?_
      show Steps p.tables e below (T37.setTop (mkF m 80 #[.val (.int p1), .val (.int p2), .val (.int p3), .val (.int p4), .val (.int p5), .val (.int p6), .val (.int (Int32.ofNat nn)), .val (.ref bS), .val (.ref bD), .val (.ref bP), .val (.ref bI), .val (.ref bJ), .unset, .unset, .unset] [(.int (0 : Int32)), (.int (1 : Int32)), (.ref bS)])) _
      exact castTop (by rw [show (own_nz (((p1.toUInt32 >>> ((4 : Int32) &&& 31).toUInt32).toInt32) &&& (1 : Int32))) = (0 : Int32) from by exact (if_pos hc72).trans (rfl)]) kT
    · show Steps p.tables e below (T37.setTop (mkF m 72 #[.val (.int p1), .val (.int p2), .val (.int p3), .val (.int p4), .val (.int p5), .val (.int p6), .val (.int (Int32.ofNat nn)), .val (.ref bS), .val (.ref bD), .val (.ref bP), .val (.ref bI), .val (.ref bJ), .unset, .unset, .unset] [(.int (((p1.toUInt32 >>> ((4 : Int32) &&& 31).toUInt32).toInt32) &&& (1 : Int32))), (.int (1 : Int32)), (.ref bS)])) _
      refine XS.ifNo X37.here hx rfl (hb hby at_72) rfl ((if0 _ _).trans (feq hc72).1) ?_
      show Steps p.tables e below (T37.setTop (mkF m 75 #[.val (.int p1), .val (.int p2), .val (.int p3), .val (.int p4), .val (.int p5), .val (.int p6), .val (.int (Int32.ofNat nn)), .val (.ref bS), .val (.ref bD), .val (.ref bP), .val (.ref bI), .val (.ref bJ), .unset, .unset, .unset] [(.int (1 : Int32)), (.ref bS)])) _
      refine XS.iconst X37.here hx rfl (hb hby at_75) ?_
      show Steps p.tables e below (T37.setTop (mkF m 76 #[.val (.int p1), .val (.int p2), .val (.int p3), .val (.int p4), .val (.int p5), .val (.int p6), .val (.int (Int32.ofNat nn)), .val (.ref bS), .val (.ref bD), .val (.ref bP), .val (.ref bI), .val (.ref bJ), .unset, .unset, .unset] [(.int (1 : Int32)), (.int (1 : Int32)), (.ref bS)])) _
      refine XS.goto X37.here hx rfl (pc0 := 76) (pc' := 80) rfl (hb hby at_76) (by decide) (by decide) ?_
      show Steps p.tables e below (T37.setTop (mkF m 80 #[.val (.int p1), .val (.int p2), .val (.int p3), .val (.int p4), .val (.int p5), .val (.int p6), .val (.int (Int32.ofNat nn)), .val (.ref bS), .val (.ref bD), .val (.ref bP), .val (.ref bI), .val (.ref bJ), .unset, .unset, .unset] [(.int (1 : Int32)), (.int (1 : Int32)), (.ref bS)])) _
      exact castTop (by rw [show (own_nz (((p1.toUInt32 >>> ((4 : Int32) &&& 31).toUInt32).toInt32) &&& (1 : Int32))) = (1 : Int32) from by exact (if_neg hc72).trans (rfl)]) kT)
  have pre40 : ∀ t, Steps p.tables e below (T37.setTop (mkF m 80 #[.val (.int p1), .val (.int p2), .val (.int p3), .val (.int p4), .val (.int p5), .val (.int p6), .val (.int (Int32.ofNat nn)), .val (.ref bS), .val (.ref bD), .val (.ref bP), .val (.ref bI), .val (.ref bJ), .unset, .unset, .unset] [(.int (own_nz (((p1.toUInt32 >>> ((4 : Int32) &&& 31).toUInt32).toInt32) &&& (1 : Int32)))), (.int (1 : Int32)), (.ref bS)])) t → Steps p.tables e below (s₁.setTop (entryFrame m #[(.int p1), (.int p2), (.int p3), (.int p4), (.int p5), (.int p6)] maxLocals)) t := fun t kT => pre39 t (by
    exact kT)
  obtain ⟨s1, hs1⟩ : ∃ z, z = (own_nz (((p1.toUInt32 >>> ((4 : Int32) &&& 31).toUInt32).toInt32) &&& (1 : Int32))) := ⟨_, rfl⟩
  rw [← hs1] at pre40
  have zs1 : s1 = 0 ∨ s1 = 1 := hs1 ▸ own_nz01 _
  obtain ⟨co41, ⟨Ao41, Ko41⟩, So41, Ho41⟩ := id V_bS_e37
  have io41 := (own_ld So41 Ho41 (j := (1 : Int32)) (i := 1) (by decide) (show (1 : Int32).toNatClampNeg = 1 from rfl) (by decide) rfl).1
  have pre42 : ∀ t, Steps p.tables e below (T37.setTop (mkF m 80 #[.val (.int p1), .val (.int p2), .val (.int p3), .val (.int p4), .val (.int p5), .val (.int p6), .val (.int (Int32.ofNat nn)), .val (.ref bS), .val (.ref bD), .val (.ref bP), .val (.ref bI), .val (.ref bJ), .unset, .unset, .unset] [(.int s1), (.int (1 : Int32)), (.ref bS)])) t → Steps p.tables e below (s₁.setTop (entryFrame m #[(.int p1), (.int p2), (.int p3), (.int p4), (.int p5), (.int p6)] maxLocals)) t := fun t kT => pre40 t (by
    exact kT)
  obtain ⟨T43, h43, X43, e43, W43, st43⟩ := stZ X37 hx hZ e37 Ao41 (j := (1 : Int32)) io41 (g := (mkF m 80 #[.val (.int p1), .val (.int p2), .val (.int p3), .val (.int p4), .val (.int p5), .val (.int p6), .val (.int (Int32.ofNat nn)), .val (.ref bS), .val (.ref bD), .val (.ref bP), .val (.ref bI), .val (.ref bJ), .unset, .unset, .unset] [(.int s1), (.int (1 : Int32)), (.ref bS)])) rfl rfl (hb hby at_80)
  rw [(show (1 : Int32).toNatClampNeg = 1 from rfl)] at W43
  have pre44 : ∀ t, Steps p.tables e below (T43.setTop (mkF m 81 #[.val (.int p1), .val (.int p2), .val (.int p3), .val (.int p4), .val (.int p5), .val (.int p6), .val (.int (Int32.ofNat nn)), .val (.ref bS), .val (.ref bD), .val (.ref bP), .val (.ref bI), .val (.ref bJ), .unset, .unset, .unset] [])) t → Steps p.tables e below (s₁.setTop (entryFrame m #[(.int p1), (.int p2), (.int p3), (.int p4), (.int p5), (.int p6)] maxLocals)) t := fun t kT => pre42 t (st43 t kT)
  have V_bD_e43 : own_Ar Z h43 bD .int 3 (own_upd (fun _ => (.int (0 : Int32))) 0 (.int dA)) := V_bD_e37.other W43 (Ne.symm ne_bS_bD)
  have V_bP_e43 : own_Ar Z h43 bP .int 3 (own_upd (fun _ => (.int (0 : Int32))) 0 (.int qA)) := V_bP_e37.other W43 (Ne.symm ne_bS_bP)
  have V_bI_e43 : own_Ar Z h43 bI .int 3 (own_upd (fun _ => (.int (0 : Int32))) 0 (.int (0 : Int32))) := V_bI_e37.other W43 (Ne.symm ne_bS_bI)
  have V_bJ_e43 : own_Ar Z h43 bJ .int 3 (own_upd (fun _ => (.int (0 : Int32))) 0 (.int (0 : Int32))) := V_bJ_e37.other W43 (Ne.symm ne_bS_bJ)
  have sz43 : n0 ≤ h43.size := Nat.le_trans sz37 (Keep.of_wr W43).1
  have V_bS_e43 : own_Ar Z h43 bS .boolean 3 (own_upd (own_upd (fun _ => (.int (0 : Int32))) 0 (.int (nar .boolean (0 : Int32)))) 1 (.int (nar .boolean s1))) := V_bS_e37.set W43
  have N43 := Fr.snoc X43 N37 g_bS
  rw [own_nb zs1] at V_bS_e43
  have pre45 : ∀ t, Steps p.tables e below (T43.setTop (mkF m 81 #[.val (.int p1), .val (.int p2), .val (.int p3), .val (.int p4), .val (.int p5), .val (.int p6), .val (.int (Int32.ofNat nn)), .val (.ref bS), .val (.ref bD), .val (.ref bP), .val (.ref bI), .val (.ref bJ), .unset, .unset, .unset] [])) t → Steps p.tables e below (s₁.setTop (entryFrame m #[(.int p1), (.int p2), (.int p3), (.int p4), (.int p5), (.int p6)] maxLocals)) t := fun t kT => pre44 t (by
    exact kT)
  obtain ⟨co46, ⟨Ao46, Ko46⟩, So46, Ho46⟩ := id V_bS_e43
  obtain ⟨co47, ⟨Ao47, Ko47⟩, So47, Ho47⟩ := id V_bD_e43
  have pre48 : ∀ t, Steps p.tables e below (T43.setTop (mkF m 109 #[.val (.int p1), .val (.int p2), .val (.int p3), .val (.int p4), .val (.int p5), .val (.int p6), .val (.int (Int32.ofNat nn)), .val (.ref bS), .val (.ref bD), .val (.ref bP), .val (.ref bI), .val (.ref bJ), .unset, .unset, .unset] [(.int (own_sel s1 dA ((dA + (1 : Int32)) + (p4 &&& (268435455 : Int32))))), (.int (1 : Int32)), (.ref bD)])) t → Steps p.tables e below (s₁.setTop (entryFrame m #[(.int p1), (.int p2), (.int p3), (.int p4), (.int p5), (.int p6)] maxLocals)) t := fun t kT => pre45 t (by
    show Steps p.tables e below (T43.setTop (mkF m 81 #[.val (.int p1), .val (.int p2), .val (.int p3), .val (.int p4), .val (.int p5), .val (.int p6), .val (.int (Int32.ofNat nn)), .val (.ref bS), .val (.ref bD), .val (.ref bP), .val (.ref bI), .val (.ref bJ), .unset, .unset, .unset] [])) _
    refine XS.aload X43.here hx rfl (hb hby at_81) rfl rfl ?_
    show Steps p.tables e below (T43.setTop (mkF m 83 #[.val (.int p1), .val (.int p2), .val (.int p3), .val (.int p4), .val (.int p5), .val (.int p6), .val (.int (Int32.ofNat nn)), .val (.ref bS), .val (.ref bD), .val (.ref bP), .val (.ref bI), .val (.ref bJ), .unset, .unset, .unset] [(.ref bD)])) _
    refine XS.iconst X43.here hx rfl (hb hby at_83) ?_
    show Steps p.tables e below (T43.setTop (mkF m 84 #[.val (.int p1), .val (.int p2), .val (.int p3), .val (.int p4), .val (.int p5), .val (.int p6), .val (.int (Int32.ofNat nn)), .val (.ref bS), .val (.ref bD), .val (.ref bP), .val (.ref bI), .val (.ref bJ), .unset, .unset, .unset] [(.int (1 : Int32)), (.ref bD)])) _
    refine XS.aload X43.here hx rfl (hb hby at_84) rfl rfl ?_
    show Steps p.tables e below (T43.setTop (mkF m 86 #[.val (.int p1), .val (.int p2), .val (.int p3), .val (.int p4), .val (.int p5), .val (.int p6), .val (.int (Int32.ofNat nn)), .val (.ref bS), .val (.ref bD), .val (.ref bP), .val (.ref bI), .val (.ref bJ), .unset, .unset, .unset] [(.ref bS), (.int (1 : Int32)), (.ref bD)])) _
    refine XS.iconst X43.here hx rfl (hb hby at_86) ?_
    show Steps p.tables e below (T43.setTop (mkF m 87 #[.val (.int p1), .val (.int p2), .val (.int p3), .val (.int p4), .val (.int p5), .val (.int p6), .val (.int (Int32.ofNat nn)), .val (.ref bS), .val (.ref bD), .val (.ref bP), .val (.ref bI), .val (.ref bJ), .unset, .unset, .unset] [(.int (1 : Int32)), (.ref bS), (.int (1 : Int32)), (.ref bD)])) _
    refine X43.baloadBooleans hx (j := (1 : Int32)) (v := (.int s1)) (by rw [e43]; exact Ao46.1) (State.isArrayOf_alike hZ.alike Ao46.2.1) Ao46.2.2 (own_ld So46 Ho46 (j := (1 : Int32)) (i := 1) (by decide) rfl (by decide) (v := (.int s1)) rfl).1 (own_ld So46 Ho46 (j := (1 : Int32)) (i := 1) (by decide) rfl (by decide) (v := (.int s1)) rfl).2 (g := (mkF m 87 #[.val (.int p1), .val (.int p2), .val (.int p3), .val (.int p4), .val (.int p5), .val (.int p6), .val (.int (Int32.ofNat nn)), .val (.ref bS), .val (.ref bD), .val (.ref bP), .val (.ref bI), .val (.ref bJ), .unset, .unset, .unset] [(.int (1 : Int32)), (.ref bS), (.int (1 : Int32)), (.ref bD)])) rfl rfl (hb hby at_87) _ ?_
    by_cases hc88 : s1 = (0 : Int32)
    · show Steps p.tables e below (T43.setTop (mkF m 88 #[.val (.int p1), .val (.int p2), .val (.int p3), .val (.int p4), .val (.int p5), .val (.int p6), .val (.int (Int32.ofNat nn)), .val (.ref bS), .val (.ref bD), .val (.ref bP), .val (.ref bI), .val (.ref bJ), .unset, .unset, .unset] [(.int s1), (.int (1 : Int32)), (.ref bD)])) _
      refine XS.ifYes X43.here hx rfl (pc0 := 88) (pc' := 98) rfl (hb hby at_88) rfl ((if0 _ _).trans (teq hc88).1) (by decide) (by decide) ?_
      show Steps p.tables e below (T43.setTop (mkF m 98 #[.val (.int p1), .val (.int p2), .val (.int p3), .val (.int p4), .val (.int p5), .val (.int p6), .val (.int (Int32.ofNat nn)), .val (.ref bS), .val (.ref bD), .val (.ref bP), .val (.ref bI), .val (.ref bJ), .unset, .unset, .unset] [(.int (1 : Int32)), (.ref bD)])) _
      refine XS.aload X43.here hx rfl (hb hby at_98) rfl rfl ?_
      show Steps p.tables e below (T43.setTop (mkF m 100 #[.val (.int p1), .val (.int p2), .val (.int p3), .val (.int p4), .val (.int p5), .val (.int p6), .val (.int (Int32.ofNat nn)), .val (.ref bS), .val (.ref bD), .val (.ref bP), .val (.ref bI), .val (.ref bJ), .unset, .unset, .unset] [(.ref bD), (.int (1 : Int32)), (.ref bD)])) _
      refine XS.iconst X43.here hx rfl (hb hby at_100) ?_
      show Steps p.tables e below (T43.setTop (mkF m 101 #[.val (.int p1), .val (.int p2), .val (.int p3), .val (.int p4), .val (.int p5), .val (.int p6), .val (.int (Int32.ofNat nn)), .val (.ref bS), .val (.ref bD), .val (.ref bP), .val (.ref bI), .val (.ref bJ), .unset, .unset, .unset] [(.int (0 : Int32)), (.ref bD), (.int (1 : Int32)), (.ref bD)])) _
      refine X43.iaload hx (j := (0 : Int32)) (v := (.int dA)) (by rw [e43]; exact Ao47.1) (State.isArrayOf_alike hZ.alike Ao47.2.1) Ao47.2.2 (own_ld So47 Ho47 (j := (0 : Int32)) (i := 0) (by decide) rfl (by decide) (v := (.int dA)) rfl).1 (own_ld So47 Ho47 (j := (0 : Int32)) (i := 0) (by decide) rfl (by decide) (v := (.int dA)) rfl).2 (g := (mkF m 101 #[.val (.int p1), .val (.int p2), .val (.int p3), .val (.int p4), .val (.int p5), .val (.int p6), .val (.int (Int32.ofNat nn)), .val (.ref bS), .val (.ref bD), .val (.ref bP), .val (.ref bI), .val (.ref bJ), .unset, .unset, .unset] [(.int (0 : Int32)), (.ref bD), (.int (1 : Int32)), (.ref bD)])) rfl rfl (hb hby at_101) _ ?_
      show Steps p.tables e below (T43.setTop (mkF m 102 #[.val (.int p1), .val (.int p2), .val (.int p3), .val (.int p4), .val (.int p5), .val (.int p6), .val (.int (Int32.ofNat nn)), .val (.ref bS), .val (.ref bD), .val (.ref bP), .val (.ref bI), .val (.ref bJ), .unset, .unset, .unset] [(.int dA), (.int (1 : Int32)), (.ref bD)])) _
      refine XS.iconst X43.here hx rfl (hb hby at_102) ?_
      show Steps p.tables e below (T43.setTop (mkF m 103 #[.val (.int p1), .val (.int p2), .val (.int p3), .val (.int p4), .val (.int p5), .val (.int p6), .val (.int (Int32.ofNat nn)), .val (.ref bS), .val (.ref bD), .val (.ref bP), .val (.ref bI), .val (.ref bJ), .unset, .unset, .unset] [(.int (1 : Int32)), (.int dA), (.int (1 : Int32)), (.ref bD)])) _
      refine XS.iadd X43.here hx rfl (hb hby at_103) rfl ?_
      show Steps p.tables e below (T43.setTop (mkF m 104 #[.val (.int p1), .val (.int p2), .val (.int p3), .val (.int p4), .val (.int p5), .val (.int p6), .val (.int (Int32.ofNat nn)), .val (.ref bS), .val (.ref bD), .val (.ref bP), .val (.ref bI), .val (.ref bJ), .unset, .unset, .unset] [(.int (dA + (1 : Int32))), (.int (1 : Int32)), (.ref bD)])) _
      refine XS.iloadN X43.here hx rfl (hb hby at_104) rfl ?_
      show Steps p.tables e below (T43.setTop (mkF m 105 #[.val (.int p1), .val (.int p2), .val (.int p3), .val (.int p4), .val (.int p5), .val (.int p6), .val (.int (Int32.ofNat nn)), .val (.ref bS), .val (.ref bD), .val (.ref bP), .val (.ref bI), .val (.ref bJ), .unset, .unset, .unset] [(.int p4), (.int (dA + (1 : Int32))), (.int (1 : Int32)), (.ref bD)])) _
      refine X43.ldcI hx hown (mvT hZ (hw _ (List.mem_of_getElem? (i := 4) rfl))) rfl (hb hby at_105) ?_
      show Steps p.tables e below (T43.setTop (mkF m 107 #[.val (.int p1), .val (.int p2), .val (.int p3), .val (.int p4), .val (.int p5), .val (.int p6), .val (.int (Int32.ofNat nn)), .val (.ref bS), .val (.ref bD), .val (.ref bP), .val (.ref bI), .val (.ref bJ), .unset, .unset, .unset] [(.int (268435455 : Int32)), (.int p4), (.int (dA + (1 : Int32))), (.int (1 : Int32)), (.ref bD)])) _
      refine XS.iand X43.here hx rfl (hb hby at_107) rfl ?_
      show Steps p.tables e below (T43.setTop (mkF m 108 #[.val (.int p1), .val (.int p2), .val (.int p3), .val (.int p4), .val (.int p5), .val (.int p6), .val (.int (Int32.ofNat nn)), .val (.ref bS), .val (.ref bD), .val (.ref bP), .val (.ref bI), .val (.ref bJ), .unset, .unset, .unset] [(.int (p4 &&& (268435455 : Int32))), (.int (dA + (1 : Int32))), (.int (1 : Int32)), (.ref bD)])) _
      refine XS.iadd X43.here hx rfl (hb hby at_108) rfl ?_
      show Steps p.tables e below (T43.setTop (mkF m 109 #[.val (.int p1), .val (.int p2), .val (.int p3), .val (.int p4), .val (.int p5), .val (.int p6), .val (.int (Int32.ofNat nn)), .val (.ref bS), .val (.ref bD), .val (.ref bP), .val (.ref bI), .val (.ref bJ), .unset, .unset, .unset] [(.int ((dA + (1 : Int32)) + (p4 &&& (268435455 : Int32)))), (.int (1 : Int32)), (.ref bD)])) _
      exact castTop (by rw [show (own_sel s1 dA ((dA + (1 : Int32)) + (p4 &&& (268435455 : Int32)))) = ((dA + (1 : Int32)) + (p4 &&& (268435455 : Int32))) from by exact (if_pos hc88).trans (rfl)]) kT
    · show Steps p.tables e below (T43.setTop (mkF m 88 #[.val (.int p1), .val (.int p2), .val (.int p3), .val (.int p4), .val (.int p5), .val (.int p6), .val (.int (Int32.ofNat nn)), .val (.ref bS), .val (.ref bD), .val (.ref bP), .val (.ref bI), .val (.ref bJ), .unset, .unset, .unset] [(.int s1), (.int (1 : Int32)), (.ref bD)])) _
      refine XS.ifNo X43.here hx rfl (hb hby at_88) rfl ((if0 _ _).trans (feq hc88).1) ?_
      show Steps p.tables e below (T43.setTop (mkF m 91 #[.val (.int p1), .val (.int p2), .val (.int p3), .val (.int p4), .val (.int p5), .val (.int p6), .val (.int (Int32.ofNat nn)), .val (.ref bS), .val (.ref bD), .val (.ref bP), .val (.ref bI), .val (.ref bJ), .unset, .unset, .unset] [(.int (1 : Int32)), (.ref bD)])) _
      refine XS.aload X43.here hx rfl (hb hby at_91) rfl rfl ?_
      show Steps p.tables e below (T43.setTop (mkF m 93 #[.val (.int p1), .val (.int p2), .val (.int p3), .val (.int p4), .val (.int p5), .val (.int p6), .val (.int (Int32.ofNat nn)), .val (.ref bS), .val (.ref bD), .val (.ref bP), .val (.ref bI), .val (.ref bJ), .unset, .unset, .unset] [(.ref bD), (.int (1 : Int32)), (.ref bD)])) _
      refine XS.iconst X43.here hx rfl (hb hby at_93) ?_
      show Steps p.tables e below (T43.setTop (mkF m 94 #[.val (.int p1), .val (.int p2), .val (.int p3), .val (.int p4), .val (.int p5), .val (.int p6), .val (.int (Int32.ofNat nn)), .val (.ref bS), .val (.ref bD), .val (.ref bP), .val (.ref bI), .val (.ref bJ), .unset, .unset, .unset] [(.int (0 : Int32)), (.ref bD), (.int (1 : Int32)), (.ref bD)])) _
      refine X43.iaload hx (j := (0 : Int32)) (v := (.int dA)) (by rw [e43]; exact Ao47.1) (State.isArrayOf_alike hZ.alike Ao47.2.1) Ao47.2.2 (own_ld So47 Ho47 (j := (0 : Int32)) (i := 0) (by decide) rfl (by decide) (v := (.int dA)) rfl).1 (own_ld So47 Ho47 (j := (0 : Int32)) (i := 0) (by decide) rfl (by decide) (v := (.int dA)) rfl).2 (g := (mkF m 94 #[.val (.int p1), .val (.int p2), .val (.int p3), .val (.int p4), .val (.int p5), .val (.int p6), .val (.int (Int32.ofNat nn)), .val (.ref bS), .val (.ref bD), .val (.ref bP), .val (.ref bI), .val (.ref bJ), .unset, .unset, .unset] [(.int (0 : Int32)), (.ref bD), (.int (1 : Int32)), (.ref bD)])) rfl rfl (hb hby at_94) _ ?_
      show Steps p.tables e below (T43.setTop (mkF m 95 #[.val (.int p1), .val (.int p2), .val (.int p3), .val (.int p4), .val (.int p5), .val (.int p6), .val (.int (Int32.ofNat nn)), .val (.ref bS), .val (.ref bD), .val (.ref bP), .val (.ref bI), .val (.ref bJ), .unset, .unset, .unset] [(.int dA), (.int (1 : Int32)), (.ref bD)])) _
      refine XS.goto X43.here hx rfl (pc0 := 95) (pc' := 109) rfl (hb hby at_95) (by decide) (by decide) ?_
      show Steps p.tables e below (T43.setTop (mkF m 109 #[.val (.int p1), .val (.int p2), .val (.int p3), .val (.int p4), .val (.int p5), .val (.int p6), .val (.int (Int32.ofNat nn)), .val (.ref bS), .val (.ref bD), .val (.ref bP), .val (.ref bI), .val (.ref bJ), .unset, .unset, .unset] [(.int dA), (.int (1 : Int32)), (.ref bD)])) _
      exact castTop (by rw [show (own_sel s1 dA ((dA + (1 : Int32)) + (p4 &&& (268435455 : Int32)))) = dA from by exact (if_neg hc88).trans (rfl)]) kT)
  have pre49 : ∀ t, Steps p.tables e below (T43.setTop (mkF m 109 #[.val (.int p1), .val (.int p2), .val (.int p3), .val (.int p4), .val (.int p5), .val (.int p6), .val (.int (Int32.ofNat nn)), .val (.ref bS), .val (.ref bD), .val (.ref bP), .val (.ref bI), .val (.ref bJ), .unset, .unset, .unset] [(.int (own_sel s1 dA ((dA + (1 : Int32)) + (p4 &&& (268435455 : Int32))))), (.int (1 : Int32)), (.ref bD)])) t → Steps p.tables e below (s₁.setTop (entryFrame m #[(.int p1), (.int p2), (.int p3), (.int p4), (.int p5), (.int p6)] maxLocals)) t := fun t kT => pre48 t (by
    exact kT)
  obtain ⟨dB, hdB⟩ : ∃ z, z = (own_sel s1 dA ((dA + (1 : Int32)) + (p4 &&& (268435455 : Int32)))) := ⟨_, rfl⟩
  rw [← hdB] at pre49
  obtain ⟨co50, ⟨Ao50, Ko50⟩, So50, Ho50⟩ := id V_bD_e43
  have io50 := (own_ld So50 Ho50 (j := (1 : Int32)) (i := 1) (by decide) (show (1 : Int32).toNatClampNeg = 1 from rfl) (by decide) rfl).1
  have pre51 : ∀ t, Steps p.tables e below (T43.setTop (mkF m 109 #[.val (.int p1), .val (.int p2), .val (.int p3), .val (.int p4), .val (.int p5), .val (.int p6), .val (.int (Int32.ofNat nn)), .val (.ref bS), .val (.ref bD), .val (.ref bP), .val (.ref bI), .val (.ref bJ), .unset, .unset, .unset] [(.int dB), (.int (1 : Int32)), (.ref bD)])) t → Steps p.tables e below (s₁.setTop (entryFrame m #[(.int p1), (.int p2), (.int p3), (.int p4), (.int p5), (.int p6)] maxLocals)) t := fun t kT => pre49 t (by
    exact kT)
  obtain ⟨T52, h52, X52, e52, W52, st52⟩ := stI X43 hx hZ e43 Ao50 (j := (1 : Int32)) io50 (g := (mkF m 109 #[.val (.int p1), .val (.int p2), .val (.int p3), .val (.int p4), .val (.int p5), .val (.int p6), .val (.int (Int32.ofNat nn)), .val (.ref bS), .val (.ref bD), .val (.ref bP), .val (.ref bI), .val (.ref bJ), .unset, .unset, .unset] [(.int dB), (.int (1 : Int32)), (.ref bD)])) rfl rfl (hb hby at_109)
  rw [(show (1 : Int32).toNatClampNeg = 1 from rfl)] at W52
  have pre53 : ∀ t, Steps p.tables e below (T52.setTop (mkF m 110 #[.val (.int p1), .val (.int p2), .val (.int p3), .val (.int p4), .val (.int p5), .val (.int p6), .val (.int (Int32.ofNat nn)), .val (.ref bS), .val (.ref bD), .val (.ref bP), .val (.ref bI), .val (.ref bJ), .unset, .unset, .unset] [])) t → Steps p.tables e below (s₁.setTop (entryFrame m #[(.int p1), (.int p2), (.int p3), (.int p4), (.int p5), (.int p6)] maxLocals)) t := fun t kT => pre51 t (st52 t kT)
  have V_bS_e52 : own_Ar Z h52 bS .boolean 3 (own_upd (own_upd (fun _ => (.int (0 : Int32))) 0 (.int (nar .boolean (0 : Int32)))) 1 (.int s1)) := V_bS_e43.other W52 ne_bS_bD
  have V_bP_e52 : own_Ar Z h52 bP .int 3 (own_upd (fun _ => (.int (0 : Int32))) 0 (.int qA)) := V_bP_e43.other W52 (Ne.symm ne_bD_bP)
  have V_bI_e52 : own_Ar Z h52 bI .int 3 (own_upd (fun _ => (.int (0 : Int32))) 0 (.int (0 : Int32))) := V_bI_e43.other W52 (Ne.symm ne_bD_bI)
  have V_bJ_e52 : own_Ar Z h52 bJ .int 3 (own_upd (fun _ => (.int (0 : Int32))) 0 (.int (0 : Int32))) := V_bJ_e43.other W52 (Ne.symm ne_bD_bJ)
  have sz52 : n0 ≤ h52.size := Nat.le_trans sz43 (Keep.of_wr W52).1
  have V_bD_e52 : own_Ar Z h52 bD .int 3 (own_upd (own_upd (fun _ => (.int (0 : Int32))) 0 (.int dA)) 1 (.int dB)) := V_bD_e43.set W52
  have N52 := Fr.snoc X52 N43 g_bD
  have pre54 : ∀ t, Steps p.tables e below (T52.setTop (mkF m 110 #[.val (.int p1), .val (.int p2), .val (.int p3), .val (.int p4), .val (.int p5), .val (.int p6), .val (.int (Int32.ofNat nn)), .val (.ref bS), .val (.ref bD), .val (.ref bP), .val (.ref bI), .val (.ref bJ), .unset, .unset, .unset] [])) t → Steps p.tables e below (s₁.setTop (entryFrame m #[(.int p1), (.int p2), (.int p3), (.int p4), (.int p5), (.int p6)] maxLocals)) t := fun t kT => pre53 t (by
    exact kT)
  obtain ⟨co55, ⟨Ao55, Ko55⟩, So55, Ho55⟩ := id V_bS_e52
  obtain ⟨co56, ⟨Ao56, Ko56⟩, So56, Ho56⟩ := id V_bP_e52
  have pre57 : ∀ t, Steps p.tables e below (T52.setTop (mkF m 140 #[.val (.int p1), .val (.int p2), .val (.int p3), .val (.int p4), .val (.int p5), .val (.int p6), .val (.int (Int32.ofNat nn)), .val (.ref bS), .val (.ref bD), .val (.ref bP), .val (.ref bI), .val (.ref bJ), .unset, .unset, .unset] [(.int (own_sel s1 ((qA + (1 : Int32)) + (p5 &&& (268435455 : Int32))) (p6 &&& (1073741823 : Int32)))), (.int (1 : Int32)), (.ref bP)])) t → Steps p.tables e below (s₁.setTop (entryFrame m #[(.int p1), (.int p2), (.int p3), (.int p4), (.int p5), (.int p6)] maxLocals)) t := fun t kT => pre54 t (by
    show Steps p.tables e below (T52.setTop (mkF m 110 #[.val (.int p1), .val (.int p2), .val (.int p3), .val (.int p4), .val (.int p5), .val (.int p6), .val (.int (Int32.ofNat nn)), .val (.ref bS), .val (.ref bD), .val (.ref bP), .val (.ref bI), .val (.ref bJ), .unset, .unset, .unset] [])) _
    refine XS.aload X52.here hx rfl (hb hby at_110) rfl rfl ?_
    show Steps p.tables e below (T52.setTop (mkF m 112 #[.val (.int p1), .val (.int p2), .val (.int p3), .val (.int p4), .val (.int p5), .val (.int p6), .val (.int (Int32.ofNat nn)), .val (.ref bS), .val (.ref bD), .val (.ref bP), .val (.ref bI), .val (.ref bJ), .unset, .unset, .unset] [(.ref bP)])) _
    refine XS.iconst X52.here hx rfl (hb hby at_112) ?_
    show Steps p.tables e below (T52.setTop (mkF m 113 #[.val (.int p1), .val (.int p2), .val (.int p3), .val (.int p4), .val (.int p5), .val (.int p6), .val (.int (Int32.ofNat nn)), .val (.ref bS), .val (.ref bD), .val (.ref bP), .val (.ref bI), .val (.ref bJ), .unset, .unset, .unset] [(.int (1 : Int32)), (.ref bP)])) _
    refine XS.aload X52.here hx rfl (hb hby at_113) rfl rfl ?_
    show Steps p.tables e below (T52.setTop (mkF m 115 #[.val (.int p1), .val (.int p2), .val (.int p3), .val (.int p4), .val (.int p5), .val (.int p6), .val (.int (Int32.ofNat nn)), .val (.ref bS), .val (.ref bD), .val (.ref bP), .val (.ref bI), .val (.ref bJ), .unset, .unset, .unset] [(.ref bS), (.int (1 : Int32)), (.ref bP)])) _
    refine XS.iconst X52.here hx rfl (hb hby at_115) ?_
    show Steps p.tables e below (T52.setTop (mkF m 116 #[.val (.int p1), .val (.int p2), .val (.int p3), .val (.int p4), .val (.int p5), .val (.int p6), .val (.int (Int32.ofNat nn)), .val (.ref bS), .val (.ref bD), .val (.ref bP), .val (.ref bI), .val (.ref bJ), .unset, .unset, .unset] [(.int (1 : Int32)), (.ref bS), (.int (1 : Int32)), (.ref bP)])) _
    refine X52.baloadBooleans hx (j := (1 : Int32)) (v := (.int s1)) (by rw [e52]; exact Ao55.1) (State.isArrayOf_alike hZ.alike Ao55.2.1) Ao55.2.2 (own_ld So55 Ho55 (j := (1 : Int32)) (i := 1) (by decide) rfl (by decide) (v := (.int s1)) rfl).1 (own_ld So55 Ho55 (j := (1 : Int32)) (i := 1) (by decide) rfl (by decide) (v := (.int s1)) rfl).2 (g := (mkF m 116 #[.val (.int p1), .val (.int p2), .val (.int p3), .val (.int p4), .val (.int p5), .val (.int p6), .val (.int (Int32.ofNat nn)), .val (.ref bS), .val (.ref bD), .val (.ref bP), .val (.ref bI), .val (.ref bJ), .unset, .unset, .unset] [(.int (1 : Int32)), (.ref bS), (.int (1 : Int32)), (.ref bP)])) rfl rfl (hb hby at_116) _ ?_
    by_cases hc117 : s1 = (0 : Int32)
    · show Steps p.tables e below (T52.setTop (mkF m 117 #[.val (.int p1), .val (.int p2), .val (.int p3), .val (.int p4), .val (.int p5), .val (.int p6), .val (.int (Int32.ofNat nn)), .val (.ref bS), .val (.ref bD), .val (.ref bP), .val (.ref bI), .val (.ref bJ), .unset, .unset, .unset] [(.int s1), (.int (1 : Int32)), (.ref bP)])) _
      refine XS.ifYes X52.here hx rfl (pc0 := 117) (pc' := 135) rfl (hb hby at_117) rfl ((if0 _ _).trans (teq hc117).1) (by decide) (by decide) ?_
      show Steps p.tables e below (T52.setTop (mkF m 135 #[.val (.int p1), .val (.int p2), .val (.int p3), .val (.int p4), .val (.int p5), .val (.int p6), .val (.int (Int32.ofNat nn)), .val (.ref bS), .val (.ref bD), .val (.ref bP), .val (.ref bI), .val (.ref bJ), .unset, .unset, .unset] [(.int (1 : Int32)), (.ref bP)])) _
      refine XS.iload X52.here hx rfl (hb hby at_135) rfl ?_
      show Steps p.tables e below (T52.setTop (mkF m 137 #[.val (.int p1), .val (.int p2), .val (.int p3), .val (.int p4), .val (.int p5), .val (.int p6), .val (.int (Int32.ofNat nn)), .val (.ref bS), .val (.ref bD), .val (.ref bP), .val (.ref bI), .val (.ref bJ), .unset, .unset, .unset] [(.int p6), (.int (1 : Int32)), (.ref bP)])) _
      refine X52.ldcI hx hown (mvT hZ (hw _ (List.mem_of_getElem? (i := 3) rfl))) rfl (hb hby at_137) ?_
      show Steps p.tables e below (T52.setTop (mkF m 139 #[.val (.int p1), .val (.int p2), .val (.int p3), .val (.int p4), .val (.int p5), .val (.int p6), .val (.int (Int32.ofNat nn)), .val (.ref bS), .val (.ref bD), .val (.ref bP), .val (.ref bI), .val (.ref bJ), .unset, .unset, .unset] [(.int (1073741823 : Int32)), (.int p6), (.int (1 : Int32)), (.ref bP)])) _
      refine XS.iand X52.here hx rfl (hb hby at_139) rfl ?_
      show Steps p.tables e below (T52.setTop (mkF m 140 #[.val (.int p1), .val (.int p2), .val (.int p3), .val (.int p4), .val (.int p5), .val (.int p6), .val (.int (Int32.ofNat nn)), .val (.ref bS), .val (.ref bD), .val (.ref bP), .val (.ref bI), .val (.ref bJ), .unset, .unset, .unset] [(.int (p6 &&& (1073741823 : Int32))), (.int (1 : Int32)), (.ref bP)])) _
      exact castTop (by rw [show (own_sel s1 ((qA + (1 : Int32)) + (p5 &&& (268435455 : Int32))) (p6 &&& (1073741823 : Int32))) = (p6 &&& (1073741823 : Int32)) from by exact (if_pos hc117).trans (rfl)]) kT
    · show Steps p.tables e below (T52.setTop (mkF m 117 #[.val (.int p1), .val (.int p2), .val (.int p3), .val (.int p4), .val (.int p5), .val (.int p6), .val (.int (Int32.ofNat nn)), .val (.ref bS), .val (.ref bD), .val (.ref bP), .val (.ref bI), .val (.ref bJ), .unset, .unset, .unset] [(.int s1), (.int (1 : Int32)), (.ref bP)])) _
      refine XS.ifNo X52.here hx rfl (hb hby at_117) rfl ((if0 _ _).trans (feq hc117).1) ?_
      show Steps p.tables e below (T52.setTop (mkF m 120 #[.val (.int p1), .val (.int p2), .val (.int p3), .val (.int p4), .val (.int p5), .val (.int p6), .val (.int (Int32.ofNat nn)), .val (.ref bS), .val (.ref bD), .val (.ref bP), .val (.ref bI), .val (.ref bJ), .unset, .unset, .unset] [(.int (1 : Int32)), (.ref bP)])) _
      refine XS.aload X52.here hx rfl (hb hby at_120) rfl rfl ?_
      show Steps p.tables e below (T52.setTop (mkF m 122 #[.val (.int p1), .val (.int p2), .val (.int p3), .val (.int p4), .val (.int p5), .val (.int p6), .val (.int (Int32.ofNat nn)), .val (.ref bS), .val (.ref bD), .val (.ref bP), .val (.ref bI), .val (.ref bJ), .unset, .unset, .unset] [(.ref bP), (.int (1 : Int32)), (.ref bP)])) _
      refine XS.iconst X52.here hx rfl (hb hby at_122) ?_
      show Steps p.tables e below (T52.setTop (mkF m 123 #[.val (.int p1), .val (.int p2), .val (.int p3), .val (.int p4), .val (.int p5), .val (.int p6), .val (.int (Int32.ofNat nn)), .val (.ref bS), .val (.ref bD), .val (.ref bP), .val (.ref bI), .val (.ref bJ), .unset, .unset, .unset] [(.int (0 : Int32)), (.ref bP), (.int (1 : Int32)), (.ref bP)])) _
      refine X52.iaload hx (j := (0 : Int32)) (v := (.int qA)) (by rw [e52]; exact Ao56.1) (State.isArrayOf_alike hZ.alike Ao56.2.1) Ao56.2.2 (own_ld So56 Ho56 (j := (0 : Int32)) (i := 0) (by decide) rfl (by decide) (v := (.int qA)) rfl).1 (own_ld So56 Ho56 (j := (0 : Int32)) (i := 0) (by decide) rfl (by decide) (v := (.int qA)) rfl).2 (g := (mkF m 123 #[.val (.int p1), .val (.int p2), .val (.int p3), .val (.int p4), .val (.int p5), .val (.int p6), .val (.int (Int32.ofNat nn)), .val (.ref bS), .val (.ref bD), .val (.ref bP), .val (.ref bI), .val (.ref bJ), .unset, .unset, .unset] [(.int (0 : Int32)), (.ref bP), (.int (1 : Int32)), (.ref bP)])) rfl rfl (hb hby at_123) _ ?_
      show Steps p.tables e below (T52.setTop (mkF m 124 #[.val (.int p1), .val (.int p2), .val (.int p3), .val (.int p4), .val (.int p5), .val (.int p6), .val (.int (Int32.ofNat nn)), .val (.ref bS), .val (.ref bD), .val (.ref bP), .val (.ref bI), .val (.ref bJ), .unset, .unset, .unset] [(.int qA), (.int (1 : Int32)), (.ref bP)])) _
      refine XS.iconst X52.here hx rfl (hb hby at_124) ?_
      show Steps p.tables e below (T52.setTop (mkF m 125 #[.val (.int p1), .val (.int p2), .val (.int p3), .val (.int p4), .val (.int p5), .val (.int p6), .val (.int (Int32.ofNat nn)), .val (.ref bS), .val (.ref bD), .val (.ref bP), .val (.ref bI), .val (.ref bJ), .unset, .unset, .unset] [(.int (1 : Int32)), (.int qA), (.int (1 : Int32)), (.ref bP)])) _
      refine XS.iadd X52.here hx rfl (hb hby at_125) rfl ?_
      show Steps p.tables e below (T52.setTop (mkF m 126 #[.val (.int p1), .val (.int p2), .val (.int p3), .val (.int p4), .val (.int p5), .val (.int p6), .val (.int (Int32.ofNat nn)), .val (.ref bS), .val (.ref bD), .val (.ref bP), .val (.ref bI), .val (.ref bJ), .unset, .unset, .unset] [(.int (qA + (1 : Int32))), (.int (1 : Int32)), (.ref bP)])) _
      refine XS.iload X52.here hx rfl (hb hby at_126) rfl ?_
      show Steps p.tables e below (T52.setTop (mkF m 128 #[.val (.int p1), .val (.int p2), .val (.int p3), .val (.int p4), .val (.int p5), .val (.int p6), .val (.int (Int32.ofNat nn)), .val (.ref bS), .val (.ref bD), .val (.ref bP), .val (.ref bI), .val (.ref bJ), .unset, .unset, .unset] [(.int p5), (.int (qA + (1 : Int32))), (.int (1 : Int32)), (.ref bP)])) _
      refine X52.ldcI hx hown (mvT hZ (hw _ (List.mem_of_getElem? (i := 4) rfl))) rfl (hb hby at_128) ?_
      show Steps p.tables e below (T52.setTop (mkF m 130 #[.val (.int p1), .val (.int p2), .val (.int p3), .val (.int p4), .val (.int p5), .val (.int p6), .val (.int (Int32.ofNat nn)), .val (.ref bS), .val (.ref bD), .val (.ref bP), .val (.ref bI), .val (.ref bJ), .unset, .unset, .unset] [(.int (268435455 : Int32)), (.int p5), (.int (qA + (1 : Int32))), (.int (1 : Int32)), (.ref bP)])) _
      refine XS.iand X52.here hx rfl (hb hby at_130) rfl ?_
      show Steps p.tables e below (T52.setTop (mkF m 131 #[.val (.int p1), .val (.int p2), .val (.int p3), .val (.int p4), .val (.int p5), .val (.int p6), .val (.int (Int32.ofNat nn)), .val (.ref bS), .val (.ref bD), .val (.ref bP), .val (.ref bI), .val (.ref bJ), .unset, .unset, .unset] [(.int (p5 &&& (268435455 : Int32))), (.int (qA + (1 : Int32))), (.int (1 : Int32)), (.ref bP)])) _
      refine XS.iadd X52.here hx rfl (hb hby at_131) rfl ?_
      show Steps p.tables e below (T52.setTop (mkF m 132 #[.val (.int p1), .val (.int p2), .val (.int p3), .val (.int p4), .val (.int p5), .val (.int p6), .val (.int (Int32.ofNat nn)), .val (.ref bS), .val (.ref bD), .val (.ref bP), .val (.ref bI), .val (.ref bJ), .unset, .unset, .unset] [(.int ((qA + (1 : Int32)) + (p5 &&& (268435455 : Int32)))), (.int (1 : Int32)), (.ref bP)])) _
      refine XS.goto X52.here hx rfl (pc0 := 132) (pc' := 140) rfl (hb hby at_132) (by decide) (by decide) ?_
      show Steps p.tables e below (T52.setTop (mkF m 140 #[.val (.int p1), .val (.int p2), .val (.int p3), .val (.int p4), .val (.int p5), .val (.int p6), .val (.int (Int32.ofNat nn)), .val (.ref bS), .val (.ref bD), .val (.ref bP), .val (.ref bI), .val (.ref bJ), .unset, .unset, .unset] [(.int ((qA + (1 : Int32)) + (p5 &&& (268435455 : Int32)))), (.int (1 : Int32)), (.ref bP)])) _
      exact castTop (by rw [show (own_sel s1 ((qA + (1 : Int32)) + (p5 &&& (268435455 : Int32))) (p6 &&& (1073741823 : Int32))) = ((qA + (1 : Int32)) + (p5 &&& (268435455 : Int32))) from by exact (if_neg hc117).trans (rfl)]) kT)
  have pre58 : ∀ t, Steps p.tables e below (T52.setTop (mkF m 140 #[.val (.int p1), .val (.int p2), .val (.int p3), .val (.int p4), .val (.int p5), .val (.int p6), .val (.int (Int32.ofNat nn)), .val (.ref bS), .val (.ref bD), .val (.ref bP), .val (.ref bI), .val (.ref bJ), .unset, .unset, .unset] [(.int (own_sel s1 ((qA + (1 : Int32)) + (p5 &&& (268435455 : Int32))) (p6 &&& (1073741823 : Int32)))), (.int (1 : Int32)), (.ref bP)])) t → Steps p.tables e below (s₁.setTop (entryFrame m #[(.int p1), (.int p2), (.int p3), (.int p4), (.int p5), (.int p6)] maxLocals)) t := fun t kT => pre57 t (by
    exact kT)
  obtain ⟨qB, hqB⟩ : ∃ z, z = (own_sel s1 ((qA + (1 : Int32)) + (p5 &&& (268435455 : Int32))) (p6 &&& (1073741823 : Int32))) := ⟨_, rfl⟩
  rw [← hqB] at pre58
  obtain ⟨co59, ⟨Ao59, Ko59⟩, So59, Ho59⟩ := id V_bP_e52
  have io59 := (own_ld So59 Ho59 (j := (1 : Int32)) (i := 1) (by decide) (show (1 : Int32).toNatClampNeg = 1 from rfl) (by decide) rfl).1
  have pre60 : ∀ t, Steps p.tables e below (T52.setTop (mkF m 140 #[.val (.int p1), .val (.int p2), .val (.int p3), .val (.int p4), .val (.int p5), .val (.int p6), .val (.int (Int32.ofNat nn)), .val (.ref bS), .val (.ref bD), .val (.ref bP), .val (.ref bI), .val (.ref bJ), .unset, .unset, .unset] [(.int qB), (.int (1 : Int32)), (.ref bP)])) t → Steps p.tables e below (s₁.setTop (entryFrame m #[(.int p1), (.int p2), (.int p3), (.int p4), (.int p5), (.int p6)] maxLocals)) t := fun t kT => pre58 t (by
    exact kT)
  obtain ⟨T61, h61, X61, e61, W61, st61⟩ := stI X52 hx hZ e52 Ao59 (j := (1 : Int32)) io59 (g := (mkF m 140 #[.val (.int p1), .val (.int p2), .val (.int p3), .val (.int p4), .val (.int p5), .val (.int p6), .val (.int (Int32.ofNat nn)), .val (.ref bS), .val (.ref bD), .val (.ref bP), .val (.ref bI), .val (.ref bJ), .unset, .unset, .unset] [(.int qB), (.int (1 : Int32)), (.ref bP)])) rfl rfl (hb hby at_140)
  rw [(show (1 : Int32).toNatClampNeg = 1 from rfl)] at W61
  have pre62 : ∀ t, Steps p.tables e below (T61.setTop (mkF m 141 #[.val (.int p1), .val (.int p2), .val (.int p3), .val (.int p4), .val (.int p5), .val (.int p6), .val (.int (Int32.ofNat nn)), .val (.ref bS), .val (.ref bD), .val (.ref bP), .val (.ref bI), .val (.ref bJ), .unset, .unset, .unset] [])) t → Steps p.tables e below (s₁.setTop (entryFrame m #[(.int p1), (.int p2), (.int p3), (.int p4), (.int p5), (.int p6)] maxLocals)) t := fun t kT => pre60 t (st61 t kT)
  have V_bS_e61 : own_Ar Z h61 bS .boolean 3 (own_upd (own_upd (fun _ => (.int (0 : Int32))) 0 (.int (nar .boolean (0 : Int32)))) 1 (.int s1)) := V_bS_e52.other W61 ne_bS_bP
  have V_bD_e61 : own_Ar Z h61 bD .int 3 (own_upd (own_upd (fun _ => (.int (0 : Int32))) 0 (.int dA)) 1 (.int dB)) := V_bD_e52.other W61 ne_bD_bP
  have V_bI_e61 : own_Ar Z h61 bI .int 3 (own_upd (fun _ => (.int (0 : Int32))) 0 (.int (0 : Int32))) := V_bI_e52.other W61 (Ne.symm ne_bP_bI)
  have V_bJ_e61 : own_Ar Z h61 bJ .int 3 (own_upd (fun _ => (.int (0 : Int32))) 0 (.int (0 : Int32))) := V_bJ_e52.other W61 (Ne.symm ne_bP_bJ)
  have sz61 : n0 ≤ h61.size := Nat.le_trans sz52 (Keep.of_wr W61).1
  have V_bP_e61 : own_Ar Z h61 bP .int 3 (own_upd (own_upd (fun _ => (.int (0 : Int32))) 0 (.int qA)) 1 (.int qB)) := V_bP_e52.set W61
  have N61 := Fr.snoc X61 N52 g_bP
  have pre63 : ∀ t, Steps p.tables e below (T61.setTop (mkF m 141 #[.val (.int p1), .val (.int p2), .val (.int p3), .val (.int p4), .val (.int p5), .val (.int p6), .val (.int (Int32.ofNat nn)), .val (.ref bS), .val (.ref bD), .val (.ref bP), .val (.ref bI), .val (.ref bJ), .unset, .unset, .unset] [])) t → Steps p.tables e below (s₁.setTop (entryFrame m #[(.int p1), (.int p2), (.int p3), (.int p4), (.int p5), (.int p6)] maxLocals)) t := fun t kT => pre62 t (by
    exact kT)
  obtain ⟨co64, ⟨Ao64, Ko64⟩, So64, Ho64⟩ := id V_bS_e61
  obtain ⟨co65, ⟨Ao65, Ko65⟩, So65, Ho65⟩ := id V_bI_e61
  have pre66 : ∀ t, Steps p.tables e below (T61.setTop (mkF m 164 #[.val (.int p1), .val (.int p2), .val (.int p3), .val (.int p4), .val (.int p5), .val (.int p6), .val (.int (Int32.ofNat nn)), .val (.ref bS), .val (.ref bD), .val (.ref bP), .val (.ref bI), .val (.ref bJ), .unset, .unset, .unset] [(.int (own_sel s1 (0 : Int32) ((0 : Int32) + (1 : Int32)))), (.int (1 : Int32)), (.ref bI)])) t → Steps p.tables e below (s₁.setTop (entryFrame m #[(.int p1), (.int p2), (.int p3), (.int p4), (.int p5), (.int p6)] maxLocals)) t := fun t kT => pre63 t (by
    show Steps p.tables e below (T61.setTop (mkF m 141 #[.val (.int p1), .val (.int p2), .val (.int p3), .val (.int p4), .val (.int p5), .val (.int p6), .val (.int (Int32.ofNat nn)), .val (.ref bS), .val (.ref bD), .val (.ref bP), .val (.ref bI), .val (.ref bJ), .unset, .unset, .unset] [])) _
    refine XS.aload X61.here hx rfl (hb hby at_141) rfl rfl ?_
    show Steps p.tables e below (T61.setTop (mkF m 143 #[.val (.int p1), .val (.int p2), .val (.int p3), .val (.int p4), .val (.int p5), .val (.int p6), .val (.int (Int32.ofNat nn)), .val (.ref bS), .val (.ref bD), .val (.ref bP), .val (.ref bI), .val (.ref bJ), .unset, .unset, .unset] [(.ref bI)])) _
    refine XS.iconst X61.here hx rfl (hb hby at_143) ?_
    show Steps p.tables e below (T61.setTop (mkF m 144 #[.val (.int p1), .val (.int p2), .val (.int p3), .val (.int p4), .val (.int p5), .val (.int p6), .val (.int (Int32.ofNat nn)), .val (.ref bS), .val (.ref bD), .val (.ref bP), .val (.ref bI), .val (.ref bJ), .unset, .unset, .unset] [(.int (1 : Int32)), (.ref bI)])) _
    refine XS.aload X61.here hx rfl (hb hby at_144) rfl rfl ?_
    show Steps p.tables e below (T61.setTop (mkF m 146 #[.val (.int p1), .val (.int p2), .val (.int p3), .val (.int p4), .val (.int p5), .val (.int p6), .val (.int (Int32.ofNat nn)), .val (.ref bS), .val (.ref bD), .val (.ref bP), .val (.ref bI), .val (.ref bJ), .unset, .unset, .unset] [(.ref bS), (.int (1 : Int32)), (.ref bI)])) _
    refine XS.iconst X61.here hx rfl (hb hby at_146) ?_
    show Steps p.tables e below (T61.setTop (mkF m 147 #[.val (.int p1), .val (.int p2), .val (.int p3), .val (.int p4), .val (.int p5), .val (.int p6), .val (.int (Int32.ofNat nn)), .val (.ref bS), .val (.ref bD), .val (.ref bP), .val (.ref bI), .val (.ref bJ), .unset, .unset, .unset] [(.int (1 : Int32)), (.ref bS), (.int (1 : Int32)), (.ref bI)])) _
    refine X61.baloadBooleans hx (j := (1 : Int32)) (v := (.int s1)) (by rw [e61]; exact Ao64.1) (State.isArrayOf_alike hZ.alike Ao64.2.1) Ao64.2.2 (own_ld So64 Ho64 (j := (1 : Int32)) (i := 1) (by decide) rfl (by decide) (v := (.int s1)) rfl).1 (own_ld So64 Ho64 (j := (1 : Int32)) (i := 1) (by decide) rfl (by decide) (v := (.int s1)) rfl).2 (g := (mkF m 147 #[.val (.int p1), .val (.int p2), .val (.int p3), .val (.int p4), .val (.int p5), .val (.int p6), .val (.int (Int32.ofNat nn)), .val (.ref bS), .val (.ref bD), .val (.ref bP), .val (.ref bI), .val (.ref bJ), .unset, .unset, .unset] [(.int (1 : Int32)), (.ref bS), (.int (1 : Int32)), (.ref bI)])) rfl rfl (hb hby at_147) _ ?_
    by_cases hc148 : s1 = (0 : Int32)
    · show Steps p.tables e below (T61.setTop (mkF m 148 #[.val (.int p1), .val (.int p2), .val (.int p3), .val (.int p4), .val (.int p5), .val (.int p6), .val (.int (Int32.ofNat nn)), .val (.ref bS), .val (.ref bD), .val (.ref bP), .val (.ref bI), .val (.ref bJ), .unset, .unset, .unset] [(.int s1), (.int (1 : Int32)), (.ref bI)])) _
      refine XS.ifYes X61.here hx rfl (pc0 := 148) (pc' := 158) rfl (hb hby at_148) rfl ((if0 _ _).trans (teq hc148).1) (by decide) (by decide) ?_
      show Steps p.tables e below (T61.setTop (mkF m 158 #[.val (.int p1), .val (.int p2), .val (.int p3), .val (.int p4), .val (.int p5), .val (.int p6), .val (.int (Int32.ofNat nn)), .val (.ref bS), .val (.ref bD), .val (.ref bP), .val (.ref bI), .val (.ref bJ), .unset, .unset, .unset] [(.int (1 : Int32)), (.ref bI)])) _
      refine XS.aload X61.here hx rfl (hb hby at_158) rfl rfl ?_
      show Steps p.tables e below (T61.setTop (mkF m 160 #[.val (.int p1), .val (.int p2), .val (.int p3), .val (.int p4), .val (.int p5), .val (.int p6), .val (.int (Int32.ofNat nn)), .val (.ref bS), .val (.ref bD), .val (.ref bP), .val (.ref bI), .val (.ref bJ), .unset, .unset, .unset] [(.ref bI), (.int (1 : Int32)), (.ref bI)])) _
      refine XS.iconst X61.here hx rfl (hb hby at_160) ?_
      show Steps p.tables e below (T61.setTop (mkF m 161 #[.val (.int p1), .val (.int p2), .val (.int p3), .val (.int p4), .val (.int p5), .val (.int p6), .val (.int (Int32.ofNat nn)), .val (.ref bS), .val (.ref bD), .val (.ref bP), .val (.ref bI), .val (.ref bJ), .unset, .unset, .unset] [(.int (0 : Int32)), (.ref bI), (.int (1 : Int32)), (.ref bI)])) _
      refine X61.iaload hx (j := (0 : Int32)) (v := (.int (0 : Int32))) (by rw [e61]; exact Ao65.1) (State.isArrayOf_alike hZ.alike Ao65.2.1) Ao65.2.2 (own_ld So65 Ho65 (j := (0 : Int32)) (i := 0) (by decide) rfl (by decide) (v := (.int (0 : Int32))) rfl).1 (own_ld So65 Ho65 (j := (0 : Int32)) (i := 0) (by decide) rfl (by decide) (v := (.int (0 : Int32))) rfl).2 (g := (mkF m 161 #[.val (.int p1), .val (.int p2), .val (.int p3), .val (.int p4), .val (.int p5), .val (.int p6), .val (.int (Int32.ofNat nn)), .val (.ref bS), .val (.ref bD), .val (.ref bP), .val (.ref bI), .val (.ref bJ), .unset, .unset, .unset] [(.int (0 : Int32)), (.ref bI), (.int (1 : Int32)), (.ref bI)])) rfl rfl (hb hby at_161) _ ?_
      show Steps p.tables e below (T61.setTop (mkF m 162 #[.val (.int p1), .val (.int p2), .val (.int p3), .val (.int p4), .val (.int p5), .val (.int p6), .val (.int (Int32.ofNat nn)), .val (.ref bS), .val (.ref bD), .val (.ref bP), .val (.ref bI), .val (.ref bJ), .unset, .unset, .unset] [(.int (0 : Int32)), (.int (1 : Int32)), (.ref bI)])) _
      refine XS.iconst X61.here hx rfl (hb hby at_162) ?_
      show Steps p.tables e below (T61.setTop (mkF m 163 #[.val (.int p1), .val (.int p2), .val (.int p3), .val (.int p4), .val (.int p5), .val (.int p6), .val (.int (Int32.ofNat nn)), .val (.ref bS), .val (.ref bD), .val (.ref bP), .val (.ref bI), .val (.ref bJ), .unset, .unset, .unset] [(.int (1 : Int32)), (.int (0 : Int32)), (.int (1 : Int32)), (.ref bI)])) _
      refine XS.iadd X61.here hx rfl (hb hby at_163) rfl ?_
      show Steps p.tables e below (T61.setTop (mkF m 164 #[.val (.int p1), .val (.int p2), .val (.int p3), .val (.int p4), .val (.int p5), .val (.int p6), .val (.int (Int32.ofNat nn)), .val (.ref bS), .val (.ref bD), .val (.ref bP), .val (.ref bI), .val (.ref bJ), .unset, .unset, .unset] [(.int ((0 : Int32) + (1 : Int32))), (.int (1 : Int32)), (.ref bI)])) _
      exact castTop (by rw [show (own_sel s1 (0 : Int32) ((0 : Int32) + (1 : Int32))) = ((0 : Int32) + (1 : Int32)) from by exact (if_pos hc148).trans (rfl)]) kT
    · show Steps p.tables e below (T61.setTop (mkF m 148 #[.val (.int p1), .val (.int p2), .val (.int p3), .val (.int p4), .val (.int p5), .val (.int p6), .val (.int (Int32.ofNat nn)), .val (.ref bS), .val (.ref bD), .val (.ref bP), .val (.ref bI), .val (.ref bJ), .unset, .unset, .unset] [(.int s1), (.int (1 : Int32)), (.ref bI)])) _
      refine XS.ifNo X61.here hx rfl (hb hby at_148) rfl ((if0 _ _).trans (feq hc148).1) ?_
      show Steps p.tables e below (T61.setTop (mkF m 151 #[.val (.int p1), .val (.int p2), .val (.int p3), .val (.int p4), .val (.int p5), .val (.int p6), .val (.int (Int32.ofNat nn)), .val (.ref bS), .val (.ref bD), .val (.ref bP), .val (.ref bI), .val (.ref bJ), .unset, .unset, .unset] [(.int (1 : Int32)), (.ref bI)])) _
      refine XS.aload X61.here hx rfl (hb hby at_151) rfl rfl ?_
      show Steps p.tables e below (T61.setTop (mkF m 153 #[.val (.int p1), .val (.int p2), .val (.int p3), .val (.int p4), .val (.int p5), .val (.int p6), .val (.int (Int32.ofNat nn)), .val (.ref bS), .val (.ref bD), .val (.ref bP), .val (.ref bI), .val (.ref bJ), .unset, .unset, .unset] [(.ref bI), (.int (1 : Int32)), (.ref bI)])) _
      refine XS.iconst X61.here hx rfl (hb hby at_153) ?_
      show Steps p.tables e below (T61.setTop (mkF m 154 #[.val (.int p1), .val (.int p2), .val (.int p3), .val (.int p4), .val (.int p5), .val (.int p6), .val (.int (Int32.ofNat nn)), .val (.ref bS), .val (.ref bD), .val (.ref bP), .val (.ref bI), .val (.ref bJ), .unset, .unset, .unset] [(.int (0 : Int32)), (.ref bI), (.int (1 : Int32)), (.ref bI)])) _
      refine X61.iaload hx (j := (0 : Int32)) (v := (.int (0 : Int32))) (by rw [e61]; exact Ao65.1) (State.isArrayOf_alike hZ.alike Ao65.2.1) Ao65.2.2 (own_ld So65 Ho65 (j := (0 : Int32)) (i := 0) (by decide) rfl (by decide) (v := (.int (0 : Int32))) rfl).1 (own_ld So65 Ho65 (j := (0 : Int32)) (i := 0) (by decide) rfl (by decide) (v := (.int (0 : Int32))) rfl).2 (g := (mkF m 154 #[.val (.int p1), .val (.int p2), .val (.int p3), .val (.int p4), .val (.int p5), .val (.int p6), .val (.int (Int32.ofNat nn)), .val (.ref bS), .val (.ref bD), .val (.ref bP), .val (.ref bI), .val (.ref bJ), .unset, .unset, .unset] [(.int (0 : Int32)), (.ref bI), (.int (1 : Int32)), (.ref bI)])) rfl rfl (hb hby at_154) _ ?_
      show Steps p.tables e below (T61.setTop (mkF m 155 #[.val (.int p1), .val (.int p2), .val (.int p3), .val (.int p4), .val (.int p5), .val (.int p6), .val (.int (Int32.ofNat nn)), .val (.ref bS), .val (.ref bD), .val (.ref bP), .val (.ref bI), .val (.ref bJ), .unset, .unset, .unset] [(.int (0 : Int32)), (.int (1 : Int32)), (.ref bI)])) _
      refine XS.goto X61.here hx rfl (pc0 := 155) (pc' := 164) rfl (hb hby at_155) (by decide) (by decide) ?_
      show Steps p.tables e below (T61.setTop (mkF m 164 #[.val (.int p1), .val (.int p2), .val (.int p3), .val (.int p4), .val (.int p5), .val (.int p6), .val (.int (Int32.ofNat nn)), .val (.ref bS), .val (.ref bD), .val (.ref bP), .val (.ref bI), .val (.ref bJ), .unset, .unset, .unset] [(.int (0 : Int32)), (.int (1 : Int32)), (.ref bI)])) _
      exact castTop (by rw [show (own_sel s1 (0 : Int32) ((0 : Int32) + (1 : Int32))) = (0 : Int32) from by exact (if_neg hc148).trans (rfl)]) kT)
  have pre67 : ∀ t, Steps p.tables e below (T61.setTop (mkF m 164 #[.val (.int p1), .val (.int p2), .val (.int p3), .val (.int p4), .val (.int p5), .val (.int p6), .val (.int (Int32.ofNat nn)), .val (.ref bS), .val (.ref bD), .val (.ref bP), .val (.ref bI), .val (.ref bJ), .unset, .unset, .unset] [(.int (own_sel s1 (0 : Int32) ((0 : Int32) + (1 : Int32)))), (.int (1 : Int32)), (.ref bI)])) t → Steps p.tables e below (s₁.setTop (entryFrame m #[(.int p1), (.int p2), (.int p3), (.int p4), (.int p5), (.int p6)] maxLocals)) t := fun t kT => pre66 t (by
    exact kT)
  obtain ⟨xg1, hxg1⟩ : ∃ z, z = (own_sel s1 (0 : Int32) ((0 : Int32) + (1 : Int32))) := ⟨_, rfl⟩
  rw [← hxg1] at pre67
  obtain ⟨g1, hg1, yg1⟩ : ∃ z : Nat, ((s1 = 1 ∧ z = 0) ∨ (s1 = 0 ∧ z = 0 + 1)) ∧ xg1 = Int32.ofNat z := by
    rcases zs1 with q | q
    · exact ⟨0 + 1, Or.inr ⟨q, rfl⟩, hxg1.trans ((own_sel0 q).trans (own_one 0))⟩
    · exact ⟨0, Or.inl ⟨q, rfl⟩, hxg1.trans (own_sel1 q)⟩
  subst yg1
  obtain ⟨co68, ⟨Ao68, Ko68⟩, So68, Ho68⟩ := id V_bI_e61
  have io68 := (own_ld So68 Ho68 (j := (1 : Int32)) (i := 1) (by decide) (show (1 : Int32).toNatClampNeg = 1 from rfl) (by decide) rfl).1
  have pre69 : ∀ t, Steps p.tables e below (T61.setTop (mkF m 164 #[.val (.int p1), .val (.int p2), .val (.int p3), .val (.int p4), .val (.int p5), .val (.int p6), .val (.int (Int32.ofNat nn)), .val (.ref bS), .val (.ref bD), .val (.ref bP), .val (.ref bI), .val (.ref bJ), .unset, .unset, .unset] [(.int (Int32.ofNat g1)), (.int (1 : Int32)), (.ref bI)])) t → Steps p.tables e below (s₁.setTop (entryFrame m #[(.int p1), (.int p2), (.int p3), (.int p4), (.int p5), (.int p6)] maxLocals)) t := fun t kT => pre67 t (by
    exact kT)
  obtain ⟨T70, h70, X70, e70, W70, st70⟩ := stI X61 hx hZ e61 Ao68 (j := (1 : Int32)) io68 (g := (mkF m 164 #[.val (.int p1), .val (.int p2), .val (.int p3), .val (.int p4), .val (.int p5), .val (.int p6), .val (.int (Int32.ofNat nn)), .val (.ref bS), .val (.ref bD), .val (.ref bP), .val (.ref bI), .val (.ref bJ), .unset, .unset, .unset] [(.int (Int32.ofNat g1)), (.int (1 : Int32)), (.ref bI)])) rfl rfl (hb hby at_164)
  rw [(show (1 : Int32).toNatClampNeg = 1 from rfl)] at W70
  have pre71 : ∀ t, Steps p.tables e below (T70.setTop (mkF m 165 #[.val (.int p1), .val (.int p2), .val (.int p3), .val (.int p4), .val (.int p5), .val (.int p6), .val (.int (Int32.ofNat nn)), .val (.ref bS), .val (.ref bD), .val (.ref bP), .val (.ref bI), .val (.ref bJ), .unset, .unset, .unset] [])) t → Steps p.tables e below (s₁.setTop (entryFrame m #[(.int p1), (.int p2), (.int p3), (.int p4), (.int p5), (.int p6)] maxLocals)) t := fun t kT => pre69 t (st70 t kT)
  have V_bS_e70 : own_Ar Z h70 bS .boolean 3 (own_upd (own_upd (fun _ => (.int (0 : Int32))) 0 (.int (nar .boolean (0 : Int32)))) 1 (.int s1)) := V_bS_e61.other W70 ne_bS_bI
  have V_bD_e70 : own_Ar Z h70 bD .int 3 (own_upd (own_upd (fun _ => (.int (0 : Int32))) 0 (.int dA)) 1 (.int dB)) := V_bD_e61.other W70 ne_bD_bI
  have V_bP_e70 : own_Ar Z h70 bP .int 3 (own_upd (own_upd (fun _ => (.int (0 : Int32))) 0 (.int qA)) 1 (.int qB)) := V_bP_e61.other W70 ne_bP_bI
  have V_bJ_e70 : own_Ar Z h70 bJ .int 3 (own_upd (fun _ => (.int (0 : Int32))) 0 (.int (0 : Int32))) := V_bJ_e61.other W70 (Ne.symm ne_bI_bJ)
  have sz70 : n0 ≤ h70.size := Nat.le_trans sz61 (Keep.of_wr W70).1
  have V_bI_e70 : own_Ar Z h70 bI .int 3 (own_upd (own_upd (fun _ => (.int (0 : Int32))) 0 (.int (0 : Int32))) 1 (.int (Int32.ofNat g1))) := V_bI_e61.set W70
  have N70 := Fr.snoc X70 N61 g_bI
  have pre72 : ∀ t, Steps p.tables e below (T70.setTop (mkF m 165 #[.val (.int p1), .val (.int p2), .val (.int p3), .val (.int p4), .val (.int p5), .val (.int p6), .val (.int (Int32.ofNat nn)), .val (.ref bS), .val (.ref bD), .val (.ref bP), .val (.ref bI), .val (.ref bJ), .unset, .unset, .unset] [])) t → Steps p.tables e below (s₁.setTop (entryFrame m #[(.int p1), (.int p2), (.int p3), (.int p4), (.int p5), (.int p6)] maxLocals)) t := fun t kT => pre71 t (by
    exact kT)
  obtain ⟨co73, ⟨Ao73, Ko73⟩, So73, Ho73⟩ := id V_bS_e70
  obtain ⟨co74, ⟨Ao74, Ko74⟩, So74, Ho74⟩ := id V_bJ_e70
  have pre75 : ∀ t, Steps p.tables e below (T70.setTop (mkF m 185 #[.val (.int p1), .val (.int p2), .val (.int p3), .val (.int p4), .val (.int p5), .val (.int p6), .val (.int (Int32.ofNat nn)), .val (.ref bS), .val (.ref bD), .val (.ref bP), .val (.ref bI), .val (.ref bJ), .unset, .unset, .unset] [(.int (own_sel s1 ((0 : Int32) + (1 : Int32)) (0 : Int32))), (.int (1 : Int32)), (.ref bJ)])) t → Steps p.tables e below (s₁.setTop (entryFrame m #[(.int p1), (.int p2), (.int p3), (.int p4), (.int p5), (.int p6)] maxLocals)) t := fun t kT => pre72 t (by
    show Steps p.tables e below (T70.setTop (mkF m 165 #[.val (.int p1), .val (.int p2), .val (.int p3), .val (.int p4), .val (.int p5), .val (.int p6), .val (.int (Int32.ofNat nn)), .val (.ref bS), .val (.ref bD), .val (.ref bP), .val (.ref bI), .val (.ref bJ), .unset, .unset, .unset] [])) _
    refine XS.aload X70.here hx rfl (hb hby at_165) rfl rfl ?_
    show Steps p.tables e below (T70.setTop (mkF m 167 #[.val (.int p1), .val (.int p2), .val (.int p3), .val (.int p4), .val (.int p5), .val (.int p6), .val (.int (Int32.ofNat nn)), .val (.ref bS), .val (.ref bD), .val (.ref bP), .val (.ref bI), .val (.ref bJ), .unset, .unset, .unset] [(.ref bJ)])) _
    refine XS.iconst X70.here hx rfl (hb hby at_167) ?_
    show Steps p.tables e below (T70.setTop (mkF m 168 #[.val (.int p1), .val (.int p2), .val (.int p3), .val (.int p4), .val (.int p5), .val (.int p6), .val (.int (Int32.ofNat nn)), .val (.ref bS), .val (.ref bD), .val (.ref bP), .val (.ref bI), .val (.ref bJ), .unset, .unset, .unset] [(.int (1 : Int32)), (.ref bJ)])) _
    refine XS.aload X70.here hx rfl (hb hby at_168) rfl rfl ?_
    show Steps p.tables e below (T70.setTop (mkF m 170 #[.val (.int p1), .val (.int p2), .val (.int p3), .val (.int p4), .val (.int p5), .val (.int p6), .val (.int (Int32.ofNat nn)), .val (.ref bS), .val (.ref bD), .val (.ref bP), .val (.ref bI), .val (.ref bJ), .unset, .unset, .unset] [(.ref bS), (.int (1 : Int32)), (.ref bJ)])) _
    refine XS.iconst X70.here hx rfl (hb hby at_170) ?_
    show Steps p.tables e below (T70.setTop (mkF m 171 #[.val (.int p1), .val (.int p2), .val (.int p3), .val (.int p4), .val (.int p5), .val (.int p6), .val (.int (Int32.ofNat nn)), .val (.ref bS), .val (.ref bD), .val (.ref bP), .val (.ref bI), .val (.ref bJ), .unset, .unset, .unset] [(.int (1 : Int32)), (.ref bS), (.int (1 : Int32)), (.ref bJ)])) _
    refine X70.baloadBooleans hx (j := (1 : Int32)) (v := (.int s1)) (by rw [e70]; exact Ao73.1) (State.isArrayOf_alike hZ.alike Ao73.2.1) Ao73.2.2 (own_ld So73 Ho73 (j := (1 : Int32)) (i := 1) (by decide) rfl (by decide) (v := (.int s1)) rfl).1 (own_ld So73 Ho73 (j := (1 : Int32)) (i := 1) (by decide) rfl (by decide) (v := (.int s1)) rfl).2 (g := (mkF m 171 #[.val (.int p1), .val (.int p2), .val (.int p3), .val (.int p4), .val (.int p5), .val (.int p6), .val (.int (Int32.ofNat nn)), .val (.ref bS), .val (.ref bD), .val (.ref bP), .val (.ref bI), .val (.ref bJ), .unset, .unset, .unset] [(.int (1 : Int32)), (.ref bS), (.int (1 : Int32)), (.ref bJ)])) rfl rfl (hb hby at_171) _ ?_
    by_cases hc172 : s1 = (0 : Int32)
    · show Steps p.tables e below (T70.setTop (mkF m 172 #[.val (.int p1), .val (.int p2), .val (.int p3), .val (.int p4), .val (.int p5), .val (.int p6), .val (.int (Int32.ofNat nn)), .val (.ref bS), .val (.ref bD), .val (.ref bP), .val (.ref bI), .val (.ref bJ), .unset, .unset, .unset] [(.int s1), (.int (1 : Int32)), (.ref bJ)])) _
      refine XS.ifYes X70.here hx rfl (pc0 := 172) (pc' := 184) rfl (hb hby at_172) rfl ((if0 _ _).trans (teq hc172).1) (by decide) (by decide) ?_
      show Steps p.tables e below (T70.setTop (mkF m 184 #[.val (.int p1), .val (.int p2), .val (.int p3), .val (.int p4), .val (.int p5), .val (.int p6), .val (.int (Int32.ofNat nn)), .val (.ref bS), .val (.ref bD), .val (.ref bP), .val (.ref bI), .val (.ref bJ), .unset, .unset, .unset] [(.int (1 : Int32)), (.ref bJ)])) _
      refine XS.iconst X70.here hx rfl (hb hby at_184) ?_
      show Steps p.tables e below (T70.setTop (mkF m 185 #[.val (.int p1), .val (.int p2), .val (.int p3), .val (.int p4), .val (.int p5), .val (.int p6), .val (.int (Int32.ofNat nn)), .val (.ref bS), .val (.ref bD), .val (.ref bP), .val (.ref bI), .val (.ref bJ), .unset, .unset, .unset] [(.int (0 : Int32)), (.int (1 : Int32)), (.ref bJ)])) _
      exact castTop (by rw [show (own_sel s1 ((0 : Int32) + (1 : Int32)) (0 : Int32)) = (0 : Int32) from by exact (if_pos hc172).trans (rfl)]) kT
    · show Steps p.tables e below (T70.setTop (mkF m 172 #[.val (.int p1), .val (.int p2), .val (.int p3), .val (.int p4), .val (.int p5), .val (.int p6), .val (.int (Int32.ofNat nn)), .val (.ref bS), .val (.ref bD), .val (.ref bP), .val (.ref bI), .val (.ref bJ), .unset, .unset, .unset] [(.int s1), (.int (1 : Int32)), (.ref bJ)])) _
      refine XS.ifNo X70.here hx rfl (hb hby at_172) rfl ((if0 _ _).trans (feq hc172).1) ?_
      show Steps p.tables e below (T70.setTop (mkF m 175 #[.val (.int p1), .val (.int p2), .val (.int p3), .val (.int p4), .val (.int p5), .val (.int p6), .val (.int (Int32.ofNat nn)), .val (.ref bS), .val (.ref bD), .val (.ref bP), .val (.ref bI), .val (.ref bJ), .unset, .unset, .unset] [(.int (1 : Int32)), (.ref bJ)])) _
      refine XS.aload X70.here hx rfl (hb hby at_175) rfl rfl ?_
      show Steps p.tables e below (T70.setTop (mkF m 177 #[.val (.int p1), .val (.int p2), .val (.int p3), .val (.int p4), .val (.int p5), .val (.int p6), .val (.int (Int32.ofNat nn)), .val (.ref bS), .val (.ref bD), .val (.ref bP), .val (.ref bI), .val (.ref bJ), .unset, .unset, .unset] [(.ref bJ), (.int (1 : Int32)), (.ref bJ)])) _
      refine XS.iconst X70.here hx rfl (hb hby at_177) ?_
      show Steps p.tables e below (T70.setTop (mkF m 178 #[.val (.int p1), .val (.int p2), .val (.int p3), .val (.int p4), .val (.int p5), .val (.int p6), .val (.int (Int32.ofNat nn)), .val (.ref bS), .val (.ref bD), .val (.ref bP), .val (.ref bI), .val (.ref bJ), .unset, .unset, .unset] [(.int (0 : Int32)), (.ref bJ), (.int (1 : Int32)), (.ref bJ)])) _
      refine X70.iaload hx (j := (0 : Int32)) (v := (.int (0 : Int32))) (by rw [e70]; exact Ao74.1) (State.isArrayOf_alike hZ.alike Ao74.2.1) Ao74.2.2 (own_ld So74 Ho74 (j := (0 : Int32)) (i := 0) (by decide) rfl (by decide) (v := (.int (0 : Int32))) rfl).1 (own_ld So74 Ho74 (j := (0 : Int32)) (i := 0) (by decide) rfl (by decide) (v := (.int (0 : Int32))) rfl).2 (g := (mkF m 178 #[.val (.int p1), .val (.int p2), .val (.int p3), .val (.int p4), .val (.int p5), .val (.int p6), .val (.int (Int32.ofNat nn)), .val (.ref bS), .val (.ref bD), .val (.ref bP), .val (.ref bI), .val (.ref bJ), .unset, .unset, .unset] [(.int (0 : Int32)), (.ref bJ), (.int (1 : Int32)), (.ref bJ)])) rfl rfl (hb hby at_178) _ ?_
      show Steps p.tables e below (T70.setTop (mkF m 179 #[.val (.int p1), .val (.int p2), .val (.int p3), .val (.int p4), .val (.int p5), .val (.int p6), .val (.int (Int32.ofNat nn)), .val (.ref bS), .val (.ref bD), .val (.ref bP), .val (.ref bI), .val (.ref bJ), .unset, .unset, .unset] [(.int (0 : Int32)), (.int (1 : Int32)), (.ref bJ)])) _
      refine XS.iconst X70.here hx rfl (hb hby at_179) ?_
      show Steps p.tables e below (T70.setTop (mkF m 180 #[.val (.int p1), .val (.int p2), .val (.int p3), .val (.int p4), .val (.int p5), .val (.int p6), .val (.int (Int32.ofNat nn)), .val (.ref bS), .val (.ref bD), .val (.ref bP), .val (.ref bI), .val (.ref bJ), .unset, .unset, .unset] [(.int (1 : Int32)), (.int (0 : Int32)), (.int (1 : Int32)), (.ref bJ)])) _
      refine XS.iadd X70.here hx rfl (hb hby at_180) rfl ?_
      show Steps p.tables e below (T70.setTop (mkF m 181 #[.val (.int p1), .val (.int p2), .val (.int p3), .val (.int p4), .val (.int p5), .val (.int p6), .val (.int (Int32.ofNat nn)), .val (.ref bS), .val (.ref bD), .val (.ref bP), .val (.ref bI), .val (.ref bJ), .unset, .unset, .unset] [(.int ((0 : Int32) + (1 : Int32))), (.int (1 : Int32)), (.ref bJ)])) _
      refine XS.goto X70.here hx rfl (pc0 := 181) (pc' := 185) rfl (hb hby at_181) (by decide) (by decide) ?_
      show Steps p.tables e below (T70.setTop (mkF m 185 #[.val (.int p1), .val (.int p2), .val (.int p3), .val (.int p4), .val (.int p5), .val (.int p6), .val (.int (Int32.ofNat nn)), .val (.ref bS), .val (.ref bD), .val (.ref bP), .val (.ref bI), .val (.ref bJ), .unset, .unset, .unset] [(.int ((0 : Int32) + (1 : Int32))), (.int (1 : Int32)), (.ref bJ)])) _
      exact castTop (by rw [show (own_sel s1 ((0 : Int32) + (1 : Int32)) (0 : Int32)) = ((0 : Int32) + (1 : Int32)) from by exact (if_neg hc172).trans (rfl)]) kT)
  have pre76 : ∀ t, Steps p.tables e below (T70.setTop (mkF m 185 #[.val (.int p1), .val (.int p2), .val (.int p3), .val (.int p4), .val (.int p5), .val (.int p6), .val (.int (Int32.ofNat nn)), .val (.ref bS), .val (.ref bD), .val (.ref bP), .val (.ref bI), .val (.ref bJ), .unset, .unset, .unset] [(.int (own_sel s1 ((0 : Int32) + (1 : Int32)) (0 : Int32))), (.int (1 : Int32)), (.ref bJ)])) t → Steps p.tables e below (s₁.setTop (entryFrame m #[(.int p1), (.int p2), (.int p3), (.int p4), (.int p5), (.int p6)] maxLocals)) t := fun t kT => pre75 t (by
    exact kT)
  obtain ⟨xj1, hxj1⟩ : ∃ z, z = (own_sel s1 ((0 : Int32) + (1 : Int32)) (0 : Int32)) := ⟨_, rfl⟩
  rw [← hxj1] at pre76
  obtain ⟨j1, hj1, yj1⟩ : ∃ z : Nat, ((s1 = 1 ∧ z = 0 + 1) ∨ (s1 = 0 ∧ z = 0)) ∧ xj1 = Int32.ofNat z := by
    rcases zs1 with q | q
    · exact ⟨0, Or.inr ⟨q, rfl⟩, hxj1.trans (own_sel0 q)⟩
    · exact ⟨0 + 1, Or.inl ⟨q, rfl⟩, hxj1.trans ((own_sel1 q).trans (own_one 0))⟩
  subst yj1
  obtain ⟨co77, ⟨Ao77, Ko77⟩, So77, Ho77⟩ := id V_bJ_e70
  have io77 := (own_ld So77 Ho77 (j := (1 : Int32)) (i := 1) (by decide) (show (1 : Int32).toNatClampNeg = 1 from rfl) (by decide) rfl).1
  have pre78 : ∀ t, Steps p.tables e below (T70.setTop (mkF m 185 #[.val (.int p1), .val (.int p2), .val (.int p3), .val (.int p4), .val (.int p5), .val (.int p6), .val (.int (Int32.ofNat nn)), .val (.ref bS), .val (.ref bD), .val (.ref bP), .val (.ref bI), .val (.ref bJ), .unset, .unset, .unset] [(.int (Int32.ofNat j1)), (.int (1 : Int32)), (.ref bJ)])) t → Steps p.tables e below (s₁.setTop (entryFrame m #[(.int p1), (.int p2), (.int p3), (.int p4), (.int p5), (.int p6)] maxLocals)) t := fun t kT => pre76 t (by
    exact kT)
  obtain ⟨T79, h79, X79, e79, W79, st79⟩ := stI X70 hx hZ e70 Ao77 (j := (1 : Int32)) io77 (g := (mkF m 185 #[.val (.int p1), .val (.int p2), .val (.int p3), .val (.int p4), .val (.int p5), .val (.int p6), .val (.int (Int32.ofNat nn)), .val (.ref bS), .val (.ref bD), .val (.ref bP), .val (.ref bI), .val (.ref bJ), .unset, .unset, .unset] [(.int (Int32.ofNat j1)), (.int (1 : Int32)), (.ref bJ)])) rfl rfl (hb hby at_185)
  rw [(show (1 : Int32).toNatClampNeg = 1 from rfl)] at W79
  have pre80 : ∀ t, Steps p.tables e below (T79.setTop (mkF m 186 #[.val (.int p1), .val (.int p2), .val (.int p3), .val (.int p4), .val (.int p5), .val (.int p6), .val (.int (Int32.ofNat nn)), .val (.ref bS), .val (.ref bD), .val (.ref bP), .val (.ref bI), .val (.ref bJ), .unset, .unset, .unset] [])) t → Steps p.tables e below (s₁.setTop (entryFrame m #[(.int p1), (.int p2), (.int p3), (.int p4), (.int p5), (.int p6)] maxLocals)) t := fun t kT => pre78 t (st79 t kT)
  have V_bS_e79 : own_Ar Z h79 bS .boolean 3 (own_upd (own_upd (fun _ => (.int (0 : Int32))) 0 (.int (nar .boolean (0 : Int32)))) 1 (.int s1)) := V_bS_e70.other W79 ne_bS_bJ
  have V_bD_e79 : own_Ar Z h79 bD .int 3 (own_upd (own_upd (fun _ => (.int (0 : Int32))) 0 (.int dA)) 1 (.int dB)) := V_bD_e70.other W79 ne_bD_bJ
  have V_bP_e79 : own_Ar Z h79 bP .int 3 (own_upd (own_upd (fun _ => (.int (0 : Int32))) 0 (.int qA)) 1 (.int qB)) := V_bP_e70.other W79 ne_bP_bJ
  have V_bI_e79 : own_Ar Z h79 bI .int 3 (own_upd (own_upd (fun _ => (.int (0 : Int32))) 0 (.int (0 : Int32))) 1 (.int (Int32.ofNat g1))) := V_bI_e70.other W79 ne_bI_bJ
  have sz79 : n0 ≤ h79.size := Nat.le_trans sz70 (Keep.of_wr W79).1
  have V_bJ_e79 : own_Ar Z h79 bJ .int 3 (own_upd (own_upd (fun _ => (.int (0 : Int32))) 0 (.int (0 : Int32))) 1 (.int (Int32.ofNat j1))) := V_bJ_e70.set W79
  have N79 := Fr.snoc X79 N70 g_bJ
  have fdB := own_next dA qA p4 p5 p6 s1 dB qB hdB hqB zs1 mA.1 (by omega) mQ.1 (by omega)
  have pre81 : ∀ t, Steps p.tables e below (T79.setTop (mkF m 202 #[.val (.int p1), .val (.int p2), .val (.int p3), .val (.int p4), .val (.int p5), .val (.int p6), .val (.int (Int32.ofNat nn)), .val (.ref bS), .val (.ref bD), .val (.ref bP), .val (.ref bI), .val (.ref bJ), .unset, .unset, .unset] [(.int (own_nz (((p1.toUInt32 >>> ((5 : Int32) &&& 31).toUInt32).toInt32) &&& (1 : Int32)))), (.int (2 : Int32)), (.ref bS)])) t → Steps p.tables e below (s₁.setTop (entryFrame m #[(.int p1), (.int p2), (.int p3), (.int p4), (.int p5), (.int p6)] maxLocals)) t := fun t kT => pre80 t (by
    show Steps p.tables e below (T79.setTop (mkF m 186 #[.val (.int p1), .val (.int p2), .val (.int p3), .val (.int p4), .val (.int p5), .val (.int p6), .val (.int (Int32.ofNat nn)), .val (.ref bS), .val (.ref bD), .val (.ref bP), .val (.ref bI), .val (.ref bJ), .unset, .unset, .unset] [])) _
    refine XS.aload X79.here hx rfl (hb hby at_186) rfl rfl ?_
    show Steps p.tables e below (T79.setTop (mkF m 188 #[.val (.int p1), .val (.int p2), .val (.int p3), .val (.int p4), .val (.int p5), .val (.int p6), .val (.int (Int32.ofNat nn)), .val (.ref bS), .val (.ref bD), .val (.ref bP), .val (.ref bI), .val (.ref bJ), .unset, .unset, .unset] [(.ref bS)])) _
    refine XS.iconst X79.here hx rfl (hb hby at_188) ?_
    show Steps p.tables e below (T79.setTop (mkF m 189 #[.val (.int p1), .val (.int p2), .val (.int p3), .val (.int p4), .val (.int p5), .val (.int p6), .val (.int (Int32.ofNat nn)), .val (.ref bS), .val (.ref bD), .val (.ref bP), .val (.ref bI), .val (.ref bJ), .unset, .unset, .unset] [(.int (2 : Int32)), (.ref bS)])) _
    refine XS.iloadN X79.here hx rfl (hb hby at_189) rfl ?_
    show Steps p.tables e below (T79.setTop (mkF m 190 #[.val (.int p1), .val (.int p2), .val (.int p3), .val (.int p4), .val (.int p5), .val (.int p6), .val (.int (Int32.ofNat nn)), .val (.ref bS), .val (.ref bD), .val (.ref bP), .val (.ref bI), .val (.ref bJ), .unset, .unset, .unset] [(.int p1), (.int (2 : Int32)), (.ref bS)])) _
    refine XS.iconst X79.here hx rfl (hb hby at_190) ?_
    show Steps p.tables e below (T79.setTop (mkF m 191 #[.val (.int p1), .val (.int p2), .val (.int p3), .val (.int p4), .val (.int p5), .val (.int p6), .val (.int (Int32.ofNat nn)), .val (.ref bS), .val (.ref bD), .val (.ref bP), .val (.ref bI), .val (.ref bJ), .unset, .unset, .unset] [(.int (5 : Int32)), (.int p1), (.int (2 : Int32)), (.ref bS)])) _
    refine XS.iushr X79.here hx rfl (hb hby at_191) rfl ?_
    show Steps p.tables e below (T79.setTop (mkF m 192 #[.val (.int p1), .val (.int p2), .val (.int p3), .val (.int p4), .val (.int p5), .val (.int p6), .val (.int (Int32.ofNat nn)), .val (.ref bS), .val (.ref bD), .val (.ref bP), .val (.ref bI), .val (.ref bJ), .unset, .unset, .unset] [(.int ((p1.toUInt32 >>> ((5 : Int32) &&& 31).toUInt32).toInt32)), (.int (2 : Int32)), (.ref bS)])) _
    refine XS.iconst X79.here hx rfl (hb hby at_192) ?_
    show Steps p.tables e below (T79.setTop (mkF m 193 #[.val (.int p1), .val (.int p2), .val (.int p3), .val (.int p4), .val (.int p5), .val (.int p6), .val (.int (Int32.ofNat nn)), .val (.ref bS), .val (.ref bD), .val (.ref bP), .val (.ref bI), .val (.ref bJ), .unset, .unset, .unset] [(.int (1 : Int32)), (.int ((p1.toUInt32 >>> ((5 : Int32) &&& 31).toUInt32).toInt32)), (.int (2 : Int32)), (.ref bS)])) _
    refine XS.iand X79.here hx rfl (hb hby at_193) rfl ?_
    by_cases hc194 : (((p1.toUInt32 >>> ((5 : Int32) &&& 31).toUInt32).toInt32) &&& (1 : Int32)) = (0 : Int32)
    · show Steps p.tables e below (T79.setTop (mkF m 194 #[.val (.int p1), .val (.int p2), .val (.int p3), .val (.int p4), .val (.int p5), .val (.int p6), .val (.int (Int32.ofNat nn)), .val (.ref bS), .val (.ref bD), .val (.ref bP), .val (.ref bI), .val (.ref bJ), .unset, .unset, .unset] [(.int (((p1.toUInt32 >>> ((5 : Int32) &&& 31).toUInt32).toInt32) &&& (1 : Int32))), (.int (2 : Int32)), (.ref bS)])) _
      refine XS.ifYes X79.here hx rfl (pc0 := 194) (pc' := 201) rfl (hb hby at_194) rfl ((if0 _ _).trans (teq hc194).1) (by decide) (by decide) ?_
      show Steps p.tables e below (T79.setTop (mkF m 201 #[.val (.int p1), .val (.int p2), .val (.int p3), .val (.int p4), .val (.int p5), .val (.int p6), .val (.int (Int32.ofNat nn)), .val (.ref bS), .val (.ref bD), .val (.ref bP), .val (.ref bI), .val (.ref bJ), .unset, .unset, .unset] [(.int (2 : Int32)), (.ref bS)])) _
      refine XS.iconst X79.here hx rfl (hb hby at_201) ?_
      show Steps p.tables e below (T79.setTop (mkF m 202 #[.val (.int p1), .val (.int p2), .val (.int p3), .val (.int p4), .val (.int p5), .val (.int p6), .val (.int (Int32.ofNat nn)), .val (.ref bS), .val (.ref bD), .val (.ref bP), .val (.ref bI), .val (.ref bJ), .unset, .unset, .unset] [(.int (0 : Int32)), (.int (2 : Int32)), (.ref bS)])) _
      exact castTop (by rw [show (own_nz (((p1.toUInt32 >>> ((5 : Int32) &&& 31).toUInt32).toInt32) &&& (1 : Int32))) = (0 : Int32) from by exact (if_pos hc194).trans (rfl)]) kT
    · show Steps p.tables e below (T79.setTop (mkF m 194 #[.val (.int p1), .val (.int p2), .val (.int p3), .val (.int p4), .val (.int p5), .val (.int p6), .val (.int (Int32.ofNat nn)), .val (.ref bS), .val (.ref bD), .val (.ref bP), .val (.ref bI), .val (.ref bJ), .unset, .unset, .unset] [(.int (((p1.toUInt32 >>> ((5 : Int32) &&& 31).toUInt32).toInt32) &&& (1 : Int32))), (.int (2 : Int32)), (.ref bS)])) _
      refine XS.ifNo X79.here hx rfl (hb hby at_194) rfl ((if0 _ _).trans (feq hc194).1) ?_
      show Steps p.tables e below (T79.setTop (mkF m 197 #[.val (.int p1), .val (.int p2), .val (.int p3), .val (.int p4), .val (.int p5), .val (.int p6), .val (.int (Int32.ofNat nn)), .val (.ref bS), .val (.ref bD), .val (.ref bP), .val (.ref bI), .val (.ref bJ), .unset, .unset, .unset] [(.int (2 : Int32)), (.ref bS)])) _
      refine XS.iconst X79.here hx rfl (hb hby at_197) ?_
      show Steps p.tables e below (T79.setTop (mkF m 198 #[.val (.int p1), .val (.int p2), .val (.int p3), .val (.int p4), .val (.int p5), .val (.int p6), .val (.int (Int32.ofNat nn)), .val (.ref bS), .val (.ref bD), .val (.ref bP), .val (.ref bI), .val (.ref bJ), .unset, .unset, .unset] [(.int (1 : Int32)), (.int (2 : Int32)), (.ref bS)])) _
      refine XS.goto X79.here hx rfl (pc0 := 198) (pc' := 202) rfl (hb hby at_198) (by decide) (by decide) ?_
      show Steps p.tables e below (T79.setTop (mkF m 202 #[.val (.int p1), .val (.int p2), .val (.int p3), .val (.int p4), .val (.int p5), .val (.int p6), .val (.int (Int32.ofNat nn)), .val (.ref bS), .val (.ref bD), .val (.ref bP), .val (.ref bI), .val (.ref bJ), .unset, .unset, .unset] [(.int (1 : Int32)), (.int (2 : Int32)), (.ref bS)])) _
      exact castTop (by rw [show (own_nz (((p1.toUInt32 >>> ((5 : Int32) &&& 31).toUInt32).toInt32) &&& (1 : Int32))) = (1 : Int32) from by exact (if_neg hc194).trans (rfl)]) kT)
  have pre82 : ∀ t, Steps p.tables e below (T79.setTop (mkF m 202 #[.val (.int p1), .val (.int p2), .val (.int p3), .val (.int p4), .val (.int p5), .val (.int p6), .val (.int (Int32.ofNat nn)), .val (.ref bS), .val (.ref bD), .val (.ref bP), .val (.ref bI), .val (.ref bJ), .unset, .unset, .unset] [(.int (own_nz (((p1.toUInt32 >>> ((5 : Int32) &&& 31).toUInt32).toInt32) &&& (1 : Int32)))), (.int (2 : Int32)), (.ref bS)])) t → Steps p.tables e below (s₁.setTop (entryFrame m #[(.int p1), (.int p2), (.int p3), (.int p4), (.int p5), (.int p6)] maxLocals)) t := fun t kT => pre81 t (by
    exact kT)
  obtain ⟨s2, hs2⟩ : ∃ z, z = (own_nz (((p1.toUInt32 >>> ((5 : Int32) &&& 31).toUInt32).toInt32) &&& (1 : Int32))) := ⟨_, rfl⟩
  rw [← hs2] at pre82
  have zs2 : s2 = 0 ∨ s2 = 1 := hs2 ▸ own_nz01 _
  obtain ⟨co83, ⟨Ao83, Ko83⟩, So83, Ho83⟩ := id V_bS_e79
  have io83 := (own_ld So83 Ho83 (j := (2 : Int32)) (i := 2) (by decide) (show (2 : Int32).toNatClampNeg = 2 from rfl) (by decide) rfl).1
  have pre84 : ∀ t, Steps p.tables e below (T79.setTop (mkF m 202 #[.val (.int p1), .val (.int p2), .val (.int p3), .val (.int p4), .val (.int p5), .val (.int p6), .val (.int (Int32.ofNat nn)), .val (.ref bS), .val (.ref bD), .val (.ref bP), .val (.ref bI), .val (.ref bJ), .unset, .unset, .unset] [(.int s2), (.int (2 : Int32)), (.ref bS)])) t → Steps p.tables e below (s₁.setTop (entryFrame m #[(.int p1), (.int p2), (.int p3), (.int p4), (.int p5), (.int p6)] maxLocals)) t := fun t kT => pre82 t (by
    exact kT)
  obtain ⟨T85, h85, X85, e85, W85, st85⟩ := stZ X79 hx hZ e79 Ao83 (j := (2 : Int32)) io83 (g := (mkF m 202 #[.val (.int p1), .val (.int p2), .val (.int p3), .val (.int p4), .val (.int p5), .val (.int p6), .val (.int (Int32.ofNat nn)), .val (.ref bS), .val (.ref bD), .val (.ref bP), .val (.ref bI), .val (.ref bJ), .unset, .unset, .unset] [(.int s2), (.int (2 : Int32)), (.ref bS)])) rfl rfl (hb hby at_202)
  rw [(show (2 : Int32).toNatClampNeg = 2 from rfl)] at W85
  have pre86 : ∀ t, Steps p.tables e below (T85.setTop (mkF m 203 #[.val (.int p1), .val (.int p2), .val (.int p3), .val (.int p4), .val (.int p5), .val (.int p6), .val (.int (Int32.ofNat nn)), .val (.ref bS), .val (.ref bD), .val (.ref bP), .val (.ref bI), .val (.ref bJ), .unset, .unset, .unset] [])) t → Steps p.tables e below (s₁.setTop (entryFrame m #[(.int p1), (.int p2), (.int p3), (.int p4), (.int p5), (.int p6)] maxLocals)) t := fun t kT => pre84 t (st85 t kT)
  have V_bD_e85 : own_Ar Z h85 bD .int 3 (own_upd (own_upd (fun _ => (.int (0 : Int32))) 0 (.int dA)) 1 (.int dB)) := V_bD_e79.other W85 (Ne.symm ne_bS_bD)
  have V_bP_e85 : own_Ar Z h85 bP .int 3 (own_upd (own_upd (fun _ => (.int (0 : Int32))) 0 (.int qA)) 1 (.int qB)) := V_bP_e79.other W85 (Ne.symm ne_bS_bP)
  have V_bI_e85 : own_Ar Z h85 bI .int 3 (own_upd (own_upd (fun _ => (.int (0 : Int32))) 0 (.int (0 : Int32))) 1 (.int (Int32.ofNat g1))) := V_bI_e79.other W85 (Ne.symm ne_bS_bI)
  have V_bJ_e85 : own_Ar Z h85 bJ .int 3 (own_upd (own_upd (fun _ => (.int (0 : Int32))) 0 (.int (0 : Int32))) 1 (.int (Int32.ofNat j1))) := V_bJ_e79.other W85 (Ne.symm ne_bS_bJ)
  have sz85 : n0 ≤ h85.size := Nat.le_trans sz79 (Keep.of_wr W85).1
  have V_bS_e85 : own_Ar Z h85 bS .boolean 3 (own_upd (own_upd (own_upd (fun _ => (.int (0 : Int32))) 0 (.int (nar .boolean (0 : Int32)))) 1 (.int s1)) 2 (.int (nar .boolean s2))) := V_bS_e79.set W85
  have N85 := Fr.snoc X85 N79 g_bS
  rw [own_nb zs2] at V_bS_e85
  have pre87 : ∀ t, Steps p.tables e below (T85.setTop (mkF m 203 #[.val (.int p1), .val (.int p2), .val (.int p3), .val (.int p4), .val (.int p5), .val (.int p6), .val (.int (Int32.ofNat nn)), .val (.ref bS), .val (.ref bD), .val (.ref bP), .val (.ref bI), .val (.ref bJ), .unset, .unset, .unset] [])) t → Steps p.tables e below (s₁.setTop (entryFrame m #[(.int p1), (.int p2), (.int p3), (.int p4), (.int p5), (.int p6)] maxLocals)) t := fun t kT => pre86 t (by
    exact kT)
  obtain ⟨co88, ⟨Ao88, Ko88⟩, So88, Ho88⟩ := id V_bS_e85
  obtain ⟨co89, ⟨Ao89, Ko89⟩, So89, Ho89⟩ := id V_bD_e85
  have pre90 : ∀ t, Steps p.tables e below (T85.setTop (mkF m 233 #[.val (.int p1), .val (.int p2), .val (.int p3), .val (.int p4), .val (.int p5), .val (.int p6), .val (.int (Int32.ofNat nn)), .val (.ref bS), .val (.ref bD), .val (.ref bP), .val (.ref bI), .val (.ref bJ), .unset, .unset, .unset] [(.int (own_sel s2 dB ((dB + (1 : Int32)) + (((p4.toUInt32 >>> ((4 : Int32) &&& 31).toUInt32).toInt32) &&& (268435455 : Int32))))), (.int (2 : Int32)), (.ref bD)])) t → Steps p.tables e below (s₁.setTop (entryFrame m #[(.int p1), (.int p2), (.int p3), (.int p4), (.int p5), (.int p6)] maxLocals)) t := fun t kT => pre87 t (by
    show Steps p.tables e below (T85.setTop (mkF m 203 #[.val (.int p1), .val (.int p2), .val (.int p3), .val (.int p4), .val (.int p5), .val (.int p6), .val (.int (Int32.ofNat nn)), .val (.ref bS), .val (.ref bD), .val (.ref bP), .val (.ref bI), .val (.ref bJ), .unset, .unset, .unset] [])) _
    refine XS.aload X85.here hx rfl (hb hby at_203) rfl rfl ?_
    show Steps p.tables e below (T85.setTop (mkF m 205 #[.val (.int p1), .val (.int p2), .val (.int p3), .val (.int p4), .val (.int p5), .val (.int p6), .val (.int (Int32.ofNat nn)), .val (.ref bS), .val (.ref bD), .val (.ref bP), .val (.ref bI), .val (.ref bJ), .unset, .unset, .unset] [(.ref bD)])) _
    refine XS.iconst X85.here hx rfl (hb hby at_205) ?_
    show Steps p.tables e below (T85.setTop (mkF m 206 #[.val (.int p1), .val (.int p2), .val (.int p3), .val (.int p4), .val (.int p5), .val (.int p6), .val (.int (Int32.ofNat nn)), .val (.ref bS), .val (.ref bD), .val (.ref bP), .val (.ref bI), .val (.ref bJ), .unset, .unset, .unset] [(.int (2 : Int32)), (.ref bD)])) _
    refine XS.aload X85.here hx rfl (hb hby at_206) rfl rfl ?_
    show Steps p.tables e below (T85.setTop (mkF m 208 #[.val (.int p1), .val (.int p2), .val (.int p3), .val (.int p4), .val (.int p5), .val (.int p6), .val (.int (Int32.ofNat nn)), .val (.ref bS), .val (.ref bD), .val (.ref bP), .val (.ref bI), .val (.ref bJ), .unset, .unset, .unset] [(.ref bS), (.int (2 : Int32)), (.ref bD)])) _
    refine XS.iconst X85.here hx rfl (hb hby at_208) ?_
    show Steps p.tables e below (T85.setTop (mkF m 209 #[.val (.int p1), .val (.int p2), .val (.int p3), .val (.int p4), .val (.int p5), .val (.int p6), .val (.int (Int32.ofNat nn)), .val (.ref bS), .val (.ref bD), .val (.ref bP), .val (.ref bI), .val (.ref bJ), .unset, .unset, .unset] [(.int (2 : Int32)), (.ref bS), (.int (2 : Int32)), (.ref bD)])) _
    refine X85.baloadBooleans hx (j := (2 : Int32)) (v := (.int s2)) (by rw [e85]; exact Ao88.1) (State.isArrayOf_alike hZ.alike Ao88.2.1) Ao88.2.2 (own_ld So88 Ho88 (j := (2 : Int32)) (i := 2) (by decide) rfl (by decide) (v := (.int s2)) rfl).1 (own_ld So88 Ho88 (j := (2 : Int32)) (i := 2) (by decide) rfl (by decide) (v := (.int s2)) rfl).2 (g := (mkF m 209 #[.val (.int p1), .val (.int p2), .val (.int p3), .val (.int p4), .val (.int p5), .val (.int p6), .val (.int (Int32.ofNat nn)), .val (.ref bS), .val (.ref bD), .val (.ref bP), .val (.ref bI), .val (.ref bJ), .unset, .unset, .unset] [(.int (2 : Int32)), (.ref bS), (.int (2 : Int32)), (.ref bD)])) rfl rfl (hb hby at_209) _ ?_
    by_cases hc210 : s2 = (0 : Int32)
    · show Steps p.tables e below (T85.setTop (mkF m 210 #[.val (.int p1), .val (.int p2), .val (.int p3), .val (.int p4), .val (.int p5), .val (.int p6), .val (.int (Int32.ofNat nn)), .val (.ref bS), .val (.ref bD), .val (.ref bP), .val (.ref bI), .val (.ref bJ), .unset, .unset, .unset] [(.int s2), (.int (2 : Int32)), (.ref bD)])) _
      refine XS.ifYes X85.here hx rfl (pc0 := 210) (pc' := 220) rfl (hb hby at_210) rfl ((if0 _ _).trans (teq hc210).1) (by decide) (by decide) ?_
      show Steps p.tables e below (T85.setTop (mkF m 220 #[.val (.int p1), .val (.int p2), .val (.int p3), .val (.int p4), .val (.int p5), .val (.int p6), .val (.int (Int32.ofNat nn)), .val (.ref bS), .val (.ref bD), .val (.ref bP), .val (.ref bI), .val (.ref bJ), .unset, .unset, .unset] [(.int (2 : Int32)), (.ref bD)])) _
      refine XS.aload X85.here hx rfl (hb hby at_220) rfl rfl ?_
      show Steps p.tables e below (T85.setTop (mkF m 222 #[.val (.int p1), .val (.int p2), .val (.int p3), .val (.int p4), .val (.int p5), .val (.int p6), .val (.int (Int32.ofNat nn)), .val (.ref bS), .val (.ref bD), .val (.ref bP), .val (.ref bI), .val (.ref bJ), .unset, .unset, .unset] [(.ref bD), (.int (2 : Int32)), (.ref bD)])) _
      refine XS.iconst X85.here hx rfl (hb hby at_222) ?_
      show Steps p.tables e below (T85.setTop (mkF m 223 #[.val (.int p1), .val (.int p2), .val (.int p3), .val (.int p4), .val (.int p5), .val (.int p6), .val (.int (Int32.ofNat nn)), .val (.ref bS), .val (.ref bD), .val (.ref bP), .val (.ref bI), .val (.ref bJ), .unset, .unset, .unset] [(.int (1 : Int32)), (.ref bD), (.int (2 : Int32)), (.ref bD)])) _
      refine X85.iaload hx (j := (1 : Int32)) (v := (.int dB)) (by rw [e85]; exact Ao89.1) (State.isArrayOf_alike hZ.alike Ao89.2.1) Ao89.2.2 (own_ld So89 Ho89 (j := (1 : Int32)) (i := 1) (by decide) rfl (by decide) (v := (.int dB)) rfl).1 (own_ld So89 Ho89 (j := (1 : Int32)) (i := 1) (by decide) rfl (by decide) (v := (.int dB)) rfl).2 (g := (mkF m 223 #[.val (.int p1), .val (.int p2), .val (.int p3), .val (.int p4), .val (.int p5), .val (.int p6), .val (.int (Int32.ofNat nn)), .val (.ref bS), .val (.ref bD), .val (.ref bP), .val (.ref bI), .val (.ref bJ), .unset, .unset, .unset] [(.int (1 : Int32)), (.ref bD), (.int (2 : Int32)), (.ref bD)])) rfl rfl (hb hby at_223) _ ?_
      show Steps p.tables e below (T85.setTop (mkF m 224 #[.val (.int p1), .val (.int p2), .val (.int p3), .val (.int p4), .val (.int p5), .val (.int p6), .val (.int (Int32.ofNat nn)), .val (.ref bS), .val (.ref bD), .val (.ref bP), .val (.ref bI), .val (.ref bJ), .unset, .unset, .unset] [(.int dB), (.int (2 : Int32)), (.ref bD)])) _
      refine XS.iconst X85.here hx rfl (hb hby at_224) ?_
      show Steps p.tables e below (T85.setTop (mkF m 225 #[.val (.int p1), .val (.int p2), .val (.int p3), .val (.int p4), .val (.int p5), .val (.int p6), .val (.int (Int32.ofNat nn)), .val (.ref bS), .val (.ref bD), .val (.ref bP), .val (.ref bI), .val (.ref bJ), .unset, .unset, .unset] [(.int (1 : Int32)), (.int dB), (.int (2 : Int32)), (.ref bD)])) _
      refine XS.iadd X85.here hx rfl (hb hby at_225) rfl ?_
      show Steps p.tables e below (T85.setTop (mkF m 226 #[.val (.int p1), .val (.int p2), .val (.int p3), .val (.int p4), .val (.int p5), .val (.int p6), .val (.int (Int32.ofNat nn)), .val (.ref bS), .val (.ref bD), .val (.ref bP), .val (.ref bI), .val (.ref bJ), .unset, .unset, .unset] [(.int (dB + (1 : Int32))), (.int (2 : Int32)), (.ref bD)])) _
      refine XS.iloadN X85.here hx rfl (hb hby at_226) rfl ?_
      show Steps p.tables e below (T85.setTop (mkF m 227 #[.val (.int p1), .val (.int p2), .val (.int p3), .val (.int p4), .val (.int p5), .val (.int p6), .val (.int (Int32.ofNat nn)), .val (.ref bS), .val (.ref bD), .val (.ref bP), .val (.ref bI), .val (.ref bJ), .unset, .unset, .unset] [(.int p4), (.int (dB + (1 : Int32))), (.int (2 : Int32)), (.ref bD)])) _
      refine XS.iconst X85.here hx rfl (hb hby at_227) ?_
      show Steps p.tables e below (T85.setTop (mkF m 228 #[.val (.int p1), .val (.int p2), .val (.int p3), .val (.int p4), .val (.int p5), .val (.int p6), .val (.int (Int32.ofNat nn)), .val (.ref bS), .val (.ref bD), .val (.ref bP), .val (.ref bI), .val (.ref bJ), .unset, .unset, .unset] [(.int (4 : Int32)), (.int p4), (.int (dB + (1 : Int32))), (.int (2 : Int32)), (.ref bD)])) _
      refine XS.iushr X85.here hx rfl (hb hby at_228) rfl ?_
      show Steps p.tables e below (T85.setTop (mkF m 229 #[.val (.int p1), .val (.int p2), .val (.int p3), .val (.int p4), .val (.int p5), .val (.int p6), .val (.int (Int32.ofNat nn)), .val (.ref bS), .val (.ref bD), .val (.ref bP), .val (.ref bI), .val (.ref bJ), .unset, .unset, .unset] [(.int ((p4.toUInt32 >>> ((4 : Int32) &&& 31).toUInt32).toInt32)), (.int (dB + (1 : Int32))), (.int (2 : Int32)), (.ref bD)])) _
      refine X85.ldcI hx hown (mvT hZ (hw _ (List.mem_of_getElem? (i := 4) rfl))) rfl (hb hby at_229) ?_
      show Steps p.tables e below (T85.setTop (mkF m 231 #[.val (.int p1), .val (.int p2), .val (.int p3), .val (.int p4), .val (.int p5), .val (.int p6), .val (.int (Int32.ofNat nn)), .val (.ref bS), .val (.ref bD), .val (.ref bP), .val (.ref bI), .val (.ref bJ), .unset, .unset, .unset] [(.int (268435455 : Int32)), (.int ((p4.toUInt32 >>> ((4 : Int32) &&& 31).toUInt32).toInt32)), (.int (dB + (1 : Int32))), (.int (2 : Int32)), (.ref bD)])) _
      refine XS.iand X85.here hx rfl (hb hby at_231) rfl ?_
      show Steps p.tables e below (T85.setTop (mkF m 232 #[.val (.int p1), .val (.int p2), .val (.int p3), .val (.int p4), .val (.int p5), .val (.int p6), .val (.int (Int32.ofNat nn)), .val (.ref bS), .val (.ref bD), .val (.ref bP), .val (.ref bI), .val (.ref bJ), .unset, .unset, .unset] [(.int (((p4.toUInt32 >>> ((4 : Int32) &&& 31).toUInt32).toInt32) &&& (268435455 : Int32))), (.int (dB + (1 : Int32))), (.int (2 : Int32)), (.ref bD)])) _
      refine XS.iadd X85.here hx rfl (hb hby at_232) rfl ?_
      show Steps p.tables e below (T85.setTop (mkF m 233 #[.val (.int p1), .val (.int p2), .val (.int p3), .val (.int p4), .val (.int p5), .val (.int p6), .val (.int (Int32.ofNat nn)), .val (.ref bS), .val (.ref bD), .val (.ref bP), .val (.ref bI), .val (.ref bJ), .unset, .unset, .unset] [(.int ((dB + (1 : Int32)) + (((p4.toUInt32 >>> ((4 : Int32) &&& 31).toUInt32).toInt32) &&& (268435455 : Int32)))), (.int (2 : Int32)), (.ref bD)])) _
      exact castTop (by rw [show (own_sel s2 dB ((dB + (1 : Int32)) + (((p4.toUInt32 >>> ((4 : Int32) &&& 31).toUInt32).toInt32) &&& (268435455 : Int32)))) = ((dB + (1 : Int32)) + (((p4.toUInt32 >>> ((4 : Int32) &&& 31).toUInt32).toInt32) &&& (268435455 : Int32))) from by exact (if_pos hc210).trans (rfl)]) kT
    · show Steps p.tables e below (T85.setTop (mkF m 210 #[.val (.int p1), .val (.int p2), .val (.int p3), .val (.int p4), .val (.int p5), .val (.int p6), .val (.int (Int32.ofNat nn)), .val (.ref bS), .val (.ref bD), .val (.ref bP), .val (.ref bI), .val (.ref bJ), .unset, .unset, .unset] [(.int s2), (.int (2 : Int32)), (.ref bD)])) _
      refine XS.ifNo X85.here hx rfl (hb hby at_210) rfl ((if0 _ _).trans (feq hc210).1) ?_
      show Steps p.tables e below (T85.setTop (mkF m 213 #[.val (.int p1), .val (.int p2), .val (.int p3), .val (.int p4), .val (.int p5), .val (.int p6), .val (.int (Int32.ofNat nn)), .val (.ref bS), .val (.ref bD), .val (.ref bP), .val (.ref bI), .val (.ref bJ), .unset, .unset, .unset] [(.int (2 : Int32)), (.ref bD)])) _
      refine XS.aload X85.here hx rfl (hb hby at_213) rfl rfl ?_
      show Steps p.tables e below (T85.setTop (mkF m 215 #[.val (.int p1), .val (.int p2), .val (.int p3), .val (.int p4), .val (.int p5), .val (.int p6), .val (.int (Int32.ofNat nn)), .val (.ref bS), .val (.ref bD), .val (.ref bP), .val (.ref bI), .val (.ref bJ), .unset, .unset, .unset] [(.ref bD), (.int (2 : Int32)), (.ref bD)])) _
      refine XS.iconst X85.here hx rfl (hb hby at_215) ?_
      show Steps p.tables e below (T85.setTop (mkF m 216 #[.val (.int p1), .val (.int p2), .val (.int p3), .val (.int p4), .val (.int p5), .val (.int p6), .val (.int (Int32.ofNat nn)), .val (.ref bS), .val (.ref bD), .val (.ref bP), .val (.ref bI), .val (.ref bJ), .unset, .unset, .unset] [(.int (1 : Int32)), (.ref bD), (.int (2 : Int32)), (.ref bD)])) _
      refine X85.iaload hx (j := (1 : Int32)) (v := (.int dB)) (by rw [e85]; exact Ao89.1) (State.isArrayOf_alike hZ.alike Ao89.2.1) Ao89.2.2 (own_ld So89 Ho89 (j := (1 : Int32)) (i := 1) (by decide) rfl (by decide) (v := (.int dB)) rfl).1 (own_ld So89 Ho89 (j := (1 : Int32)) (i := 1) (by decide) rfl (by decide) (v := (.int dB)) rfl).2 (g := (mkF m 216 #[.val (.int p1), .val (.int p2), .val (.int p3), .val (.int p4), .val (.int p5), .val (.int p6), .val (.int (Int32.ofNat nn)), .val (.ref bS), .val (.ref bD), .val (.ref bP), .val (.ref bI), .val (.ref bJ), .unset, .unset, .unset] [(.int (1 : Int32)), (.ref bD), (.int (2 : Int32)), (.ref bD)])) rfl rfl (hb hby at_216) _ ?_
      show Steps p.tables e below (T85.setTop (mkF m 217 #[.val (.int p1), .val (.int p2), .val (.int p3), .val (.int p4), .val (.int p5), .val (.int p6), .val (.int (Int32.ofNat nn)), .val (.ref bS), .val (.ref bD), .val (.ref bP), .val (.ref bI), .val (.ref bJ), .unset, .unset, .unset] [(.int dB), (.int (2 : Int32)), (.ref bD)])) _
      refine XS.goto X85.here hx rfl (pc0 := 217) (pc' := 233) rfl (hb hby at_217) (by decide) (by decide) ?_
      show Steps p.tables e below (T85.setTop (mkF m 233 #[.val (.int p1), .val (.int p2), .val (.int p3), .val (.int p4), .val (.int p5), .val (.int p6), .val (.int (Int32.ofNat nn)), .val (.ref bS), .val (.ref bD), .val (.ref bP), .val (.ref bI), .val (.ref bJ), .unset, .unset, .unset] [(.int dB), (.int (2 : Int32)), (.ref bD)])) _
      exact castTop (by rw [show (own_sel s2 dB ((dB + (1 : Int32)) + (((p4.toUInt32 >>> ((4 : Int32) &&& 31).toUInt32).toInt32) &&& (268435455 : Int32)))) = dB from by exact (if_neg hc210).trans (rfl)]) kT)
  have pre91 : ∀ t, Steps p.tables e below (T85.setTop (mkF m 233 #[.val (.int p1), .val (.int p2), .val (.int p3), .val (.int p4), .val (.int p5), .val (.int p6), .val (.int (Int32.ofNat nn)), .val (.ref bS), .val (.ref bD), .val (.ref bP), .val (.ref bI), .val (.ref bJ), .unset, .unset, .unset] [(.int (own_sel s2 dB ((dB + (1 : Int32)) + (((p4.toUInt32 >>> ((4 : Int32) &&& 31).toUInt32).toInt32) &&& (268435455 : Int32))))), (.int (2 : Int32)), (.ref bD)])) t → Steps p.tables e below (s₁.setTop (entryFrame m #[(.int p1), (.int p2), (.int p3), (.int p4), (.int p5), (.int p6)] maxLocals)) t := fun t kT => pre90 t (by
    exact kT)
  obtain ⟨dC, hdC⟩ : ∃ z, z = (own_sel s2 dB ((dB + (1 : Int32)) + (((p4.toUInt32 >>> ((4 : Int32) &&& 31).toUInt32).toInt32) &&& (268435455 : Int32)))) := ⟨_, rfl⟩
  rw [← hdC] at pre91
  obtain ⟨co92, ⟨Ao92, Ko92⟩, So92, Ho92⟩ := id V_bD_e85
  have io92 := (own_ld So92 Ho92 (j := (2 : Int32)) (i := 2) (by decide) (show (2 : Int32).toNatClampNeg = 2 from rfl) (by decide) rfl).1
  have pre93 : ∀ t, Steps p.tables e below (T85.setTop (mkF m 233 #[.val (.int p1), .val (.int p2), .val (.int p3), .val (.int p4), .val (.int p5), .val (.int p6), .val (.int (Int32.ofNat nn)), .val (.ref bS), .val (.ref bD), .val (.ref bP), .val (.ref bI), .val (.ref bJ), .unset, .unset, .unset] [(.int dC), (.int (2 : Int32)), (.ref bD)])) t → Steps p.tables e below (s₁.setTop (entryFrame m #[(.int p1), (.int p2), (.int p3), (.int p4), (.int p5), (.int p6)] maxLocals)) t := fun t kT => pre91 t (by
    exact kT)
  obtain ⟨T94, h94, X94, e94, W94, st94⟩ := stI X85 hx hZ e85 Ao92 (j := (2 : Int32)) io92 (g := (mkF m 233 #[.val (.int p1), .val (.int p2), .val (.int p3), .val (.int p4), .val (.int p5), .val (.int p6), .val (.int (Int32.ofNat nn)), .val (.ref bS), .val (.ref bD), .val (.ref bP), .val (.ref bI), .val (.ref bJ), .unset, .unset, .unset] [(.int dC), (.int (2 : Int32)), (.ref bD)])) rfl rfl (hb hby at_233)
  rw [(show (2 : Int32).toNatClampNeg = 2 from rfl)] at W94
  have pre95 : ∀ t, Steps p.tables e below (T94.setTop (mkF m 234 #[.val (.int p1), .val (.int p2), .val (.int p3), .val (.int p4), .val (.int p5), .val (.int p6), .val (.int (Int32.ofNat nn)), .val (.ref bS), .val (.ref bD), .val (.ref bP), .val (.ref bI), .val (.ref bJ), .unset, .unset, .unset] [])) t → Steps p.tables e below (s₁.setTop (entryFrame m #[(.int p1), (.int p2), (.int p3), (.int p4), (.int p5), (.int p6)] maxLocals)) t := fun t kT => pre93 t (st94 t kT)
  have V_bS_e94 : own_Ar Z h94 bS .boolean 3 (own_upd (own_upd (own_upd (fun _ => (.int (0 : Int32))) 0 (.int (nar .boolean (0 : Int32)))) 1 (.int s1)) 2 (.int s2)) := V_bS_e85.other W94 ne_bS_bD
  have V_bP_e94 : own_Ar Z h94 bP .int 3 (own_upd (own_upd (fun _ => (.int (0 : Int32))) 0 (.int qA)) 1 (.int qB)) := V_bP_e85.other W94 (Ne.symm ne_bD_bP)
  have V_bI_e94 : own_Ar Z h94 bI .int 3 (own_upd (own_upd (fun _ => (.int (0 : Int32))) 0 (.int (0 : Int32))) 1 (.int (Int32.ofNat g1))) := V_bI_e85.other W94 (Ne.symm ne_bD_bI)
  have V_bJ_e94 : own_Ar Z h94 bJ .int 3 (own_upd (own_upd (fun _ => (.int (0 : Int32))) 0 (.int (0 : Int32))) 1 (.int (Int32.ofNat j1))) := V_bJ_e85.other W94 (Ne.symm ne_bD_bJ)
  have sz94 : n0 ≤ h94.size := Nat.le_trans sz85 (Keep.of_wr W94).1
  have V_bD_e94 : own_Ar Z h94 bD .int 3 (own_upd (own_upd (own_upd (fun _ => (.int (0 : Int32))) 0 (.int dA)) 1 (.int dB)) 2 (.int dC)) := V_bD_e85.set W94
  have N94 := Fr.snoc X94 N85 g_bD
  have pre96 : ∀ t, Steps p.tables e below (T94.setTop (mkF m 234 #[.val (.int p1), .val (.int p2), .val (.int p3), .val (.int p4), .val (.int p5), .val (.int p6), .val (.int (Int32.ofNat nn)), .val (.ref bS), .val (.ref bD), .val (.ref bP), .val (.ref bI), .val (.ref bJ), .unset, .unset, .unset] [])) t → Steps p.tables e below (s₁.setTop (entryFrame m #[(.int p1), (.int p2), (.int p3), (.int p4), (.int p5), (.int p6)] maxLocals)) t := fun t kT => pre95 t (by
    exact kT)
  obtain ⟨co97, ⟨Ao97, Ko97⟩, So97, Ho97⟩ := id V_bS_e94
  obtain ⟨co98, ⟨Ao98, Ko98⟩, So98, Ho98⟩ := id V_bP_e94
  have pre99 : ∀ t, Steps p.tables e below (T94.setTop (mkF m 268 #[.val (.int p1), .val (.int p2), .val (.int p3), .val (.int p4), .val (.int p5), .val (.int p6), .val (.int (Int32.ofNat nn)), .val (.ref bS), .val (.ref bD), .val (.ref bP), .val (.ref bI), .val (.ref bJ), .unset, .unset, .unset] [(.int (own_sel s2 ((qB + (1 : Int32)) + (((p5.toUInt32 >>> ((4 : Int32) &&& 31).toUInt32).toInt32) &&& (268435455 : Int32))) (((p6.toUInt32 >>> ((1 : Int32) &&& 31).toUInt32).toInt32) &&& (1073741823 : Int32)))), (.int (2 : Int32)), (.ref bP)])) t → Steps p.tables e below (s₁.setTop (entryFrame m #[(.int p1), (.int p2), (.int p3), (.int p4), (.int p5), (.int p6)] maxLocals)) t := fun t kT => pre96 t (by
    show Steps p.tables e below (T94.setTop (mkF m 234 #[.val (.int p1), .val (.int p2), .val (.int p3), .val (.int p4), .val (.int p5), .val (.int p6), .val (.int (Int32.ofNat nn)), .val (.ref bS), .val (.ref bD), .val (.ref bP), .val (.ref bI), .val (.ref bJ), .unset, .unset, .unset] [])) _
    refine XS.aload X94.here hx rfl (hb hby at_234) rfl rfl ?_
    show Steps p.tables e below (T94.setTop (mkF m 236 #[.val (.int p1), .val (.int p2), .val (.int p3), .val (.int p4), .val (.int p5), .val (.int p6), .val (.int (Int32.ofNat nn)), .val (.ref bS), .val (.ref bD), .val (.ref bP), .val (.ref bI), .val (.ref bJ), .unset, .unset, .unset] [(.ref bP)])) _
    refine XS.iconst X94.here hx rfl (hb hby at_236) ?_
    show Steps p.tables e below (T94.setTop (mkF m 237 #[.val (.int p1), .val (.int p2), .val (.int p3), .val (.int p4), .val (.int p5), .val (.int p6), .val (.int (Int32.ofNat nn)), .val (.ref bS), .val (.ref bD), .val (.ref bP), .val (.ref bI), .val (.ref bJ), .unset, .unset, .unset] [(.int (2 : Int32)), (.ref bP)])) _
    refine XS.aload X94.here hx rfl (hb hby at_237) rfl rfl ?_
    show Steps p.tables e below (T94.setTop (mkF m 239 #[.val (.int p1), .val (.int p2), .val (.int p3), .val (.int p4), .val (.int p5), .val (.int p6), .val (.int (Int32.ofNat nn)), .val (.ref bS), .val (.ref bD), .val (.ref bP), .val (.ref bI), .val (.ref bJ), .unset, .unset, .unset] [(.ref bS), (.int (2 : Int32)), (.ref bP)])) _
    refine XS.iconst X94.here hx rfl (hb hby at_239) ?_
    show Steps p.tables e below (T94.setTop (mkF m 240 #[.val (.int p1), .val (.int p2), .val (.int p3), .val (.int p4), .val (.int p5), .val (.int p6), .val (.int (Int32.ofNat nn)), .val (.ref bS), .val (.ref bD), .val (.ref bP), .val (.ref bI), .val (.ref bJ), .unset, .unset, .unset] [(.int (2 : Int32)), (.ref bS), (.int (2 : Int32)), (.ref bP)])) _
    refine X94.baloadBooleans hx (j := (2 : Int32)) (v := (.int s2)) (by rw [e94]; exact Ao97.1) (State.isArrayOf_alike hZ.alike Ao97.2.1) Ao97.2.2 (own_ld So97 Ho97 (j := (2 : Int32)) (i := 2) (by decide) rfl (by decide) (v := (.int s2)) rfl).1 (own_ld So97 Ho97 (j := (2 : Int32)) (i := 2) (by decide) rfl (by decide) (v := (.int s2)) rfl).2 (g := (mkF m 240 #[.val (.int p1), .val (.int p2), .val (.int p3), .val (.int p4), .val (.int p5), .val (.int p6), .val (.int (Int32.ofNat nn)), .val (.ref bS), .val (.ref bD), .val (.ref bP), .val (.ref bI), .val (.ref bJ), .unset, .unset, .unset] [(.int (2 : Int32)), (.ref bS), (.int (2 : Int32)), (.ref bP)])) rfl rfl (hb hby at_240) _ ?_
    by_cases hc241 : s2 = (0 : Int32)
    · show Steps p.tables e below (T94.setTop (mkF m 241 #[.val (.int p1), .val (.int p2), .val (.int p3), .val (.int p4), .val (.int p5), .val (.int p6), .val (.int (Int32.ofNat nn)), .val (.ref bS), .val (.ref bD), .val (.ref bP), .val (.ref bI), .val (.ref bJ), .unset, .unset, .unset] [(.int s2), (.int (2 : Int32)), (.ref bP)])) _
      refine XS.ifYes X94.here hx rfl (pc0 := 241) (pc' := 261) rfl (hb hby at_241) rfl ((if0 _ _).trans (teq hc241).1) (by decide) (by decide) ?_
      show Steps p.tables e below (T94.setTop (mkF m 261 #[.val (.int p1), .val (.int p2), .val (.int p3), .val (.int p4), .val (.int p5), .val (.int p6), .val (.int (Int32.ofNat nn)), .val (.ref bS), .val (.ref bD), .val (.ref bP), .val (.ref bI), .val (.ref bJ), .unset, .unset, .unset] [(.int (2 : Int32)), (.ref bP)])) _
      refine XS.iload X94.here hx rfl (hb hby at_261) rfl ?_
      show Steps p.tables e below (T94.setTop (mkF m 263 #[.val (.int p1), .val (.int p2), .val (.int p3), .val (.int p4), .val (.int p5), .val (.int p6), .val (.int (Int32.ofNat nn)), .val (.ref bS), .val (.ref bD), .val (.ref bP), .val (.ref bI), .val (.ref bJ), .unset, .unset, .unset] [(.int p6), (.int (2 : Int32)), (.ref bP)])) _
      refine XS.iconst X94.here hx rfl (hb hby at_263) ?_
      show Steps p.tables e below (T94.setTop (mkF m 264 #[.val (.int p1), .val (.int p2), .val (.int p3), .val (.int p4), .val (.int p5), .val (.int p6), .val (.int (Int32.ofNat nn)), .val (.ref bS), .val (.ref bD), .val (.ref bP), .val (.ref bI), .val (.ref bJ), .unset, .unset, .unset] [(.int (1 : Int32)), (.int p6), (.int (2 : Int32)), (.ref bP)])) _
      refine XS.iushr X94.here hx rfl (hb hby at_264) rfl ?_
      show Steps p.tables e below (T94.setTop (mkF m 265 #[.val (.int p1), .val (.int p2), .val (.int p3), .val (.int p4), .val (.int p5), .val (.int p6), .val (.int (Int32.ofNat nn)), .val (.ref bS), .val (.ref bD), .val (.ref bP), .val (.ref bI), .val (.ref bJ), .unset, .unset, .unset] [(.int ((p6.toUInt32 >>> ((1 : Int32) &&& 31).toUInt32).toInt32)), (.int (2 : Int32)), (.ref bP)])) _
      refine X94.ldcI hx hown (mvT hZ (hw _ (List.mem_of_getElem? (i := 3) rfl))) rfl (hb hby at_265) ?_
      show Steps p.tables e below (T94.setTop (mkF m 267 #[.val (.int p1), .val (.int p2), .val (.int p3), .val (.int p4), .val (.int p5), .val (.int p6), .val (.int (Int32.ofNat nn)), .val (.ref bS), .val (.ref bD), .val (.ref bP), .val (.ref bI), .val (.ref bJ), .unset, .unset, .unset] [(.int (1073741823 : Int32)), (.int ((p6.toUInt32 >>> ((1 : Int32) &&& 31).toUInt32).toInt32)), (.int (2 : Int32)), (.ref bP)])) _
      refine XS.iand X94.here hx rfl (hb hby at_267) rfl ?_
      show Steps p.tables e below (T94.setTop (mkF m 268 #[.val (.int p1), .val (.int p2), .val (.int p3), .val (.int p4), .val (.int p5), .val (.int p6), .val (.int (Int32.ofNat nn)), .val (.ref bS), .val (.ref bD), .val (.ref bP), .val (.ref bI), .val (.ref bJ), .unset, .unset, .unset] [(.int (((p6.toUInt32 >>> ((1 : Int32) &&& 31).toUInt32).toInt32) &&& (1073741823 : Int32))), (.int (2 : Int32)), (.ref bP)])) _
      exact castTop (by rw [show (own_sel s2 ((qB + (1 : Int32)) + (((p5.toUInt32 >>> ((4 : Int32) &&& 31).toUInt32).toInt32) &&& (268435455 : Int32))) (((p6.toUInt32 >>> ((1 : Int32) &&& 31).toUInt32).toInt32) &&& (1073741823 : Int32))) = (((p6.toUInt32 >>> ((1 : Int32) &&& 31).toUInt32).toInt32) &&& (1073741823 : Int32)) from by exact (if_pos hc241).trans (rfl)]) kT
    · show Steps p.tables e below (T94.setTop (mkF m 241 #[.val (.int p1), .val (.int p2), .val (.int p3), .val (.int p4), .val (.int p5), .val (.int p6), .val (.int (Int32.ofNat nn)), .val (.ref bS), .val (.ref bD), .val (.ref bP), .val (.ref bI), .val (.ref bJ), .unset, .unset, .unset] [(.int s2), (.int (2 : Int32)), (.ref bP)])) _
      refine XS.ifNo X94.here hx rfl (hb hby at_241) rfl ((if0 _ _).trans (feq hc241).1) ?_
      show Steps p.tables e below (T94.setTop (mkF m 244 #[.val (.int p1), .val (.int p2), .val (.int p3), .val (.int p4), .val (.int p5), .val (.int p6), .val (.int (Int32.ofNat nn)), .val (.ref bS), .val (.ref bD), .val (.ref bP), .val (.ref bI), .val (.ref bJ), .unset, .unset, .unset] [(.int (2 : Int32)), (.ref bP)])) _
      refine XS.aload X94.here hx rfl (hb hby at_244) rfl rfl ?_
      show Steps p.tables e below (T94.setTop (mkF m 246 #[.val (.int p1), .val (.int p2), .val (.int p3), .val (.int p4), .val (.int p5), .val (.int p6), .val (.int (Int32.ofNat nn)), .val (.ref bS), .val (.ref bD), .val (.ref bP), .val (.ref bI), .val (.ref bJ), .unset, .unset, .unset] [(.ref bP), (.int (2 : Int32)), (.ref bP)])) _
      refine XS.iconst X94.here hx rfl (hb hby at_246) ?_
      show Steps p.tables e below (T94.setTop (mkF m 247 #[.val (.int p1), .val (.int p2), .val (.int p3), .val (.int p4), .val (.int p5), .val (.int p6), .val (.int (Int32.ofNat nn)), .val (.ref bS), .val (.ref bD), .val (.ref bP), .val (.ref bI), .val (.ref bJ), .unset, .unset, .unset] [(.int (1 : Int32)), (.ref bP), (.int (2 : Int32)), (.ref bP)])) _
      refine X94.iaload hx (j := (1 : Int32)) (v := (.int qB)) (by rw [e94]; exact Ao98.1) (State.isArrayOf_alike hZ.alike Ao98.2.1) Ao98.2.2 (own_ld So98 Ho98 (j := (1 : Int32)) (i := 1) (by decide) rfl (by decide) (v := (.int qB)) rfl).1 (own_ld So98 Ho98 (j := (1 : Int32)) (i := 1) (by decide) rfl (by decide) (v := (.int qB)) rfl).2 (g := (mkF m 247 #[.val (.int p1), .val (.int p2), .val (.int p3), .val (.int p4), .val (.int p5), .val (.int p6), .val (.int (Int32.ofNat nn)), .val (.ref bS), .val (.ref bD), .val (.ref bP), .val (.ref bI), .val (.ref bJ), .unset, .unset, .unset] [(.int (1 : Int32)), (.ref bP), (.int (2 : Int32)), (.ref bP)])) rfl rfl (hb hby at_247) _ ?_
      show Steps p.tables e below (T94.setTop (mkF m 248 #[.val (.int p1), .val (.int p2), .val (.int p3), .val (.int p4), .val (.int p5), .val (.int p6), .val (.int (Int32.ofNat nn)), .val (.ref bS), .val (.ref bD), .val (.ref bP), .val (.ref bI), .val (.ref bJ), .unset, .unset, .unset] [(.int qB), (.int (2 : Int32)), (.ref bP)])) _
      refine XS.iconst X94.here hx rfl (hb hby at_248) ?_
      show Steps p.tables e below (T94.setTop (mkF m 249 #[.val (.int p1), .val (.int p2), .val (.int p3), .val (.int p4), .val (.int p5), .val (.int p6), .val (.int (Int32.ofNat nn)), .val (.ref bS), .val (.ref bD), .val (.ref bP), .val (.ref bI), .val (.ref bJ), .unset, .unset, .unset] [(.int (1 : Int32)), (.int qB), (.int (2 : Int32)), (.ref bP)])) _
      refine XS.iadd X94.here hx rfl (hb hby at_249) rfl ?_
      show Steps p.tables e below (T94.setTop (mkF m 250 #[.val (.int p1), .val (.int p2), .val (.int p3), .val (.int p4), .val (.int p5), .val (.int p6), .val (.int (Int32.ofNat nn)), .val (.ref bS), .val (.ref bD), .val (.ref bP), .val (.ref bI), .val (.ref bJ), .unset, .unset, .unset] [(.int (qB + (1 : Int32))), (.int (2 : Int32)), (.ref bP)])) _
      refine XS.iload X94.here hx rfl (hb hby at_250) rfl ?_
      show Steps p.tables e below (T94.setTop (mkF m 252 #[.val (.int p1), .val (.int p2), .val (.int p3), .val (.int p4), .val (.int p5), .val (.int p6), .val (.int (Int32.ofNat nn)), .val (.ref bS), .val (.ref bD), .val (.ref bP), .val (.ref bI), .val (.ref bJ), .unset, .unset, .unset] [(.int p5), (.int (qB + (1 : Int32))), (.int (2 : Int32)), (.ref bP)])) _
      refine XS.iconst X94.here hx rfl (hb hby at_252) ?_
      show Steps p.tables e below (T94.setTop (mkF m 253 #[.val (.int p1), .val (.int p2), .val (.int p3), .val (.int p4), .val (.int p5), .val (.int p6), .val (.int (Int32.ofNat nn)), .val (.ref bS), .val (.ref bD), .val (.ref bP), .val (.ref bI), .val (.ref bJ), .unset, .unset, .unset] [(.int (4 : Int32)), (.int p5), (.int (qB + (1 : Int32))), (.int (2 : Int32)), (.ref bP)])) _
      refine XS.iushr X94.here hx rfl (hb hby at_253) rfl ?_
      show Steps p.tables e below (T94.setTop (mkF m 254 #[.val (.int p1), .val (.int p2), .val (.int p3), .val (.int p4), .val (.int p5), .val (.int p6), .val (.int (Int32.ofNat nn)), .val (.ref bS), .val (.ref bD), .val (.ref bP), .val (.ref bI), .val (.ref bJ), .unset, .unset, .unset] [(.int ((p5.toUInt32 >>> ((4 : Int32) &&& 31).toUInt32).toInt32)), (.int (qB + (1 : Int32))), (.int (2 : Int32)), (.ref bP)])) _
      refine X94.ldcI hx hown (mvT hZ (hw _ (List.mem_of_getElem? (i := 4) rfl))) rfl (hb hby at_254) ?_
      show Steps p.tables e below (T94.setTop (mkF m 256 #[.val (.int p1), .val (.int p2), .val (.int p3), .val (.int p4), .val (.int p5), .val (.int p6), .val (.int (Int32.ofNat nn)), .val (.ref bS), .val (.ref bD), .val (.ref bP), .val (.ref bI), .val (.ref bJ), .unset, .unset, .unset] [(.int (268435455 : Int32)), (.int ((p5.toUInt32 >>> ((4 : Int32) &&& 31).toUInt32).toInt32)), (.int (qB + (1 : Int32))), (.int (2 : Int32)), (.ref bP)])) _
      refine XS.iand X94.here hx rfl (hb hby at_256) rfl ?_
      show Steps p.tables e below (T94.setTop (mkF m 257 #[.val (.int p1), .val (.int p2), .val (.int p3), .val (.int p4), .val (.int p5), .val (.int p6), .val (.int (Int32.ofNat nn)), .val (.ref bS), .val (.ref bD), .val (.ref bP), .val (.ref bI), .val (.ref bJ), .unset, .unset, .unset] [(.int (((p5.toUInt32 >>> ((4 : Int32) &&& 31).toUInt32).toInt32) &&& (268435455 : Int32))), (.int (qB + (1 : Int32))), (.int (2 : Int32)), (.ref bP)])) _
      refine XS.iadd X94.here hx rfl (hb hby at_257) rfl ?_
      show Steps p.tables e below (T94.setTop (mkF m 258 #[.val (.int p1), .val (.int p2), .val (.int p3), .val (.int p4), .val (.int p5), .val (.int p6), .val (.int (Int32.ofNat nn)), .val (.ref bS), .val (.ref bD), .val (.ref bP), .val (.ref bI), .val (.ref bJ), .unset, .unset, .unset] [(.int ((qB + (1 : Int32)) + (((p5.toUInt32 >>> ((4 : Int32) &&& 31).toUInt32).toInt32) &&& (268435455 : Int32)))), (.int (2 : Int32)), (.ref bP)])) _
      refine XS.goto X94.here hx rfl (pc0 := 258) (pc' := 268) rfl (hb hby at_258) (by decide) (by decide) ?_
      show Steps p.tables e below (T94.setTop (mkF m 268 #[.val (.int p1), .val (.int p2), .val (.int p3), .val (.int p4), .val (.int p5), .val (.int p6), .val (.int (Int32.ofNat nn)), .val (.ref bS), .val (.ref bD), .val (.ref bP), .val (.ref bI), .val (.ref bJ), .unset, .unset, .unset] [(.int ((qB + (1 : Int32)) + (((p5.toUInt32 >>> ((4 : Int32) &&& 31).toUInt32).toInt32) &&& (268435455 : Int32)))), (.int (2 : Int32)), (.ref bP)])) _
      exact castTop (by rw [show (own_sel s2 ((qB + (1 : Int32)) + (((p5.toUInt32 >>> ((4 : Int32) &&& 31).toUInt32).toInt32) &&& (268435455 : Int32))) (((p6.toUInt32 >>> ((1 : Int32) &&& 31).toUInt32).toInt32) &&& (1073741823 : Int32))) = ((qB + (1 : Int32)) + (((p5.toUInt32 >>> ((4 : Int32) &&& 31).toUInt32).toInt32) &&& (268435455 : Int32))) from by exact (if_neg hc241).trans (rfl)]) kT)
  have pre100 : ∀ t, Steps p.tables e below (T94.setTop (mkF m 268 #[.val (.int p1), .val (.int p2), .val (.int p3), .val (.int p4), .val (.int p5), .val (.int p6), .val (.int (Int32.ofNat nn)), .val (.ref bS), .val (.ref bD), .val (.ref bP), .val (.ref bI), .val (.ref bJ), .unset, .unset, .unset] [(.int (own_sel s2 ((qB + (1 : Int32)) + (((p5.toUInt32 >>> ((4 : Int32) &&& 31).toUInt32).toInt32) &&& (268435455 : Int32))) (((p6.toUInt32 >>> ((1 : Int32) &&& 31).toUInt32).toInt32) &&& (1073741823 : Int32)))), (.int (2 : Int32)), (.ref bP)])) t → Steps p.tables e below (s₁.setTop (entryFrame m #[(.int p1), (.int p2), (.int p3), (.int p4), (.int p5), (.int p6)] maxLocals)) t := fun t kT => pre99 t (by
    exact kT)
  obtain ⟨qC, hqC⟩ : ∃ z, z = (own_sel s2 ((qB + (1 : Int32)) + (((p5.toUInt32 >>> ((4 : Int32) &&& 31).toUInt32).toInt32) &&& (268435455 : Int32))) (((p6.toUInt32 >>> ((1 : Int32) &&& 31).toUInt32).toInt32) &&& (1073741823 : Int32))) := ⟨_, rfl⟩
  rw [← hqC] at pre100
  obtain ⟨co101, ⟨Ao101, Ko101⟩, So101, Ho101⟩ := id V_bP_e94
  have io101 := (own_ld So101 Ho101 (j := (2 : Int32)) (i := 2) (by decide) (show (2 : Int32).toNatClampNeg = 2 from rfl) (by decide) rfl).1
  have pre102 : ∀ t, Steps p.tables e below (T94.setTop (mkF m 268 #[.val (.int p1), .val (.int p2), .val (.int p3), .val (.int p4), .val (.int p5), .val (.int p6), .val (.int (Int32.ofNat nn)), .val (.ref bS), .val (.ref bD), .val (.ref bP), .val (.ref bI), .val (.ref bJ), .unset, .unset, .unset] [(.int qC), (.int (2 : Int32)), (.ref bP)])) t → Steps p.tables e below (s₁.setTop (entryFrame m #[(.int p1), (.int p2), (.int p3), (.int p4), (.int p5), (.int p6)] maxLocals)) t := fun t kT => pre100 t (by
    exact kT)
  obtain ⟨T103, h103, X103, e103, W103, st103⟩ := stI X94 hx hZ e94 Ao101 (j := (2 : Int32)) io101 (g := (mkF m 268 #[.val (.int p1), .val (.int p2), .val (.int p3), .val (.int p4), .val (.int p5), .val (.int p6), .val (.int (Int32.ofNat nn)), .val (.ref bS), .val (.ref bD), .val (.ref bP), .val (.ref bI), .val (.ref bJ), .unset, .unset, .unset] [(.int qC), (.int (2 : Int32)), (.ref bP)])) rfl rfl (hb hby at_268)
  rw [(show (2 : Int32).toNatClampNeg = 2 from rfl)] at W103
  have pre104 : ∀ t, Steps p.tables e below (T103.setTop (mkF m 269 #[.val (.int p1), .val (.int p2), .val (.int p3), .val (.int p4), .val (.int p5), .val (.int p6), .val (.int (Int32.ofNat nn)), .val (.ref bS), .val (.ref bD), .val (.ref bP), .val (.ref bI), .val (.ref bJ), .unset, .unset, .unset] [])) t → Steps p.tables e below (s₁.setTop (entryFrame m #[(.int p1), (.int p2), (.int p3), (.int p4), (.int p5), (.int p6)] maxLocals)) t := fun t kT => pre102 t (st103 t kT)
  have V_bS_e103 : own_Ar Z h103 bS .boolean 3 (own_upd (own_upd (own_upd (fun _ => (.int (0 : Int32))) 0 (.int (nar .boolean (0 : Int32)))) 1 (.int s1)) 2 (.int s2)) := V_bS_e94.other W103 ne_bS_bP
  have V_bD_e103 : own_Ar Z h103 bD .int 3 (own_upd (own_upd (own_upd (fun _ => (.int (0 : Int32))) 0 (.int dA)) 1 (.int dB)) 2 (.int dC)) := V_bD_e94.other W103 ne_bD_bP
  have V_bI_e103 : own_Ar Z h103 bI .int 3 (own_upd (own_upd (fun _ => (.int (0 : Int32))) 0 (.int (0 : Int32))) 1 (.int (Int32.ofNat g1))) := V_bI_e94.other W103 (Ne.symm ne_bP_bI)
  have V_bJ_e103 : own_Ar Z h103 bJ .int 3 (own_upd (own_upd (fun _ => (.int (0 : Int32))) 0 (.int (0 : Int32))) 1 (.int (Int32.ofNat j1))) := V_bJ_e94.other W103 (Ne.symm ne_bP_bJ)
  have sz103 : n0 ≤ h103.size := Nat.le_trans sz94 (Keep.of_wr W103).1
  have V_bP_e103 : own_Ar Z h103 bP .int 3 (own_upd (own_upd (own_upd (fun _ => (.int (0 : Int32))) 0 (.int qA)) 1 (.int qB)) 2 (.int qC)) := V_bP_e94.set W103
  have N103 := Fr.snoc X103 N94 g_bP
  have pre105 : ∀ t, Steps p.tables e below (T103.setTop (mkF m 269 #[.val (.int p1), .val (.int p2), .val (.int p3), .val (.int p4), .val (.int p5), .val (.int p6), .val (.int (Int32.ofNat nn)), .val (.ref bS), .val (.ref bD), .val (.ref bP), .val (.ref bI), .val (.ref bJ), .unset, .unset, .unset] [])) t → Steps p.tables e below (s₁.setTop (entryFrame m #[(.int p1), (.int p2), (.int p3), (.int p4), (.int p5), (.int p6)] maxLocals)) t := fun t kT => pre104 t (by
    exact kT)
  obtain ⟨co106, ⟨Ao106, Ko106⟩, So106, Ho106⟩ := id V_bS_e103
  obtain ⟨co107, ⟨Ao107, Ko107⟩, So107, Ho107⟩ := id V_bI_e103
  have pre108 : ∀ t, Steps p.tables e below (T103.setTop (mkF m 292 #[.val (.int p1), .val (.int p2), .val (.int p3), .val (.int p4), .val (.int p5), .val (.int p6), .val (.int (Int32.ofNat nn)), .val (.ref bS), .val (.ref bD), .val (.ref bP), .val (.ref bI), .val (.ref bJ), .unset, .unset, .unset] [(.int (own_sel s2 (Int32.ofNat g1) ((Int32.ofNat g1) + (1 : Int32)))), (.int (2 : Int32)), (.ref bI)])) t → Steps p.tables e below (s₁.setTop (entryFrame m #[(.int p1), (.int p2), (.int p3), (.int p4), (.int p5), (.int p6)] maxLocals)) t := fun t kT => pre105 t (by
    show Steps p.tables e below (T103.setTop (mkF m 269 #[.val (.int p1), .val (.int p2), .val (.int p3), .val (.int p4), .val (.int p5), .val (.int p6), .val (.int (Int32.ofNat nn)), .val (.ref bS), .val (.ref bD), .val (.ref bP), .val (.ref bI), .val (.ref bJ), .unset, .unset, .unset] [])) _
    refine XS.aload X103.here hx rfl (hb hby at_269) rfl rfl ?_
    show Steps p.tables e below (T103.setTop (mkF m 271 #[.val (.int p1), .val (.int p2), .val (.int p3), .val (.int p4), .val (.int p5), .val (.int p6), .val (.int (Int32.ofNat nn)), .val (.ref bS), .val (.ref bD), .val (.ref bP), .val (.ref bI), .val (.ref bJ), .unset, .unset, .unset] [(.ref bI)])) _
    refine XS.iconst X103.here hx rfl (hb hby at_271) ?_
    show Steps p.tables e below (T103.setTop (mkF m 272 #[.val (.int p1), .val (.int p2), .val (.int p3), .val (.int p4), .val (.int p5), .val (.int p6), .val (.int (Int32.ofNat nn)), .val (.ref bS), .val (.ref bD), .val (.ref bP), .val (.ref bI), .val (.ref bJ), .unset, .unset, .unset] [(.int (2 : Int32)), (.ref bI)])) _
    refine XS.aload X103.here hx rfl (hb hby at_272) rfl rfl ?_
    show Steps p.tables e below (T103.setTop (mkF m 274 #[.val (.int p1), .val (.int p2), .val (.int p3), .val (.int p4), .val (.int p5), .val (.int p6), .val (.int (Int32.ofNat nn)), .val (.ref bS), .val (.ref bD), .val (.ref bP), .val (.ref bI), .val (.ref bJ), .unset, .unset, .unset] [(.ref bS), (.int (2 : Int32)), (.ref bI)])) _
    refine XS.iconst X103.here hx rfl (hb hby at_274) ?_
    show Steps p.tables e below (T103.setTop (mkF m 275 #[.val (.int p1), .val (.int p2), .val (.int p3), .val (.int p4), .val (.int p5), .val (.int p6), .val (.int (Int32.ofNat nn)), .val (.ref bS), .val (.ref bD), .val (.ref bP), .val (.ref bI), .val (.ref bJ), .unset, .unset, .unset] [(.int (2 : Int32)), (.ref bS), (.int (2 : Int32)), (.ref bI)])) _
    refine X103.baloadBooleans hx (j := (2 : Int32)) (v := (.int s2)) (by rw [e103]; exact Ao106.1) (State.isArrayOf_alike hZ.alike Ao106.2.1) Ao106.2.2 (own_ld So106 Ho106 (j := (2 : Int32)) (i := 2) (by decide) rfl (by decide) (v := (.int s2)) rfl).1 (own_ld So106 Ho106 (j := (2 : Int32)) (i := 2) (by decide) rfl (by decide) (v := (.int s2)) rfl).2 (g := (mkF m 275 #[.val (.int p1), .val (.int p2), .val (.int p3), .val (.int p4), .val (.int p5), .val (.int p6), .val (.int (Int32.ofNat nn)), .val (.ref bS), .val (.ref bD), .val (.ref bP), .val (.ref bI), .val (.ref bJ), .unset, .unset, .unset] [(.int (2 : Int32)), (.ref bS), (.int (2 : Int32)), (.ref bI)])) rfl rfl (hb hby at_275) _ ?_
    by_cases hc276 : s2 = (0 : Int32)
    · show Steps p.tables e below (T103.setTop (mkF m 276 #[.val (.int p1), .val (.int p2), .val (.int p3), .val (.int p4), .val (.int p5), .val (.int p6), .val (.int (Int32.ofNat nn)), .val (.ref bS), .val (.ref bD), .val (.ref bP), .val (.ref bI), .val (.ref bJ), .unset, .unset, .unset] [(.int s2), (.int (2 : Int32)), (.ref bI)])) _
      refine XS.ifYes X103.here hx rfl (pc0 := 276) (pc' := 286) rfl (hb hby at_276) rfl ((if0 _ _).trans (teq hc276).1) (by decide) (by decide) ?_
      show Steps p.tables e below (T103.setTop (mkF m 286 #[.val (.int p1), .val (.int p2), .val (.int p3), .val (.int p4), .val (.int p5), .val (.int p6), .val (.int (Int32.ofNat nn)), .val (.ref bS), .val (.ref bD), .val (.ref bP), .val (.ref bI), .val (.ref bJ), .unset, .unset, .unset] [(.int (2 : Int32)), (.ref bI)])) _
      refine XS.aload X103.here hx rfl (hb hby at_286) rfl rfl ?_
      show Steps p.tables e below (T103.setTop (mkF m 288 #[.val (.int p1), .val (.int p2), .val (.int p3), .val (.int p4), .val (.int p5), .val (.int p6), .val (.int (Int32.ofNat nn)), .val (.ref bS), .val (.ref bD), .val (.ref bP), .val (.ref bI), .val (.ref bJ), .unset, .unset, .unset] [(.ref bI), (.int (2 : Int32)), (.ref bI)])) _
      refine XS.iconst X103.here hx rfl (hb hby at_288) ?_
      show Steps p.tables e below (T103.setTop (mkF m 289 #[.val (.int p1), .val (.int p2), .val (.int p3), .val (.int p4), .val (.int p5), .val (.int p6), .val (.int (Int32.ofNat nn)), .val (.ref bS), .val (.ref bD), .val (.ref bP), .val (.ref bI), .val (.ref bJ), .unset, .unset, .unset] [(.int (1 : Int32)), (.ref bI), (.int (2 : Int32)), (.ref bI)])) _
      refine X103.iaload hx (j := (1 : Int32)) (v := (.int (Int32.ofNat g1))) (by rw [e103]; exact Ao107.1) (State.isArrayOf_alike hZ.alike Ao107.2.1) Ao107.2.2 (own_ld So107 Ho107 (j := (1 : Int32)) (i := 1) (by decide) rfl (by decide) (v := (.int (Int32.ofNat g1))) rfl).1 (own_ld So107 Ho107 (j := (1 : Int32)) (i := 1) (by decide) rfl (by decide) (v := (.int (Int32.ofNat g1))) rfl).2 (g := (mkF m 289 #[.val (.int p1), .val (.int p2), .val (.int p3), .val (.int p4), .val (.int p5), .val (.int p6), .val (.int (Int32.ofNat nn)), .val (.ref bS), .val (.ref bD), .val (.ref bP), .val (.ref bI), .val (.ref bJ), .unset, .unset, .unset] [(.int (1 : Int32)), (.ref bI), (.int (2 : Int32)), (.ref bI)])) rfl rfl (hb hby at_289) _ ?_
      show Steps p.tables e below (T103.setTop (mkF m 290 #[.val (.int p1), .val (.int p2), .val (.int p3), .val (.int p4), .val (.int p5), .val (.int p6), .val (.int (Int32.ofNat nn)), .val (.ref bS), .val (.ref bD), .val (.ref bP), .val (.ref bI), .val (.ref bJ), .unset, .unset, .unset] [(.int (Int32.ofNat g1)), (.int (2 : Int32)), (.ref bI)])) _
      refine XS.iconst X103.here hx rfl (hb hby at_290) ?_
      show Steps p.tables e below (T103.setTop (mkF m 291 #[.val (.int p1), .val (.int p2), .val (.int p3), .val (.int p4), .val (.int p5), .val (.int p6), .val (.int (Int32.ofNat nn)), .val (.ref bS), .val (.ref bD), .val (.ref bP), .val (.ref bI), .val (.ref bJ), .unset, .unset, .unset] [(.int (1 : Int32)), (.int (Int32.ofNat g1)), (.int (2 : Int32)), (.ref bI)])) _
      refine XS.iadd X103.here hx rfl (hb hby at_291) rfl ?_
      show Steps p.tables e below (T103.setTop (mkF m 292 #[.val (.int p1), .val (.int p2), .val (.int p3), .val (.int p4), .val (.int p5), .val (.int p6), .val (.int (Int32.ofNat nn)), .val (.ref bS), .val (.ref bD), .val (.ref bP), .val (.ref bI), .val (.ref bJ), .unset, .unset, .unset] [(.int ((Int32.ofNat g1) + (1 : Int32))), (.int (2 : Int32)), (.ref bI)])) _
      exact castTop (by rw [show (own_sel s2 (Int32.ofNat g1) ((Int32.ofNat g1) + (1 : Int32))) = ((Int32.ofNat g1) + (1 : Int32)) from by exact (if_pos hc276).trans (rfl)]) kT
    · show Steps p.tables e below (T103.setTop (mkF m 276 #[.val (.int p1), .val (.int p2), .val (.int p3), .val (.int p4), .val (.int p5), .val (.int p6), .val (.int (Int32.ofNat nn)), .val (.ref bS), .val (.ref bD), .val (.ref bP), .val (.ref bI), .val (.ref bJ), .unset, .unset, .unset] [(.int s2), (.int (2 : Int32)), (.ref bI)])) _
      refine XS.ifNo X103.here hx rfl (hb hby at_276) rfl ((if0 _ _).trans (feq hc276).1) ?_
      show Steps p.tables e below (T103.setTop (mkF m 279 #[.val (.int p1), .val (.int p2), .val (.int p3), .val (.int p4), .val (.int p5), .val (.int p6), .val (.int (Int32.ofNat nn)), .val (.ref bS), .val (.ref bD), .val (.ref bP), .val (.ref bI), .val (.ref bJ), .unset, .unset, .unset] [(.int (2 : Int32)), (.ref bI)])) _
      refine XS.aload X103.here hx rfl (hb hby at_279) rfl rfl ?_
      show Steps p.tables e below (T103.setTop (mkF m 281 #[.val (.int p1), .val (.int p2), .val (.int p3), .val (.int p4), .val (.int p5), .val (.int p6), .val (.int (Int32.ofNat nn)), .val (.ref bS), .val (.ref bD), .val (.ref bP), .val (.ref bI), .val (.ref bJ), .unset, .unset, .unset] [(.ref bI), (.int (2 : Int32)), (.ref bI)])) _
      refine XS.iconst X103.here hx rfl (hb hby at_281) ?_
      show Steps p.tables e below (T103.setTop (mkF m 282 #[.val (.int p1), .val (.int p2), .val (.int p3), .val (.int p4), .val (.int p5), .val (.int p6), .val (.int (Int32.ofNat nn)), .val (.ref bS), .val (.ref bD), .val (.ref bP), .val (.ref bI), .val (.ref bJ), .unset, .unset, .unset] [(.int (1 : Int32)), (.ref bI), (.int (2 : Int32)), (.ref bI)])) _
      refine X103.iaload hx (j := (1 : Int32)) (v := (.int (Int32.ofNat g1))) (by rw [e103]; exact Ao107.1) (State.isArrayOf_alike hZ.alike Ao107.2.1) Ao107.2.2 (own_ld So107 Ho107 (j := (1 : Int32)) (i := 1) (by decide) rfl (by decide) (v := (.int (Int32.ofNat g1))) rfl).1 (own_ld So107 Ho107 (j := (1 : Int32)) (i := 1) (by decide) rfl (by decide) (v := (.int (Int32.ofNat g1))) rfl).2 (g := (mkF m 282 #[.val (.int p1), .val (.int p2), .val (.int p3), .val (.int p4), .val (.int p5), .val (.int p6), .val (.int (Int32.ofNat nn)), .val (.ref bS), .val (.ref bD), .val (.ref bP), .val (.ref bI), .val (.ref bJ), .unset, .unset, .unset] [(.int (1 : Int32)), (.ref bI), (.int (2 : Int32)), (.ref bI)])) rfl rfl (hb hby at_282) _ ?_
      show Steps p.tables e below (T103.setTop (mkF m 283 #[.val (.int p1), .val (.int p2), .val (.int p3), .val (.int p4), .val (.int p5), .val (.int p6), .val (.int (Int32.ofNat nn)), .val (.ref bS), .val (.ref bD), .val (.ref bP), .val (.ref bI), .val (.ref bJ), .unset, .unset, .unset] [(.int (Int32.ofNat g1)), (.int (2 : Int32)), (.ref bI)])) _
      refine XS.goto X103.here hx rfl (pc0 := 283) (pc' := 292) rfl (hb hby at_283) (by decide) (by decide) ?_
      show Steps p.tables e below (T103.setTop (mkF m 292 #[.val (.int p1), .val (.int p2), .val (.int p3), .val (.int p4), .val (.int p5), .val (.int p6), .val (.int (Int32.ofNat nn)), .val (.ref bS), .val (.ref bD), .val (.ref bP), .val (.ref bI), .val (.ref bJ), .unset, .unset, .unset] [(.int (Int32.ofNat g1)), (.int (2 : Int32)), (.ref bI)])) _
      exact castTop (by rw [show (own_sel s2 (Int32.ofNat g1) ((Int32.ofNat g1) + (1 : Int32))) = (Int32.ofNat g1) from by exact (if_neg hc276).trans (rfl)]) kT)
  have pre109 : ∀ t, Steps p.tables e below (T103.setTop (mkF m 292 #[.val (.int p1), .val (.int p2), .val (.int p3), .val (.int p4), .val (.int p5), .val (.int p6), .val (.int (Int32.ofNat nn)), .val (.ref bS), .val (.ref bD), .val (.ref bP), .val (.ref bI), .val (.ref bJ), .unset, .unset, .unset] [(.int (own_sel s2 (Int32.ofNat g1) ((Int32.ofNat g1) + (1 : Int32)))), (.int (2 : Int32)), (.ref bI)])) t → Steps p.tables e below (s₁.setTop (entryFrame m #[(.int p1), (.int p2), (.int p3), (.int p4), (.int p5), (.int p6)] maxLocals)) t := fun t kT => pre108 t (by
    exact kT)
  obtain ⟨xg2, hxg2⟩ : ∃ z, z = (own_sel s2 (Int32.ofNat g1) ((Int32.ofNat g1) + (1 : Int32))) := ⟨_, rfl⟩
  rw [← hxg2] at pre109
  obtain ⟨g2, hg2, yg2⟩ : ∃ z : Nat, ((s2 = 1 ∧ z = g1) ∨ (s2 = 0 ∧ z = g1 + 1)) ∧ xg2 = Int32.ofNat z := by
    rcases zs2 with q | q
    · exact ⟨g1 + 1, Or.inr ⟨q, rfl⟩, hxg2.trans ((own_sel0 q).trans (own_one g1))⟩
    · exact ⟨g1, Or.inl ⟨q, rfl⟩, hxg2.trans (own_sel1 q)⟩
  subst yg2
  obtain ⟨co110, ⟨Ao110, Ko110⟩, So110, Ho110⟩ := id V_bI_e103
  have io110 := (own_ld So110 Ho110 (j := (2 : Int32)) (i := 2) (by decide) (show (2 : Int32).toNatClampNeg = 2 from rfl) (by decide) rfl).1
  have pre111 : ∀ t, Steps p.tables e below (T103.setTop (mkF m 292 #[.val (.int p1), .val (.int p2), .val (.int p3), .val (.int p4), .val (.int p5), .val (.int p6), .val (.int (Int32.ofNat nn)), .val (.ref bS), .val (.ref bD), .val (.ref bP), .val (.ref bI), .val (.ref bJ), .unset, .unset, .unset] [(.int (Int32.ofNat g2)), (.int (2 : Int32)), (.ref bI)])) t → Steps p.tables e below (s₁.setTop (entryFrame m #[(.int p1), (.int p2), (.int p3), (.int p4), (.int p5), (.int p6)] maxLocals)) t := fun t kT => pre109 t (by
    exact kT)
  obtain ⟨T112, h112, X112, e112, W112, st112⟩ := stI X103 hx hZ e103 Ao110 (j := (2 : Int32)) io110 (g := (mkF m 292 #[.val (.int p1), .val (.int p2), .val (.int p3), .val (.int p4), .val (.int p5), .val (.int p6), .val (.int (Int32.ofNat nn)), .val (.ref bS), .val (.ref bD), .val (.ref bP), .val (.ref bI), .val (.ref bJ), .unset, .unset, .unset] [(.int (Int32.ofNat g2)), (.int (2 : Int32)), (.ref bI)])) rfl rfl (hb hby at_292)
  rw [(show (2 : Int32).toNatClampNeg = 2 from rfl)] at W112
  have pre113 : ∀ t, Steps p.tables e below (T112.setTop (mkF m 293 #[.val (.int p1), .val (.int p2), .val (.int p3), .val (.int p4), .val (.int p5), .val (.int p6), .val (.int (Int32.ofNat nn)), .val (.ref bS), .val (.ref bD), .val (.ref bP), .val (.ref bI), .val (.ref bJ), .unset, .unset, .unset] [])) t → Steps p.tables e below (s₁.setTop (entryFrame m #[(.int p1), (.int p2), (.int p3), (.int p4), (.int p5), (.int p6)] maxLocals)) t := fun t kT => pre111 t (st112 t kT)
  have V_bS_e112 : own_Ar Z h112 bS .boolean 3 (own_upd (own_upd (own_upd (fun _ => (.int (0 : Int32))) 0 (.int (nar .boolean (0 : Int32)))) 1 (.int s1)) 2 (.int s2)) := V_bS_e103.other W112 ne_bS_bI
  have V_bD_e112 : own_Ar Z h112 bD .int 3 (own_upd (own_upd (own_upd (fun _ => (.int (0 : Int32))) 0 (.int dA)) 1 (.int dB)) 2 (.int dC)) := V_bD_e103.other W112 ne_bD_bI
  have V_bP_e112 : own_Ar Z h112 bP .int 3 (own_upd (own_upd (own_upd (fun _ => (.int (0 : Int32))) 0 (.int qA)) 1 (.int qB)) 2 (.int qC)) := V_bP_e103.other W112 ne_bP_bI
  have V_bJ_e112 : own_Ar Z h112 bJ .int 3 (own_upd (own_upd (fun _ => (.int (0 : Int32))) 0 (.int (0 : Int32))) 1 (.int (Int32.ofNat j1))) := V_bJ_e103.other W112 (Ne.symm ne_bI_bJ)
  have sz112 : n0 ≤ h112.size := Nat.le_trans sz103 (Keep.of_wr W112).1
  have V_bI_e112 : own_Ar Z h112 bI .int 3 (own_upd (own_upd (own_upd (fun _ => (.int (0 : Int32))) 0 (.int (0 : Int32))) 1 (.int (Int32.ofNat g1))) 2 (.int (Int32.ofNat g2))) := V_bI_e103.set W112
  have N112 := Fr.snoc X112 N103 g_bI
  have pre114 : ∀ t, Steps p.tables e below (T112.setTop (mkF m 293 #[.val (.int p1), .val (.int p2), .val (.int p3), .val (.int p4), .val (.int p5), .val (.int p6), .val (.int (Int32.ofNat nn)), .val (.ref bS), .val (.ref bD), .val (.ref bP), .val (.ref bI), .val (.ref bJ), .unset, .unset, .unset] [])) t → Steps p.tables e below (s₁.setTop (entryFrame m #[(.int p1), (.int p2), (.int p3), (.int p4), (.int p5), (.int p6)] maxLocals)) t := fun t kT => pre113 t (by
    exact kT)
  obtain ⟨co115, ⟨Ao115, Ko115⟩, So115, Ho115⟩ := id V_bS_e112
  obtain ⟨co116, ⟨Ao116, Ko116⟩, So116, Ho116⟩ := id V_bJ_e112
  have pre117 : ∀ t, Steps p.tables e below (T112.setTop (mkF m 313 #[.val (.int p1), .val (.int p2), .val (.int p3), .val (.int p4), .val (.int p5), .val (.int p6), .val (.int (Int32.ofNat nn)), .val (.ref bS), .val (.ref bD), .val (.ref bP), .val (.ref bI), .val (.ref bJ), .unset, .unset, .unset] [(.int (own_sel s2 ((Int32.ofNat j1) + (1 : Int32)) (0 : Int32))), (.int (2 : Int32)), (.ref bJ)])) t → Steps p.tables e below (s₁.setTop (entryFrame m #[(.int p1), (.int p2), (.int p3), (.int p4), (.int p5), (.int p6)] maxLocals)) t := fun t kT => pre114 t (by
    show Steps p.tables e below (T112.setTop (mkF m 293 #[.val (.int p1), .val (.int p2), .val (.int p3), .val (.int p4), .val (.int p5), .val (.int p6), .val (.int (Int32.ofNat nn)), .val (.ref bS), .val (.ref bD), .val (.ref bP), .val (.ref bI), .val (.ref bJ), .unset, .unset, .unset] [])) _
    refine XS.aload X112.here hx rfl (hb hby at_293) rfl rfl ?_
    show Steps p.tables e below (T112.setTop (mkF m 295 #[.val (.int p1), .val (.int p2), .val (.int p3), .val (.int p4), .val (.int p5), .val (.int p6), .val (.int (Int32.ofNat nn)), .val (.ref bS), .val (.ref bD), .val (.ref bP), .val (.ref bI), .val (.ref bJ), .unset, .unset, .unset] [(.ref bJ)])) _
    refine XS.iconst X112.here hx rfl (hb hby at_295) ?_
    show Steps p.tables e below (T112.setTop (mkF m 296 #[.val (.int p1), .val (.int p2), .val (.int p3), .val (.int p4), .val (.int p5), .val (.int p6), .val (.int (Int32.ofNat nn)), .val (.ref bS), .val (.ref bD), .val (.ref bP), .val (.ref bI), .val (.ref bJ), .unset, .unset, .unset] [(.int (2 : Int32)), (.ref bJ)])) _
    refine XS.aload X112.here hx rfl (hb hby at_296) rfl rfl ?_
    show Steps p.tables e below (T112.setTop (mkF m 298 #[.val (.int p1), .val (.int p2), .val (.int p3), .val (.int p4), .val (.int p5), .val (.int p6), .val (.int (Int32.ofNat nn)), .val (.ref bS), .val (.ref bD), .val (.ref bP), .val (.ref bI), .val (.ref bJ), .unset, .unset, .unset] [(.ref bS), (.int (2 : Int32)), (.ref bJ)])) _
    refine XS.iconst X112.here hx rfl (hb hby at_298) ?_
    show Steps p.tables e below (T112.setTop (mkF m 299 #[.val (.int p1), .val (.int p2), .val (.int p3), .val (.int p4), .val (.int p5), .val (.int p6), .val (.int (Int32.ofNat nn)), .val (.ref bS), .val (.ref bD), .val (.ref bP), .val (.ref bI), .val (.ref bJ), .unset, .unset, .unset] [(.int (2 : Int32)), (.ref bS), (.int (2 : Int32)), (.ref bJ)])) _
    refine X112.baloadBooleans hx (j := (2 : Int32)) (v := (.int s2)) (by rw [e112]; exact Ao115.1) (State.isArrayOf_alike hZ.alike Ao115.2.1) Ao115.2.2 (own_ld So115 Ho115 (j := (2 : Int32)) (i := 2) (by decide) rfl (by decide) (v := (.int s2)) rfl).1 (own_ld So115 Ho115 (j := (2 : Int32)) (i := 2) (by decide) rfl (by decide) (v := (.int s2)) rfl).2 (g := (mkF m 299 #[.val (.int p1), .val (.int p2), .val (.int p3), .val (.int p4), .val (.int p5), .val (.int p6), .val (.int (Int32.ofNat nn)), .val (.ref bS), .val (.ref bD), .val (.ref bP), .val (.ref bI), .val (.ref bJ), .unset, .unset, .unset] [(.int (2 : Int32)), (.ref bS), (.int (2 : Int32)), (.ref bJ)])) rfl rfl (hb hby at_299) _ ?_
    by_cases hc300 : s2 = (0 : Int32)
    · show Steps p.tables e below (T112.setTop (mkF m 300 #[.val (.int p1), .val (.int p2), .val (.int p3), .val (.int p4), .val (.int p5), .val (.int p6), .val (.int (Int32.ofNat nn)), .val (.ref bS), .val (.ref bD), .val (.ref bP), .val (.ref bI), .val (.ref bJ), .unset, .unset, .unset] [(.int s2), (.int (2 : Int32)), (.ref bJ)])) _
      refine XS.ifYes X112.here hx rfl (pc0 := 300) (pc' := 312) rfl (hb hby at_300) rfl ((if0 _ _).trans (teq hc300).1) (by decide) (by decide) ?_
      show Steps p.tables e below (T112.setTop (mkF m 312 #[.val (.int p1), .val (.int p2), .val (.int p3), .val (.int p4), .val (.int p5), .val (.int p6), .val (.int (Int32.ofNat nn)), .val (.ref bS), .val (.ref bD), .val (.ref bP), .val (.ref bI), .val (.ref bJ), .unset, .unset, .unset] [(.int (2 : Int32)), (.ref bJ)])) _
      refine XS.iconst X112.here hx rfl (hb hby at_312) ?_
      show Steps p.tables e below (T112.setTop (mkF m 313 #[.val (.int p1), .val (.int p2), .val (.int p3), .val (.int p4), .val (.int p5), .val (.int p6), .val (.int (Int32.ofNat nn)), .val (.ref bS), .val (.ref bD), .val (.ref bP), .val (.ref bI), .val (.ref bJ), .unset, .unset, .unset] [(.int (0 : Int32)), (.int (2 : Int32)), (.ref bJ)])) _
      exact castTop (by rw [show (own_sel s2 ((Int32.ofNat j1) + (1 : Int32)) (0 : Int32)) = (0 : Int32) from by exact (if_pos hc300).trans (rfl)]) kT
    · show Steps p.tables e below (T112.setTop (mkF m 300 #[.val (.int p1), .val (.int p2), .val (.int p3), .val (.int p4), .val (.int p5), .val (.int p6), .val (.int (Int32.ofNat nn)), .val (.ref bS), .val (.ref bD), .val (.ref bP), .val (.ref bI), .val (.ref bJ), .unset, .unset, .unset] [(.int s2), (.int (2 : Int32)), (.ref bJ)])) _
      refine XS.ifNo X112.here hx rfl (hb hby at_300) rfl ((if0 _ _).trans (feq hc300).1) ?_
      show Steps p.tables e below (T112.setTop (mkF m 303 #[.val (.int p1), .val (.int p2), .val (.int p3), .val (.int p4), .val (.int p5), .val (.int p6), .val (.int (Int32.ofNat nn)), .val (.ref bS), .val (.ref bD), .val (.ref bP), .val (.ref bI), .val (.ref bJ), .unset, .unset, .unset] [(.int (2 : Int32)), (.ref bJ)])) _
      refine XS.aload X112.here hx rfl (hb hby at_303) rfl rfl ?_
      show Steps p.tables e below (T112.setTop (mkF m 305 #[.val (.int p1), .val (.int p2), .val (.int p3), .val (.int p4), .val (.int p5), .val (.int p6), .val (.int (Int32.ofNat nn)), .val (.ref bS), .val (.ref bD), .val (.ref bP), .val (.ref bI), .val (.ref bJ), .unset, .unset, .unset] [(.ref bJ), (.int (2 : Int32)), (.ref bJ)])) _
      refine XS.iconst X112.here hx rfl (hb hby at_305) ?_
      show Steps p.tables e below (T112.setTop (mkF m 306 #[.val (.int p1), .val (.int p2), .val (.int p3), .val (.int p4), .val (.int p5), .val (.int p6), .val (.int (Int32.ofNat nn)), .val (.ref bS), .val (.ref bD), .val (.ref bP), .val (.ref bI), .val (.ref bJ), .unset, .unset, .unset] [(.int (1 : Int32)), (.ref bJ), (.int (2 : Int32)), (.ref bJ)])) _
      refine X112.iaload hx (j := (1 : Int32)) (v := (.int (Int32.ofNat j1))) (by rw [e112]; exact Ao116.1) (State.isArrayOf_alike hZ.alike Ao116.2.1) Ao116.2.2 (own_ld So116 Ho116 (j := (1 : Int32)) (i := 1) (by decide) rfl (by decide) (v := (.int (Int32.ofNat j1))) rfl).1 (own_ld So116 Ho116 (j := (1 : Int32)) (i := 1) (by decide) rfl (by decide) (v := (.int (Int32.ofNat j1))) rfl).2 (g := (mkF m 306 #[.val (.int p1), .val (.int p2), .val (.int p3), .val (.int p4), .val (.int p5), .val (.int p6), .val (.int (Int32.ofNat nn)), .val (.ref bS), .val (.ref bD), .val (.ref bP), .val (.ref bI), .val (.ref bJ), .unset, .unset, .unset] [(.int (1 : Int32)), (.ref bJ), (.int (2 : Int32)), (.ref bJ)])) rfl rfl (hb hby at_306) _ ?_
      show Steps p.tables e below (T112.setTop (mkF m 307 #[.val (.int p1), .val (.int p2), .val (.int p3), .val (.int p4), .val (.int p5), .val (.int p6), .val (.int (Int32.ofNat nn)), .val (.ref bS), .val (.ref bD), .val (.ref bP), .val (.ref bI), .val (.ref bJ), .unset, .unset, .unset] [(.int (Int32.ofNat j1)), (.int (2 : Int32)), (.ref bJ)])) _
      refine XS.iconst X112.here hx rfl (hb hby at_307) ?_
      show Steps p.tables e below (T112.setTop (mkF m 308 #[.val (.int p1), .val (.int p2), .val (.int p3), .val (.int p4), .val (.int p5), .val (.int p6), .val (.int (Int32.ofNat nn)), .val (.ref bS), .val (.ref bD), .val (.ref bP), .val (.ref bI), .val (.ref bJ), .unset, .unset, .unset] [(.int (1 : Int32)), (.int (Int32.ofNat j1)), (.int (2 : Int32)), (.ref bJ)])) _
      refine XS.iadd X112.here hx rfl (hb hby at_308) rfl ?_
      show Steps p.tables e below (T112.setTop (mkF m 309 #[.val (.int p1), .val (.int p2), .val (.int p3), .val (.int p4), .val (.int p5), .val (.int p6), .val (.int (Int32.ofNat nn)), .val (.ref bS), .val (.ref bD), .val (.ref bP), .val (.ref bI), .val (.ref bJ), .unset, .unset, .unset] [(.int ((Int32.ofNat j1) + (1 : Int32))), (.int (2 : Int32)), (.ref bJ)])) _
      refine XS.goto X112.here hx rfl (pc0 := 309) (pc' := 313) rfl (hb hby at_309) (by decide) (by decide) ?_
      show Steps p.tables e below (T112.setTop (mkF m 313 #[.val (.int p1), .val (.int p2), .val (.int p3), .val (.int p4), .val (.int p5), .val (.int p6), .val (.int (Int32.ofNat nn)), .val (.ref bS), .val (.ref bD), .val (.ref bP), .val (.ref bI), .val (.ref bJ), .unset, .unset, .unset] [(.int ((Int32.ofNat j1) + (1 : Int32))), (.int (2 : Int32)), (.ref bJ)])) _
      exact castTop (by rw [show (own_sel s2 ((Int32.ofNat j1) + (1 : Int32)) (0 : Int32)) = ((Int32.ofNat j1) + (1 : Int32)) from by exact (if_neg hc300).trans (rfl)]) kT)
  have pre118 : ∀ t, Steps p.tables e below (T112.setTop (mkF m 313 #[.val (.int p1), .val (.int p2), .val (.int p3), .val (.int p4), .val (.int p5), .val (.int p6), .val (.int (Int32.ofNat nn)), .val (.ref bS), .val (.ref bD), .val (.ref bP), .val (.ref bI), .val (.ref bJ), .unset, .unset, .unset] [(.int (own_sel s2 ((Int32.ofNat j1) + (1 : Int32)) (0 : Int32))), (.int (2 : Int32)), (.ref bJ)])) t → Steps p.tables e below (s₁.setTop (entryFrame m #[(.int p1), (.int p2), (.int p3), (.int p4), (.int p5), (.int p6)] maxLocals)) t := fun t kT => pre117 t (by
    exact kT)
  obtain ⟨xj2, hxj2⟩ : ∃ z, z = (own_sel s2 ((Int32.ofNat j1) + (1 : Int32)) (0 : Int32)) := ⟨_, rfl⟩
  rw [← hxj2] at pre118
  obtain ⟨j2, hj2, yj2⟩ : ∃ z : Nat, ((s2 = 1 ∧ z = j1 + 1) ∨ (s2 = 0 ∧ z = 0)) ∧ xj2 = Int32.ofNat z := by
    rcases zs2 with q | q
    · exact ⟨0, Or.inr ⟨q, rfl⟩, hxj2.trans (own_sel0 q)⟩
    · exact ⟨j1 + 1, Or.inl ⟨q, rfl⟩, hxj2.trans ((own_sel1 q).trans (own_one j1))⟩
  subst yj2
  obtain ⟨co119, ⟨Ao119, Ko119⟩, So119, Ho119⟩ := id V_bJ_e112
  have io119 := (own_ld So119 Ho119 (j := (2 : Int32)) (i := 2) (by decide) (show (2 : Int32).toNatClampNeg = 2 from rfl) (by decide) rfl).1
  have pre120 : ∀ t, Steps p.tables e below (T112.setTop (mkF m 313 #[.val (.int p1), .val (.int p2), .val (.int p3), .val (.int p4), .val (.int p5), .val (.int p6), .val (.int (Int32.ofNat nn)), .val (.ref bS), .val (.ref bD), .val (.ref bP), .val (.ref bI), .val (.ref bJ), .unset, .unset, .unset] [(.int (Int32.ofNat j2)), (.int (2 : Int32)), (.ref bJ)])) t → Steps p.tables e below (s₁.setTop (entryFrame m #[(.int p1), (.int p2), (.int p3), (.int p4), (.int p5), (.int p6)] maxLocals)) t := fun t kT => pre118 t (by
    exact kT)
  obtain ⟨T121, h121, X121, e121, W121, st121⟩ := stI X112 hx hZ e112 Ao119 (j := (2 : Int32)) io119 (g := (mkF m 313 #[.val (.int p1), .val (.int p2), .val (.int p3), .val (.int p4), .val (.int p5), .val (.int p6), .val (.int (Int32.ofNat nn)), .val (.ref bS), .val (.ref bD), .val (.ref bP), .val (.ref bI), .val (.ref bJ), .unset, .unset, .unset] [(.int (Int32.ofNat j2)), (.int (2 : Int32)), (.ref bJ)])) rfl rfl (hb hby at_313)
  rw [(show (2 : Int32).toNatClampNeg = 2 from rfl)] at W121
  have pre122 : ∀ t, Steps p.tables e below (T121.setTop (mkF m 314 #[.val (.int p1), .val (.int p2), .val (.int p3), .val (.int p4), .val (.int p5), .val (.int p6), .val (.int (Int32.ofNat nn)), .val (.ref bS), .val (.ref bD), .val (.ref bP), .val (.ref bI), .val (.ref bJ), .unset, .unset, .unset] [])) t → Steps p.tables e below (s₁.setTop (entryFrame m #[(.int p1), (.int p2), (.int p3), (.int p4), (.int p5), (.int p6)] maxLocals)) t := fun t kT => pre120 t (st121 t kT)
  have V_bS_e121 : own_Ar Z h121 bS .boolean 3 (own_upd (own_upd (own_upd (fun _ => (.int (0 : Int32))) 0 (.int (nar .boolean (0 : Int32)))) 1 (.int s1)) 2 (.int s2)) := V_bS_e112.other W121 ne_bS_bJ
  have V_bD_e121 : own_Ar Z h121 bD .int 3 (own_upd (own_upd (own_upd (fun _ => (.int (0 : Int32))) 0 (.int dA)) 1 (.int dB)) 2 (.int dC)) := V_bD_e112.other W121 ne_bD_bJ
  have V_bP_e121 : own_Ar Z h121 bP .int 3 (own_upd (own_upd (own_upd (fun _ => (.int (0 : Int32))) 0 (.int qA)) 1 (.int qB)) 2 (.int qC)) := V_bP_e112.other W121 ne_bP_bJ
  have V_bI_e121 : own_Ar Z h121 bI .int 3 (own_upd (own_upd (own_upd (fun _ => (.int (0 : Int32))) 0 (.int (0 : Int32))) 1 (.int (Int32.ofNat g1))) 2 (.int (Int32.ofNat g2))) := V_bI_e112.other W121 ne_bI_bJ
  have sz121 : n0 ≤ h121.size := Nat.le_trans sz112 (Keep.of_wr W121).1
  have V_bJ_e121 : own_Ar Z h121 bJ .int 3 (own_upd (own_upd (own_upd (fun _ => (.int (0 : Int32))) 0 (.int (0 : Int32))) 1 (.int (Int32.ofNat j1))) 2 (.int (Int32.ofNat j2))) := V_bJ_e112.set W121
  have N121 := Fr.snoc X121 N112 g_bJ
  have fdC := own_next dB qB ((p4.toUInt32 >>> ((4 : Int32) &&& 31).toUInt32).toInt32) ((p5.toUInt32 >>> ((4 : Int32) &&& 31).toUInt32).toInt32) ((p6.toUInt32 >>> ((1 : Int32) &&& 31).toUInt32).toInt32) s2 dC qC hdC hqC zs2 fdB.2.2.2.1 (by omega) fdB.2.2.2.2.2.1 (by omega)
  have pre123 : ∀ t, Steps p.tables e below (T121.setTop (mkF m 314 #[.val (.int p1), .val (.int p2), .val (.int p3), .val (.int p4), .val (.int p5), .val (.int p6), .val (.int (Int32.ofNat nn)), .val (.ref bS), .val (.ref bD), .val (.ref bP), .val (.ref bI), .val (.ref bJ), .unset, .unset, .unset] [])) t → Steps p.tables e below (s₁.setTop (entryFrame m #[(.int p1), (.int p2), (.int p3), (.int p4), (.int p5), (.int p6)] maxLocals)) t := fun t kT => pre122 t (by
    exact kT)
  obtain ⟨nB, hnB⟩ : ∃ z, z = h121.size := ⟨_, rfl⟩
  have hn0B : n0 ≤ nB := by rw [hnB]; exact sz121
  have szB : nB ≤ h121.size := Nat.le_of_eq hnB
  have lt_bS : bS < nB := by rw [hnB]; exact V_bS_e121.lt
  have lt_bD : bD < nB := by rw [hnB]; exact V_bD_e121.lt
  have lt_bP : bP < nB := by rw [hnB]; exact V_bP_e121.lt
  have lt_bI : bI < nB := by rw [hnB]; exact V_bI_e121.lt
  have lt_bJ : bJ < nB := by rw [hnB]; exact V_bJ_e121.lt
  have pre124 : ∀ t, Steps p.tables e below (T121.setTop (mkF m 314 #[.val (.int p1), .val (.int p2), .val (.int p3), .val (.int p4), .val (.int p5), .val (.int p6), .val (.int (Int32.ofNat nn)), .val (.ref bS), .val (.ref bD), .val (.ref bP), .val (.ref bI), .val (.ref bJ), .unset, .unset, .unset] [])) t → Steps p.tables e below (s₁.setTop (entryFrame m #[(.int p1), (.int p2), (.int p3), (.int p4), (.int p5), (.int p6)] maxLocals)) t := fun t kT => pre123 t (by
    exact kT)
  obtain ⟨T125, h125, X125, e125, E125, A125, D125, -, st125⟩ := newO X121 hx hZ hown (hw _ (List.mem_of_getElem? (i := 5) rfl)) (hw _ (List.mem_of_getElem? (i := 6) rfl)) (hw _ (List.mem_of_getElem? (i := 7) rfl)) e121 (g := (mkF m 314 #[.val (.int p1), .val (.int p2), .val (.int p3), .val (.int p4), .val (.int p5), .val (.int p6), .val (.int (Int32.ofNat nn)), .val (.ref bS), .val (.ref bD), .val (.ref bP), .val (.ref bI), .val (.ref bJ), .unset, .unset, .unset] [])) rfl (hb hby at_314) (by decide) (by decide)
  obtain ⟨b1, g125⟩ : ∃ z, z = h121.size := ⟨_, rfl⟩
  rw [← g125] at A125 D125 st125
  have pre126 : ∀ t, Steps p.tables e below (T125.setTop (mkF m 317 #[.val (.int p1), .val (.int p2), .val (.int p3), .val (.int p4), .val (.int p5), .val (.int p6), .val (.int (Int32.ofNat nn)), .val (.ref bS), .val (.ref bD), .val (.ref bP), .val (.ref bI), .val (.ref bJ), .unset, .unset, .unset] [(.ref b1)])) t → Steps p.tables e below (s₁.setTop (entryFrame m #[(.int p1), (.int p2), (.int p3), (.int p4), (.int p5), (.int p6)] maxLocals)) t := fun t kT => pre124 t (st125 t kT)
  have ne_bS_b1 : bS ≠ b1 := Nat.ne_of_lt (Nat.lt_of_lt_of_le V_bS_e121.lt (Nat.le_of_eq g125.symm))
  have ne_bD_b1 : bD ≠ b1 := Nat.ne_of_lt (Nat.lt_of_lt_of_le V_bD_e121.lt (Nat.le_of_eq g125.symm))
  have ne_bP_b1 : bP ≠ b1 := Nat.ne_of_lt (Nat.lt_of_lt_of_le V_bP_e121.lt (Nat.le_of_eq g125.symm))
  have ne_bI_b1 : bI ≠ b1 := Nat.ne_of_lt (Nat.lt_of_lt_of_le V_bI_e121.lt (Nat.le_of_eq g125.symm))
  have ne_bJ_b1 : bJ ≠ b1 := Nat.ne_of_lt (Nat.lt_of_lt_of_le V_bJ_e121.lt (Nat.le_of_eq g125.symm))
  have g_b1 : nB ≤ b1 := Nat.le_trans szB (Nat.le_of_eq g125.symm)
  have V_bS_e125 : own_Ar Z h125 bS .boolean 3 (own_upd (own_upd (own_upd (fun _ => (.int (0 : Int32))) 0 (.int (nar .boolean (0 : Int32)))) 1 (.int s1)) 2 (.int s2)) := V_bS_e121.ext E125
  have V_bD_e125 : own_Ar Z h125 bD .int 3 (own_upd (own_upd (own_upd (fun _ => (.int (0 : Int32))) 0 (.int dA)) 1 (.int dB)) 2 (.int dC)) := V_bD_e121.ext E125
  have V_bP_e125 : own_Ar Z h125 bP .int 3 (own_upd (own_upd (own_upd (fun _ => (.int (0 : Int32))) 0 (.int qA)) 1 (.int qB)) 2 (.int qC)) := V_bP_e121.ext E125
  have V_bI_e125 : own_Ar Z h125 bI .int 3 (own_upd (own_upd (own_upd (fun _ => (.int (0 : Int32))) 0 (.int (0 : Int32))) 1 (.int (Int32.ofNat g1))) 2 (.int (Int32.ofNat g2))) := V_bI_e121.ext E125
  have V_bJ_e125 : own_Ar Z h125 bJ .int 3 (own_upd (own_upd (own_upd (fun _ => (.int (0 : Int32))) 0 (.int (0 : Int32))) 1 (.int (Int32.ofNat j1))) 2 (.int (Int32.ofNat j2))) := V_bJ_e121.ext E125
  have sz125 : nB ≤ h125.size := Nat.le_trans szB E125.1
  have F_b1_docs : Fld Z h125 b1 "com/example/esteem/esteem/index/Postings$Builder" "docs" "[I" .null := D125 (Or.inl (hw _ (List.mem_of_getElem? (i := 15) rfl))) (ty := (.array .int)) (by decide)
  have F_b1_starts : Fld Z h125 b1 "com/example/esteem/esteem/index/Postings$Builder" "starts" "[I" .null := D125 (Or.inl (hw _ (List.mem_of_getElem? (i := 17) rfl))) (ty := (.array .int)) (by decide)
  have F_b1_positions : Fld Z h125 b1 "com/example/esteem/esteem/index/Postings$Builder" "positions" "[I" .null := D125 (Or.inl (hw _ (List.mem_of_getElem? (i := 19) rfl))) (ty := (.array .int)) (by decide)
  have F_b1_docCount : Fld Z h125 b1 "com/example/esteem/esteem/index/Postings$Builder" "docCount" "I" (.int (0 : Int32)) := D125 (Or.inl (hw _ (List.mem_of_getElem? (i := 29) rfl))) (ty := .int) (by decide)
  have F_b1_positionCount : Fld Z h125 b1 "com/example/esteem/esteem/index/Postings$Builder" "positionCount" "I" (.int (0 : Int32)) := D125 (Or.inl (hw _ (List.mem_of_getElem? (i := 43) rfl))) (ty := .int) (by decide)
  have pre127 : ∀ t, Steps p.tables e below (T125.setTop (mkF m 318 #[.val (.int p1), .val (.int p2), .val (.int p3), .val (.int p4), .val (.int p5), .val (.int p6), .val (.int (Int32.ofNat nn)), .val (.ref bS), .val (.ref bD), .val (.ref bP), .val (.ref bI), .val (.ref bJ), .unset, .unset, .unset] [(.ref b1), (.ref b1)])) t → Steps p.tables e below (s₁.setTop (entryFrame m #[(.int p1), (.int p2), (.int p3), (.int p4), (.int p5), (.int p6)] maxLocals)) t := fun t kT => pre126 t (by
    show Steps p.tables e below (T125.setTop (mkF m 317 #[.val (.int p1), .val (.int p2), .val (.int p3), .val (.int p4), .val (.int p5), .val (.int p6), .val (.int (Int32.ofNat nn)), .val (.ref bS), .val (.ref bD), .val (.ref bP), .val (.ref bI), .val (.ref bJ), .unset, .unset, .unset] [(.ref b1)])) _
    refine XS.dup X125.here hx rfl (hb hby at_317) rfl rfl ?_
    exact kT)
  obtain ⟨_, _, ⟨T128, L128, k128, n128⟩, -, X128, ⟨Lc128, hQ128, l128, y128, z128⟩, st128⟩ := X125.specialBack hx (y := (⟨"com/example/esteem/esteem/index/Postings$Builder", "<init>", "()V"⟩ : MethodName)) rfl hown (mvT hZ (hw _ (List.mem_of_getElem? (i := 8) rfl))) (mvT hZ (hw _ (List.mem_of_getElem? (i := 9) rfl))) (mvT hZ (hw _ (List.mem_of_getElem? (i := 10) rfl))) (by decide) (backOf (W := 1) (rmBI l Z a0 hw [] b1 h125 nB sz125 F_b1_docs F_b1_starts F_b1_positions F_b1_docCount F_b1_positionCount A125 g_b1) hZ (hw _ (List.mem_of_getElem? (i := 10) rfl)) (hw _ (List.mem_of_getElem? (i := 7) rfl)) (by decide) (by decide)) (g := (mkF m 318 #[.val (.int p1), .val (.int p2), .val (.int p3), .val (.int p4), .val (.int p5), .val (.int p6), .val (.int (Int32.ofNat nn)), .val (.ref bS), .val (.ref bD), .val (.ref bP), .val (.ref bI), .val (.ref bJ), .unset, .unset, .unset] [(.ref b1), (.ref b1)])) rfl (by rw [hml]; rfl) (Steps.refl _) (a := b1) (argsL := []) (rest := [(.ref b1)]) (lenOf pd___V rfl) rfl (by show 2 * 0 + _ ≤ _; exact Nat.le_of_eq rfl) (hb hby at_318) (fun _ _ => ⟨rfl, e125, (by decide : 0 + 1 + 1 + 1 + 1 + 1 + 1 + 3 ≤ _), (by decide : 0 + 3 + 3 + 3 + 3 + 3 + 5 + 4 ≤ _)⟩)
  dsimp only [Pt.U, Pt.locs, Pt.cells, Pt.slots] at X128 l128 y128 z128 st128 hQ128
  have X128 := own_st X128 (y128.trans (show _ = 9 from rfl)) (z128.trans (show _ = 24 from rfl))
  obtain ⟨rfl, N128q, ky0, dd0, ds0, dp0, B0⟩ := hQ128
  have N128 := own_fr l128 N121 (own_frm hn0B N128q)
  have pre129 : ∀ t, Steps p.tables e below (T128.setTop (mkF m 321 #[.val (.int p1), .val (.int p2), .val (.int p3), .val (.int p4), .val (.int p5), .val (.int p6), .val (.int (Int32.ofNat nn)), .val (.ref bS), .val (.ref bD), .val (.ref bP), .val (.ref bI), .val (.ref bJ), .unset, .unset, .unset] [(.ref b1)])) t → Steps p.tables e below (s₁.setTop (entryFrame m #[(.int p1), (.int p2), (.int p3), (.int p4), (.int p5), (.int p6)] maxLocals)) t := fun t kT => pre127 t (st128.trans kT)
  have V_bS_e128 : own_Ar Z T128.heap bS .boolean 3 (own_upd (own_upd (own_upd (fun _ => (.int (0 : Int32))) 0 (.int (nar .boolean (0 : Int32)))) 1 (.int s1)) 2 (.int s2)) := V_bS_e125.keep ky0 (ninS ne_bS_b1 nin0)
  have V_bD_e128 : own_Ar Z T128.heap bD .int 3 (own_upd (own_upd (own_upd (fun _ => (.int (0 : Int32))) 0 (.int dA)) 1 (.int dB)) 2 (.int dC)) := V_bD_e125.keep ky0 (ninS ne_bD_b1 nin0)
  have V_bP_e128 : own_Ar Z T128.heap bP .int 3 (own_upd (own_upd (own_upd (fun _ => (.int (0 : Int32))) 0 (.int qA)) 1 (.int qB)) 2 (.int qC)) := V_bP_e125.keep ky0 (ninS ne_bP_b1 nin0)
  have V_bI_e128 : own_Ar Z T128.heap bI .int 3 (own_upd (own_upd (own_upd (fun _ => (.int (0 : Int32))) 0 (.int (0 : Int32))) 1 (.int (Int32.ofNat g1))) 2 (.int (Int32.ofNat g2))) := V_bI_e125.keep ky0 (ninS ne_bI_b1 nin0)
  have V_bJ_e128 : own_Ar Z T128.heap bJ .int 3 (own_upd (own_upd (own_upd (fun _ => (.int (0 : Int32))) 0 (.int (0 : Int32))) 1 (.int (Int32.ofNat j1))) 2 (.int (Int32.ofNat j2))) := V_bJ_e125.keep ky0 (ninS ne_bJ_b1 nin0)
  have A125_e128 : Exa Z T128.heap b1 "com/example/esteem/esteem/index/Postings$Builder" := A125.keep ky0
  have sz128 : nB ≤ T128.heap.size := Nat.le_trans sz125 ky0.1
  have pre130 : ∀ t, Steps p.tables e below (T128.setTop (mkF m 325 #[.val (.int p1), .val (.int p2), .val (.int p3), .val (.int p4), .val (.int p5), .val (.int p6), .val (.int (Int32.ofNat nn)), .val (.ref bS), .val (.ref bD), .val (.ref bP), .val (.ref bI), .val (.ref bJ), .val (.ref b1), .unset, .unset] [(.int (Int32.ofNat nn))])) t → Steps p.tables e below (s₁.setTop (entryFrame m #[(.int p1), (.int p2), (.int p3), (.int p4), (.int p5), (.int p6)] maxLocals)) t := fun t kT => pre129 t (by
    show Steps p.tables e below (T128.setTop (mkF m 321 #[.val (.int p1), .val (.int p2), .val (.int p3), .val (.int p4), .val (.int p5), .val (.int p6), .val (.int (Int32.ofNat nn)), .val (.ref bS), .val (.ref bD), .val (.ref bP), .val (.ref bI), .val (.ref bJ), .unset, .unset, .unset] [(.ref b1)])) _
    refine XS.astore X128.here hx rfl (hb hby at_321) rfl rfl (l' := #[.val (.int p1), .val (.int p2), .val (.int p3), .val (.int p4), .val (.int p5), .val (.int p6), .val (.int (Int32.ofNat nn)), .val (.ref bS), .val (.ref bD), .val (.ref bP), .val (.ref bI), .val (.ref bJ), .val (.ref b1), .unset, .unset]) rfl ?_
    show Steps p.tables e below (T128.setTop (mkF m 323 #[.val (.int p1), .val (.int p2), .val (.int p3), .val (.int p4), .val (.int p5), .val (.int p6), .val (.int (Int32.ofNat nn)), .val (.ref bS), .val (.ref bD), .val (.ref bP), .val (.ref bI), .val (.ref bJ), .val (.ref b1), .unset, .unset] [])) _
    refine XS.iload X128.here hx rfl (hb hby at_323) rfl ?_
    exact kT)
  rcases hnn with rfl | rfl | rfl | rfl
  · have pre131 : ∀ t, Steps p.tables e below (T128.setTop (mkF m 381 #[.val (.int p1), .val (.int p2), .val (.int p3), .val (.int p4), .val (.int p5), .val (.int p6), .val (.int (0 : Int32)), .val (.ref bS), .val (.ref bD), .val (.ref bP), .val (.ref bI), .val (.ref bJ), .val (.ref b1), .unset, .unset] [(.ref b1)])) t → Steps p.tables e below (s₁.setTop (entryFrame m #[(.int p1), (.int p2), (.int p3), (.int p4), (.int p5), (.int p6)] maxLocals)) t := fun t kT => pre130 t (by
      show Steps p.tables e below (T128.setTop (mkF m 325 #[.val (.int p1), .val (.int p2), .val (.int p3), .val (.int p4), .val (.int p5), .val (.int p6), .val (.int (0 : Int32)), .val (.ref bS), .val (.ref bD), .val (.ref bP), .val (.ref bI), .val (.ref bJ), .val (.ref b1), .unset, .unset] [(.int (0 : Int32))])) _
      refine XS.ifYes X128.here hx rfl (pc0 := 325) (pc' := 341) rfl (hb hby at_325) rfl ((if0 _ _).trans (flt (by decide : ¬ ((0 : Int32) < (0 : Int32)))).2.2.2) (by decide) (by decide) ?_
      show Steps p.tables e below (T128.setTop (mkF m 341 #[.val (.int p1), .val (.int p2), .val (.int p3), .val (.int p4), .val (.int p5), .val (.int p6), .val (.int (0 : Int32)), .val (.ref bS), .val (.ref bD), .val (.ref bP), .val (.ref bI), .val (.ref bJ), .val (.ref b1), .unset, .unset] [])) _
      refine XS.iload X128.here hx rfl (hb hby at_341) rfl ?_
      show Steps p.tables e below (T128.setTop (mkF m 343 #[.val (.int p1), .val (.int p2), .val (.int p3), .val (.int p4), .val (.int p5), .val (.int p6), .val (.int (0 : Int32)), .val (.ref bS), .val (.ref bD), .val (.ref bP), .val (.ref bI), .val (.ref bJ), .val (.ref b1), .unset, .unset] [(.int (0 : Int32))])) _
      refine XS.iconst X128.here hx rfl (hb hby at_343) ?_
      show Steps p.tables e below (T128.setTop (mkF m 344 #[.val (.int p1), .val (.int p2), .val (.int p3), .val (.int p4), .val (.int p5), .val (.int p6), .val (.int (0 : Int32)), .val (.ref bS), .val (.ref bD), .val (.ref bP), .val (.ref bI), .val (.ref bJ), .val (.ref b1), .unset, .unset] [(.int (1 : Int32)), (.int (0 : Int32))])) _
      refine XS.icmpYes X128.here hx rfl (pc0 := 344) (pc' := 360) rfl (hb hby at_344) rfl (flt (by decide : ¬ ((1 : Int32) < (0 : Int32)))).2.2.2 (by decide) (by decide) ?_
      show Steps p.tables e below (T128.setTop (mkF m 360 #[.val (.int p1), .val (.int p2), .val (.int p3), .val (.int p4), .val (.int p5), .val (.int p6), .val (.int (0 : Int32)), .val (.ref bS), .val (.ref bD), .val (.ref bP), .val (.ref bI), .val (.ref bJ), .val (.ref b1), .unset, .unset] [])) _
      refine XS.iload X128.here hx rfl (hb hby at_360) rfl ?_
      show Steps p.tables e below (T128.setTop (mkF m 362 #[.val (.int p1), .val (.int p2), .val (.int p3), .val (.int p4), .val (.int p5), .val (.int p6), .val (.int (0 : Int32)), .val (.ref bS), .val (.ref bD), .val (.ref bP), .val (.ref bI), .val (.ref bJ), .val (.ref b1), .unset, .unset] [(.int (0 : Int32))])) _
      refine XS.iconst X128.here hx rfl (hb hby at_362) ?_
      show Steps p.tables e below (T128.setTop (mkF m 363 #[.val (.int p1), .val (.int p2), .val (.int p3), .val (.int p4), .val (.int p5), .val (.int p6), .val (.int (0 : Int32)), .val (.ref bS), .val (.ref bD), .val (.ref bP), .val (.ref bI), .val (.ref bJ), .val (.ref b1), .unset, .unset] [(.int (2 : Int32)), (.int (0 : Int32))])) _
      refine XS.icmpYes X128.here hx rfl (pc0 := 363) (pc' := 379) rfl (hb hby at_363) rfl (flt (by decide : ¬ ((2 : Int32) < (0 : Int32)))).2.2.2 (by decide) (by decide) ?_
      show Steps p.tables e below (T128.setTop (mkF m 379 #[.val (.int p1), .val (.int p2), .val (.int p3), .val (.int p4), .val (.int p5), .val (.int p6), .val (.int (0 : Int32)), .val (.ref bS), .val (.ref bD), .val (.ref bP), .val (.ref bI), .val (.ref bJ), .val (.ref b1), .unset, .unset] [])) _
      refine XS.aload X128.here hx rfl (hb hby at_379) rfl rfl ?_
      exact kT)
    obtain ⟨cI132, kI132, q132a, q132b, q132c⟩ := isOf hZ rfl B0.1.2.2.2.2.2
    have pre133 : ∀ t, Steps p.tables e below (T128.setTop (mkF m 381 #[.val (.int p1), .val (.int p2), .val (.int p3), .val (.int p4), .val (.int p5), .val (.int p6), .val (.int (0 : Int32)), .val (.ref bS), .val (.ref bD), .val (.ref bP), .val (.ref bI), .val (.ref bJ), .val (.ref b1), .unset, .unset] [(.ref b1)])) t → Steps p.tables e below (s₁.setTop (entryFrame m #[(.int p1), (.int p2), (.int p3), (.int p4), (.int p5), (.int p6)] maxLocals)) t := fun t kT => pre131 t (by
      exact kT)
    obtain ⟨_, _, ⟨T134, L134, k134, n134⟩, -, X134, ⟨Lc134, hQ134, l134, y134, z134⟩, st134⟩ := X128.virtualBack hx (y := (⟨"com/example/esteem/esteem/index/Postings$Builder", "build", "()Lcom/example/esteem/esteem/index/Postings;"⟩ : MethodName)) (z := (⟨"com/example/esteem/esteem/index/Postings$Builder", "build", "()Lcom/example/esteem/esteem/index/Postings;"⟩ : MethodName)) hown (mvT hZ (hw _ (List.mem_of_getElem? (i := 20) rfl))) (mvT hZ (hw _ (List.mem_of_getElem? (i := 21) rfl))) (notFace_of_selects (args := #[]) (mvT hZ (hw _ (List.mem_of_getElem? (i := 23) rfl)))) (mvT hZ (hw _ (List.mem_of_getElem? (i := 23) rfl))) (mvT hZ (hw _ (List.mem_of_getElem? (i := 22) rfl))) (by decide) (backOf (W := 0) (rmBU l Z a0 hw [] b1 dd0 ds0 dp0 1 2 1 0 0 (fun _ => (0 : Int32)) (fun _ => (0 : Int32)) (fun _ => (0 : Int32)) T128.heap nB sz128 B0 (by decide) (by decide)) hZ (hw _ (List.mem_of_getElem? (i := 24) rfl)) (hw _ (List.mem_of_getElem? (i := 7) rfl)) (by decide) (by decide)) q132a q132c (g := (mkF m 381 #[.val (.int p1), .val (.int p2), .val (.int p3), .val (.int p4), .val (.int p5), .val (.int p6), .val (.int (0 : Int32)), .val (.ref bS), .val (.ref bD), .val (.ref bP), .val (.ref bI), .val (.ref bJ), .val (.ref b1), .unset, .unset] [(.ref b1)])) rfl (by rw [hml]; rfl) (Steps.refl _) (argsL := []) (rest := []) (lenOf pd___Lcom_example_esteem_esteem_index_Postings_ rfl) rfl (by show 2 * 0 + _ ≤ _; exact Nat.le_of_eq rfl) (hb hby at_381) (fun _ _ => ⟨rfl, rfl, (by decide : 9 + 4 ≤ _), (by decide : 24 + 13 ≤ _)⟩)
    dsimp only [Pt.U, Pt.locs, Pt.cells, Pt.slots] at X134 l134 y134 z134 st134 hQ134
    have X134 := own_st X134 (y134.trans (show _ = 13 from rfl)) (z134.trans (show _ = 37 from rfl))
    obtain ⟨r1, xd, xs, xp, rfl, N134q, kyB, BP⟩ := hQ134
    have N134 := own_fr l134 N128 (own_frm hn0B N134q)
    have pre135 : ∀ t, Steps p.tables e below (T134.setTop (mkF m 384 #[.val (.int p1), .val (.int p2), .val (.int p3), .val (.int p4), .val (.int p5), .val (.int p6), .val (.int (0 : Int32)), .val (.ref bS), .val (.ref bD), .val (.ref bP), .val (.ref bI), .val (.ref bJ), .val (.ref b1), .unset, .unset] [(.ref r1)])) t → Steps p.tables e below (s₁.setTop (entryFrame m #[(.int p1), (.int p2), (.int p3), (.int p4), (.int p5), (.int p6)] maxLocals)) t := fun t kT => pre133 t (st134.trans kT)
    have V_bS_e134 : own_Ar Z T134.heap bS .boolean 3 (own_upd (own_upd (own_upd (fun _ => (.int (0 : Int32))) 0 (.int (nar .boolean (0 : Int32)))) 1 (.int s1)) 2 (.int s2)) := V_bS_e128.keep kyB nin0
    have V_bD_e134 : own_Ar Z T134.heap bD .int 3 (own_upd (own_upd (own_upd (fun _ => (.int (0 : Int32))) 0 (.int dA)) 1 (.int dB)) 2 (.int dC)) := V_bD_e128.keep kyB nin0
    have V_bP_e134 : own_Ar Z T134.heap bP .int 3 (own_upd (own_upd (own_upd (fun _ => (.int (0 : Int32))) 0 (.int qA)) 1 (.int qB)) 2 (.int qC)) := V_bP_e128.keep kyB nin0
    have V_bI_e134 : own_Ar Z T134.heap bI .int 3 (own_upd (own_upd (own_upd (fun _ => (.int (0 : Int32))) 0 (.int (0 : Int32))) 1 (.int (Int32.ofNat g1))) 2 (.int (Int32.ofNat g2))) := V_bI_e128.keep kyB nin0
    have V_bJ_e134 : own_Ar Z T134.heap bJ .int 3 (own_upd (own_upd (own_upd (fun _ => (.int (0 : Int32))) 0 (.int (0 : Int32))) 1 (.int (Int32.ofNat j1))) 2 (.int (Int32.ofNat j2))) := V_bJ_e128.keep kyB nin0
    have sz134 : nB ≤ T134.heap.size := Nat.le_trans sz128 kyB.1
    have pre136 : ∀ t, Steps p.tables e below (T134.setTop (mkF m 384 #[.val (.int p1), .val (.int p2), .val (.int p3), .val (.int p4), .val (.int p5), .val (.int p6), .val (.int (0 : Int32)), .val (.ref bS), .val (.ref bD), .val (.ref bP), .val (.ref bI), .val (.ref bJ), .val (.ref b1), .unset, .unset] [(.ref r1)])) t → Steps p.tables e below (s₁.setTop (entryFrame m #[(.int p1), (.int p2), (.int p3), (.int p4), (.int p5), (.int p6)] maxLocals)) t := fun t kT => pre135 t (by
      exact kT)
    obtain ⟨co137, ⟨Ao137, Ko137⟩, So137, Ho137⟩ := id V_bS_e134
    obtain ⟨co138, ⟨Ao138, Ko138⟩, So138, Ho138⟩ := id V_bD_e134
    obtain ⟨co139, ⟨Ao139, Ko139⟩, So139, Ho139⟩ := id V_bP_e134
    obtain ⟨co140, ⟨Ao140, Ko140⟩, So140, Ho140⟩ := id V_bI_e134
    obtain ⟨co141, ⟨Ao141, Ko141⟩, So141, Ho141⟩ := id V_bJ_e134
    have pre142 : ∀ t, Steps p.tables e below (T134.setTop (mkF m 408 #[.val (.int p1), .val (.int p2), .val (.int p3), .val (.int p4), .val (.int p5), .val (.int p6), .val (.int (0 : Int32)), .val (.ref bS), .val (.ref bD), .val (.ref bP), .val (.ref bI), .val (.ref bJ), .val (.ref b1), .val (.ref r1), .val (.int (0 : Int32))] [(.ref r1)])) t → Steps p.tables e below (s₁.setTop (entryFrame m #[(.int p1), (.int p2), (.int p3), (.int p4), (.int p5), (.int p6)] maxLocals)) t := fun t kT => pre136 t (by
      show Steps p.tables e below (T134.setTop (mkF m 384 #[.val (.int p1), .val (.int p2), .val (.int p3), .val (.int p4), .val (.int p5), .val (.int p6), .val (.int (0 : Int32)), .val (.ref bS), .val (.ref bD), .val (.ref bP), .val (.ref bI), .val (.ref bJ), .val (.ref b1), .unset, .unset] [(.ref r1)])) _
      refine XS.astore X134.here hx rfl (hb hby at_384) rfl rfl (l' := #[.val (.int p1), .val (.int p2), .val (.int p3), .val (.int p4), .val (.int p5), .val (.int p6), .val (.int (0 : Int32)), .val (.ref bS), .val (.ref bD), .val (.ref bP), .val (.ref bI), .val (.ref bJ), .val (.ref b1), .val (.ref r1), .unset]) rfl ?_
      show Steps p.tables e below (T134.setTop (mkF m 386 #[.val (.int p1), .val (.int p2), .val (.int p3), .val (.int p4), .val (.int p5), .val (.int p6), .val (.int (0 : Int32)), .val (.ref bS), .val (.ref bD), .val (.ref bP), .val (.ref bI), .val (.ref bJ), .val (.ref b1), .val (.ref r1), .unset] [])) _
      refine XS.iload X134.here hx rfl (hb hby at_386) rfl ?_
      show Steps p.tables e below (T134.setTop (mkF m 388 #[.val (.int p1), .val (.int p2), .val (.int p3), .val (.int p4), .val (.int p5), .val (.int p6), .val (.int (0 : Int32)), .val (.ref bS), .val (.ref bD), .val (.ref bP), .val (.ref bI), .val (.ref bJ), .val (.ref b1), .val (.ref r1), .unset] [(.int (0 : Int32))])) _
      refine XS.ifNo X134.here hx rfl (hb hby at_388) rfl ((if0 _ _).trans (teq (by decide : (0 : Int32) = (0 : Int32))).2) ?_
      show Steps p.tables e below (T134.setTop (mkF m 391 #[.val (.int p1), .val (.int p2), .val (.int p3), .val (.int p4), .val (.int p5), .val (.int p6), .val (.int (0 : Int32)), .val (.ref bS), .val (.ref bD), .val (.ref bP), .val (.ref bI), .val (.ref bJ), .val (.ref b1), .val (.ref r1), .unset] [])) _
      refine XS.iconst X134.here hx rfl (hb hby at_391) ?_
      show Steps p.tables e below (T134.setTop (mkF m 392 #[.val (.int p1), .val (.int p2), .val (.int p3), .val (.int p4), .val (.int p5), .val (.int p6), .val (.int (0 : Int32)), .val (.ref bS), .val (.ref bD), .val (.ref bP), .val (.ref bI), .val (.ref bJ), .val (.ref b1), .val (.ref r1), .unset] [(.int (0 : Int32))])) _
      refine XS.goto X134.here hx rfl (pc0 := 392) (pc' := 404) rfl (hb hby at_392) (by decide) (by decide) ?_
      show Steps p.tables e below (T134.setTop (mkF m 404 #[.val (.int p1), .val (.int p2), .val (.int p3), .val (.int p4), .val (.int p5), .val (.int p6), .val (.int (0 : Int32)), .val (.ref bS), .val (.ref bD), .val (.ref bP), .val (.ref bI), .val (.ref bJ), .val (.ref b1), .val (.ref r1), .unset] [(.int (0 : Int32))])) _
      refine XS.istore X134.here hx rfl (hb hby at_404) rfl (l' := #[.val (.int p1), .val (.int p2), .val (.int p3), .val (.int p4), .val (.int p5), .val (.int p6), .val (.int (0 : Int32)), .val (.ref bS), .val (.ref bD), .val (.ref bP), .val (.ref bI), .val (.ref bJ), .val (.ref b1), .val (.ref r1), .val (.int (0 : Int32))]) rfl ?_
      show Steps p.tables e below (T134.setTop (mkF m 406 #[.val (.int p1), .val (.int p2), .val (.int p3), .val (.int p4), .val (.int p5), .val (.int p6), .val (.int (0 : Int32)), .val (.ref bS), .val (.ref bD), .val (.ref bP), .val (.ref bI), .val (.ref bJ), .val (.ref b1), .val (.ref r1), .val (.int (0 : Int32))] [])) _
      refine XS.aload X134.here hx rfl (hb hby at_406) rfl rfl ?_
      exact kT)
    obtain ⟨cI143, kI143, q143a, q143b, q143c⟩ := isOf hZ rfl BP.1.2.2.2
    have pre144 : ∀ t, Steps p.tables e below (T134.setTop (mkF m 408 #[.val (.int p1), .val (.int p2), .val (.int p3), .val (.int p4), .val (.int p5), .val (.int p6), .val (.int (0 : Int32)), .val (.ref bS), .val (.ref bD), .val (.ref bP), .val (.ref bI), .val (.ref bJ), .val (.ref b1), .val (.ref r1), .val (.int (0 : Int32))] [(.ref r1)])) t → Steps p.tables e below (s₁.setTop (entryFrame m #[(.int p1), (.int p2), (.int p3), (.int p4), (.int p5), (.int p6)] maxLocals)) t := fun t kT => pre142 t (by
      exact kT)
    obtain ⟨_, _, ⟨T145, L145, k145, n145⟩, -, X145, ⟨Lc145, hQ145, l145, y145, z145⟩, st145⟩ := X134.virtualBack hx (y := (⟨"com/example/esteem/esteem/index/Postings", "docFreq", "()I"⟩ : MethodName)) (z := (⟨"com/example/esteem/esteem/index/Postings", "docFreq", "()I"⟩ : MethodName)) hown (mvT hZ (hw _ (List.mem_of_getElem? (i := 54) rfl))) (mvT hZ (hw _ (List.mem_of_getElem? (i := 55) rfl))) (notFace_of_selects (args := #[]) (mvT hZ (hw _ (List.mem_of_getElem? (i := 57) rfl)))) (mvT hZ (hw _ (List.mem_of_getElem? (i := 57) rfl))) (mvT hZ (hw _ (List.mem_of_getElem? (i := 56) rfl))) (by decide) (backOf (W := 0) (rmDF l Z a0 hw [] r1 xd xs xp 0 0 (fun _ => (0 : Int32)) (fun _ => (0 : Int32)) (fun _ => (0 : Int32)) T134.heap nB sz134 BP (by decide) (by decide)) hZ (hw _ (List.mem_of_getElem? (i := 58) rfl)) (hw _ (List.mem_of_getElem? (i := 27) rfl)) (by decide) (by decide)) q143a q143c (g := (mkF m 408 #[.val (.int p1), .val (.int p2), .val (.int p3), .val (.int p4), .val (.int p5), .val (.int p6), .val (.int (0 : Int32)), .val (.ref bS), .val (.ref bD), .val (.ref bP), .val (.ref bI), .val (.ref bJ), .val (.ref b1), .val (.ref r1), .val (.int (0 : Int32))] [(.ref r1)])) rfl (by rw [hml]; rfl) (Steps.refl _) (argsL := []) (rest := []) (lenOf pd___I rfl) rfl (by show 2 * 0 + _ ≤ _; exact Nat.le_of_eq rfl) (hb hby at_408) (fun _ _ => ⟨rfl, rfl, (by decide : 13 + 0 ≤ _), (by decide : 37 + 0 ≤ _)⟩)
    dsimp only [Pt.U, Pt.locs, Pt.cells, Pt.slots] at X145 l145 y145 z145 st145 hQ145
    have X145 := own_st X145 (y145.trans (show _ = 13 from rfl)) (z145.trans (show _ = 37 from rfl))
    obtain ⟨rfl, N145q, edf0⟩ := hQ145
    have N145 := own_fr l145 N134 (own_frm hn0B N145q)
    have pre146 : ∀ t, Steps p.tables e below (T145.setTop (mkF m 411 #[.val (.int p1), .val (.int p2), .val (.int p3), .val (.int p4), .val (.int p5), .val (.int p6), .val (.int (0 : Int32)), .val (.ref bS), .val (.ref bD), .val (.ref bP), .val (.ref bI), .val (.ref bJ), .val (.ref b1), .val (.ref r1), .val (.int (0 : Int32))] [(.int (Int32.ofNat 0))])) t → Steps p.tables e below (s₁.setTop (entryFrame m #[(.int p1), (.int p2), (.int p3), (.int p4), (.int p5), (.int p6)] maxLocals)) t := fun t kT => pre144 t (st145.trans kT)
    have pre147 : ∀ t, Steps p.tables e below (T145.setTop (mkF m 418 #[.val (.int p1), .val (.int p2), .val (.int p3), .val (.int p4), .val (.int p5), .val (.int p6), .val (.int (0 : Int32)), .val (.ref bS), .val (.ref bD), .val (.ref bP), .val (.ref bI), .val (.ref bJ), .val (.ref b1), .val (.ref r1), .val (.int (0 : Int32))] [])) t → Steps p.tables e below (s₁.setTop (entryFrame m #[(.int p1), (.int p2), (.int p3), (.int p4), (.int p5), (.int p6)] maxLocals)) t := fun t kT => pre146 t (by
      show Steps p.tables e below (T145.setTop (mkF m 411 #[.val (.int p1), .val (.int p2), .val (.int p3), .val (.int p4), .val (.int p5), .val (.int p6), .val (.int (0 : Int32)), .val (.ref bS), .val (.ref bD), .val (.ref bP), .val (.ref bI), .val (.ref bJ), .val (.ref b1), .val (.ref r1), .val (.int (0 : Int32))] [(.int (Int32.ofNat 0))])) _
      refine XS.iload X145.here hx rfl (hb hby at_411) rfl ?_
      show Steps p.tables e below (T145.setTop (mkF m 413 #[.val (.int p1), .val (.int p2), .val (.int p3), .val (.int p4), .val (.int p5), .val (.int p6), .val (.int (0 : Int32)), .val (.ref bS), .val (.ref bD), .val (.ref bP), .val (.ref bI), .val (.ref bJ), .val (.ref b1), .val (.ref r1), .val (.int (0 : Int32))] [(.int (0 : Int32)), (.int (Int32.ofNat 0))])) _
      refine XS.icmpYes X145.here hx rfl (pc0 := 413) (pc' := 418) rfl (hb hby at_413) rfl (teq (by decide)).1 (by decide) (by decide) ?_
      exact kT)
    obtain ⟨co148, ⟨Ao148, Ko148⟩, So148, Ho148⟩ := id V_bS_e134
    obtain ⟨co149, ⟨Ao149, Ko149⟩, So149, Ho149⟩ := id V_bD_e134
    obtain ⟨co150, ⟨Ao150, Ko150⟩, So150, Ho150⟩ := id V_bP_e134
    obtain ⟨co151, ⟨Ao151, Ko151⟩, So151, Ho151⟩ := id V_bI_e134
    obtain ⟨co152, ⟨Ao152, Ko152⟩, So152, Ho152⟩ := id V_bJ_e134
    have pre153 : ∀ t, Steps p.tables e below (T145.setTop (mkF m 576 #[.val (.int p1), .val (.int p2), .val (.int p3), .val (.int p4), .val (.int p5), .val (.int p6), .val (.int (0 : Int32)), .val (.ref bS), .val (.ref bD), .val (.ref bP), .val (.ref bI), .val (.ref bJ), .val (.ref b1), .val (.ref r1), .val (.int (0 : Int32))] [(.int (1 : Int32))])) t → Steps p.tables e below (s₁.setTop (entryFrame m #[(.int p1), (.int p2), (.int p3), (.int p4), (.int p5), (.int p6)] maxLocals)) t := fun t kT => pre147 t (by
      show Steps p.tables e below (T145.setTop (mkF m 418 #[.val (.int p1), .val (.int p2), .val (.int p3), .val (.int p4), .val (.int p5), .val (.int p6), .val (.int (0 : Int32)), .val (.ref bS), .val (.ref bD), .val (.ref bP), .val (.ref bI), .val (.ref bJ), .val (.ref b1), .val (.ref r1), .val (.int (0 : Int32))] [])) _
      refine XS.iload X145.here hx rfl (hb hby at_418) rfl ?_
      show Steps p.tables e below (T145.setTop (mkF m 420 #[.val (.int p1), .val (.int p2), .val (.int p3), .val (.int p4), .val (.int p5), .val (.int p6), .val (.int (0 : Int32)), .val (.ref bS), .val (.ref bD), .val (.ref bP), .val (.ref bI), .val (.ref bJ), .val (.ref b1), .val (.ref r1), .val (.int (0 : Int32))] [(.int (0 : Int32))])) _
      refine XS.ifYes X145.here hx rfl (pc0 := 420) (pc' := 468) rfl (hb hby at_420) rfl ((if0 _ _).trans (flt (by decide : ¬ ((0 : Int32) < (0 : Int32)))).2.2.2) (by decide) (by decide) ?_
      show Steps p.tables e below (T145.setTop (mkF m 468 #[.val (.int p1), .val (.int p2), .val (.int p3), .val (.int p4), .val (.int p5), .val (.int p6), .val (.int (0 : Int32)), .val (.ref bS), .val (.ref bD), .val (.ref bP), .val (.ref bI), .val (.ref bJ), .val (.ref b1), .val (.ref r1), .val (.int (0 : Int32))] [])) _
      refine XS.iload X145.here hx rfl (hb hby at_468) rfl ?_
      show Steps p.tables e below (T145.setTop (mkF m 470 #[.val (.int p1), .val (.int p2), .val (.int p3), .val (.int p4), .val (.int p5), .val (.int p6), .val (.int (0 : Int32)), .val (.ref bS), .val (.ref bD), .val (.ref bP), .val (.ref bI), .val (.ref bJ), .val (.ref b1), .val (.ref r1), .val (.int (0 : Int32))] [(.int (0 : Int32))])) _
      refine XS.iconst X145.here hx rfl (hb hby at_470) ?_
      show Steps p.tables e below (T145.setTop (mkF m 471 #[.val (.int p1), .val (.int p2), .val (.int p3), .val (.int p4), .val (.int p5), .val (.int p6), .val (.int (0 : Int32)), .val (.ref bS), .val (.ref bD), .val (.ref bP), .val (.ref bI), .val (.ref bJ), .val (.ref b1), .val (.ref r1), .val (.int (0 : Int32))] [(.int (1 : Int32)), (.int (0 : Int32))])) _
      refine XS.icmpYes X145.here hx rfl (pc0 := 471) (pc' := 530) rfl (hb hby at_471) rfl (flt (by decide : ¬ ((1 : Int32) < (0 : Int32)))).2.2.2 (by decide) (by decide) ?_
      show Steps p.tables e below (T145.setTop (mkF m 530 #[.val (.int p1), .val (.int p2), .val (.int p3), .val (.int p4), .val (.int p5), .val (.int p6), .val (.int (0 : Int32)), .val (.ref bS), .val (.ref bD), .val (.ref bP), .val (.ref bI), .val (.ref bJ), .val (.ref b1), .val (.ref r1), .val (.int (0 : Int32))] [])) _
      refine XS.iload X145.here hx rfl (hb hby at_530) rfl ?_
      show Steps p.tables e below (T145.setTop (mkF m 532 #[.val (.int p1), .val (.int p2), .val (.int p3), .val (.int p4), .val (.int p5), .val (.int p6), .val (.int (0 : Int32)), .val (.ref bS), .val (.ref bD), .val (.ref bP), .val (.ref bI), .val (.ref bJ), .val (.ref b1), .val (.ref r1), .val (.int (0 : Int32))] [(.int (0 : Int32))])) _
      refine XS.iconst X145.here hx rfl (hb hby at_532) ?_
      show Steps p.tables e below (T145.setTop (mkF m 533 #[.val (.int p1), .val (.int p2), .val (.int p3), .val (.int p4), .val (.int p5), .val (.int p6), .val (.int (0 : Int32)), .val (.ref bS), .val (.ref bD), .val (.ref bP), .val (.ref bI), .val (.ref bJ), .val (.ref b1), .val (.ref r1), .val (.int (0 : Int32))] [(.int (2 : Int32)), (.int (0 : Int32))])) _
      refine XS.icmpYes X145.here hx rfl (pc0 := 533) (pc' := 575) rfl (hb hby at_533) rfl (flt (by decide : ¬ ((2 : Int32) < (0 : Int32)))).2.2.2 (by decide) (by decide) ?_
      show Steps p.tables e below (T145.setTop (mkF m 575 #[.val (.int p1), .val (.int p2), .val (.int p3), .val (.int p4), .val (.int p5), .val (.int p6), .val (.int (0 : Int32)), .val (.ref bS), .val (.ref bD), .val (.ref bP), .val (.ref bI), .val (.ref bJ), .val (.ref b1), .val (.ref r1), .val (.int (0 : Int32))] [])) _
      refine XS.iconst X145.here hx rfl (hb hby at_575) ?_
      exact kT)
    obtain ⟨fs, hr, hrun, hended, hW, hsame⟩ := X145.leave (v := some (.int (1 : Int32))) (fun h => by rw [Bd.returns] at h; cases h)
    refine ⟨_, _, pre153 _ ?_, hrun, hended, _, _, rfl, ?_, ⟨_, rfl⟩, hW, hsame.mono (by decide) (by decide)⟩
    · exact retN X145 hx (t := .boolean) Bd.returns (by simp) (hb hby at_576) hr
    · exact ⟨rfl, N145⟩
  · have pre154 : ∀ t, Steps p.tables e below (T128.setTop (mkF m 328 #[.val (.int p1), .val (.int p2), .val (.int p3), .val (.int p4), .val (.int p5), .val (.int p6), .val (.int (1 : Int32)), .val (.ref bS), .val (.ref bD), .val (.ref bP), .val (.ref bI), .val (.ref bJ), .val (.ref b1), .unset, .unset] [])) t → Steps p.tables e below (s₁.setTop (entryFrame m #[(.int p1), (.int p2), (.int p3), (.int p4), (.int p5), (.int p6)] maxLocals)) t := fun t kT => pre130 t (by
      show Steps p.tables e below (T128.setTop (mkF m 325 #[.val (.int p1), .val (.int p2), .val (.int p3), .val (.int p4), .val (.int p5), .val (.int p6), .val (.int (1 : Int32)), .val (.ref bS), .val (.ref bD), .val (.ref bP), .val (.ref bI), .val (.ref bJ), .val (.ref b1), .unset, .unset] [(.int (1 : Int32))])) _
      refine XS.ifNo X128.here hx rfl (hb hby at_325) rfl ((if0 _ _).trans (tlt (by decide : (0 : Int32) < (1 : Int32))).2.2.2) ?_
      exact kT)
    obtain ⟨co155, ⟨Ao155, Ko155⟩, So155, Ho155⟩ := id V_bD_e128
    obtain ⟨co156, ⟨Ao156, Ko156⟩, So156, Ho156⟩ := id V_bP_e128
    have pre157 : ∀ t, Steps p.tables e below (T128.setTop (mkF m 338 #[.val (.int p1), .val (.int p2), .val (.int p3), .val (.int p4), .val (.int p5), .val (.int p6), .val (.int (1 : Int32)), .val (.ref bS), .val (.ref bD), .val (.ref bP), .val (.ref bI), .val (.ref bJ), .val (.ref b1), .unset, .unset] [(.int qA), (.int dA), (.ref b1)])) t → Steps p.tables e below (s₁.setTop (entryFrame m #[(.int p1), (.int p2), (.int p3), (.int p4), (.int p5), (.int p6)] maxLocals)) t := fun t kT => pre154 t (by
      show Steps p.tables e below (T128.setTop (mkF m 328 #[.val (.int p1), .val (.int p2), .val (.int p3), .val (.int p4), .val (.int p5), .val (.int p6), .val (.int (1 : Int32)), .val (.ref bS), .val (.ref bD), .val (.ref bP), .val (.ref bI), .val (.ref bJ), .val (.ref b1), .unset, .unset] [])) _
      refine XS.aload X128.here hx rfl (hb hby at_328) rfl rfl ?_
      show Steps p.tables e below (T128.setTop (mkF m 330 #[.val (.int p1), .val (.int p2), .val (.int p3), .val (.int p4), .val (.int p5), .val (.int p6), .val (.int (1 : Int32)), .val (.ref bS), .val (.ref bD), .val (.ref bP), .val (.ref bI), .val (.ref bJ), .val (.ref b1), .unset, .unset] [(.ref b1)])) _
      refine XS.aload X128.here hx rfl (hb hby at_330) rfl rfl ?_
      show Steps p.tables e below (T128.setTop (mkF m 332 #[.val (.int p1), .val (.int p2), .val (.int p3), .val (.int p4), .val (.int p5), .val (.int p6), .val (.int (1 : Int32)), .val (.ref bS), .val (.ref bD), .val (.ref bP), .val (.ref bI), .val (.ref bJ), .val (.ref b1), .unset, .unset] [(.ref bD), (.ref b1)])) _
      refine XS.iconst X128.here hx rfl (hb hby at_332) ?_
      show Steps p.tables e below (T128.setTop (mkF m 333 #[.val (.int p1), .val (.int p2), .val (.int p3), .val (.int p4), .val (.int p5), .val (.int p6), .val (.int (1 : Int32)), .val (.ref bS), .val (.ref bD), .val (.ref bP), .val (.ref bI), .val (.ref bJ), .val (.ref b1), .unset, .unset] [(.int (0 : Int32)), (.ref bD), (.ref b1)])) _
      refine X128.iaload hx (j := (0 : Int32)) (v := (.int dA)) Ao155.1 (State.isArrayOf_alike hZ.alike Ao155.2.1) Ao155.2.2 (own_ld So155 Ho155 (j := (0 : Int32)) (i := 0) (by decide) rfl (by decide) (v := (.int dA)) rfl).1 (own_ld So155 Ho155 (j := (0 : Int32)) (i := 0) (by decide) rfl (by decide) (v := (.int dA)) rfl).2 (g := (mkF m 333 #[.val (.int p1), .val (.int p2), .val (.int p3), .val (.int p4), .val (.int p5), .val (.int p6), .val (.int (1 : Int32)), .val (.ref bS), .val (.ref bD), .val (.ref bP), .val (.ref bI), .val (.ref bJ), .val (.ref b1), .unset, .unset] [(.int (0 : Int32)), (.ref bD), (.ref b1)])) rfl rfl (hb hby at_333) _ ?_
      show Steps p.tables e below (T128.setTop (mkF m 334 #[.val (.int p1), .val (.int p2), .val (.int p3), .val (.int p4), .val (.int p5), .val (.int p6), .val (.int (1 : Int32)), .val (.ref bS), .val (.ref bD), .val (.ref bP), .val (.ref bI), .val (.ref bJ), .val (.ref b1), .unset, .unset] [(.int dA), (.ref b1)])) _
      refine XS.aload X128.here hx rfl (hb hby at_334) rfl rfl ?_
      show Steps p.tables e below (T128.setTop (mkF m 336 #[.val (.int p1), .val (.int p2), .val (.int p3), .val (.int p4), .val (.int p5), .val (.int p6), .val (.int (1 : Int32)), .val (.ref bS), .val (.ref bD), .val (.ref bP), .val (.ref bI), .val (.ref bJ), .val (.ref b1), .unset, .unset] [(.ref bP), (.int dA), (.ref b1)])) _
      refine XS.iconst X128.here hx rfl (hb hby at_336) ?_
      show Steps p.tables e below (T128.setTop (mkF m 337 #[.val (.int p1), .val (.int p2), .val (.int p3), .val (.int p4), .val (.int p5), .val (.int p6), .val (.int (1 : Int32)), .val (.ref bS), .val (.ref bD), .val (.ref bP), .val (.ref bI), .val (.ref bJ), .val (.ref b1), .unset, .unset] [(.int (0 : Int32)), (.ref bP), (.int dA), (.ref b1)])) _
      refine X128.iaload hx (j := (0 : Int32)) (v := (.int qA)) Ao156.1 (State.isArrayOf_alike hZ.alike Ao156.2.1) Ao156.2.2 (own_ld So156 Ho156 (j := (0 : Int32)) (i := 0) (by decide) rfl (by decide) (v := (.int qA)) rfl).1 (own_ld So156 Ho156 (j := (0 : Int32)) (i := 0) (by decide) rfl (by decide) (v := (.int qA)) rfl).2 (g := (mkF m 337 #[.val (.int p1), .val (.int p2), .val (.int p3), .val (.int p4), .val (.int p5), .val (.int p6), .val (.int (1 : Int32)), .val (.ref bS), .val (.ref bD), .val (.ref bP), .val (.ref bI), .val (.ref bJ), .val (.ref b1), .unset, .unset] [(.int (0 : Int32)), (.ref bP), (.int dA), (.ref b1)])) rfl rfl (hb hby at_337) _ ?_
      exact kT)
    obtain ⟨cI158, kI158, q158a, q158b, q158c⟩ := isOf hZ rfl B0.1.2.2.2.2.2
    have pre159 : ∀ t, Steps p.tables e below (T128.setTop (mkF m 338 #[.val (.int p1), .val (.int p2), .val (.int p3), .val (.int p4), .val (.int p5), .val (.int p6), .val (.int (1 : Int32)), .val (.ref bS), .val (.ref bD), .val (.ref bP), .val (.ref bI), .val (.ref bJ), .val (.ref b1), .unset, .unset] [(.int qA), (.int dA), (.ref b1)])) t → Steps p.tables e below (s₁.setTop (entryFrame m #[(.int p1), (.int p2), (.int p3), (.int p4), (.int p5), (.int p6)] maxLocals)) t := fun t kT => pre157 t (by
      exact kT)
    obtain ⟨_, _, ⟨T160, L160, k160, n160⟩, -, X160, ⟨Lc160, hQ160, l160, y160, z160⟩, st160⟩ := X128.virtualBack hx (y := (⟨"com/example/esteem/esteem/index/Postings$Builder", "add", "(II)V"⟩ : MethodName)) (z := (⟨"com/example/esteem/esteem/index/Postings$Builder", "add", "(II)V"⟩ : MethodName)) hown (mvT hZ (hw _ (List.mem_of_getElem? (i := 59) rfl))) (mvT hZ (hw _ (List.mem_of_getElem? (i := 60) rfl))) (notFace_of_selects (args := #[]) (mvT hZ (hw _ (List.mem_of_getElem? (i := 62) rfl)))) (mvT hZ (hw _ (List.mem_of_getElem? (i := 62) rfl))) (mvT hZ (hw _ (List.mem_of_getElem? (i := 61) rfl))) (by decide) (backOf (W := 0) (rmA l Z a0 hw [] b1 dA qA dd0 ds0 dp0 1 2 1 0 0 (fun _ => (0 : Int32)) (fun _ => (0 : Int32)) (fun _ => (0 : Int32)) T128.heap nB sz128 B0 (by decide) (by decide) (Or.inl rfl) (own_nlt (by show ¬ dA.toInt < -1; omega)) (own_nlt0 mQ.1) (fun z => absurd (congrArg Int32.toInt z) (by show ¬ dA.toInt = -1; omega))) hZ (hw _ (List.mem_of_getElem? (i := 63) rfl)) (hw _ (List.mem_of_getElem? (i := 7) rfl)) (by decide) (by decide)) q158a q158c (g := (mkF m 338 #[.val (.int p1), .val (.int p2), .val (.int p3), .val (.int p4), .val (.int p5), .val (.int p6), .val (.int (1 : Int32)), .val (.ref bS), .val (.ref bD), .val (.ref bP), .val (.ref bI), .val (.ref bJ), .val (.ref b1), .unset, .unset] [(.int qA), (.int dA), (.ref b1)])) rfl (by rw [hml]; rfl) (Steps.refl _) (argsL := [(.int dA), (.int qA)]) (rest := []) (lenOf pd__II_V rfl) rfl (by show 2 * 0 + _ ≤ _; exact Nat.le_of_eq rfl) (hb hby at_338) (fun _ _ => ⟨rfl, rfl, (by decide : 9 + 3 ≤ _), (by decide : 24 + 13 ≤ _)⟩)
    dsimp only [Pt.U, Pt.locs, Pt.cells, Pt.slots] at X160 l160 y160 z160 st160 hQ160
    have X160 := own_st X160 (y160.trans (show _ = 12 from rfl)) (z160.trans (show _ = 37 from rfl))
    obtain ⟨rfl, N160q, ky1, dd1, ds1, dp1, dl1, sl1, pl1, B1⟩ := hQ160
    have N160 := own_fr l160 N128 (own_frm hn0B N160q)
    have pre161 : ∀ t, Steps p.tables e below (T160.setTop (mkF m 341 #[.val (.int p1), .val (.int p2), .val (.int p3), .val (.int p4), .val (.int p5), .val (.int p6), .val (.int (1 : Int32)), .val (.ref bS), .val (.ref bD), .val (.ref bP), .val (.ref bI), .val (.ref bJ), .val (.ref b1), .unset, .unset] [])) t → Steps p.tables e below (s₁.setTop (entryFrame m #[(.int p1), (.int p2), (.int p3), (.int p4), (.int p5), (.int p6)] maxLocals)) t := fun t kT => pre159 t (st160.trans kT)
    have V_bS_e160 : own_Ar Z T160.heap bS .boolean 3 (own_upd (own_upd (own_upd (fun _ => (.int (0 : Int32))) 0 (.int (nar .boolean (0 : Int32)))) 1 (.int s1)) 2 (.int s2)) := V_bS_e128.keep ky1 (ninS ne_bS_b1 (ninS (Nat.ne_of_lt (Nat.lt_of_lt_of_le lt_bS B0.2.2.2.1.2.1)) (ninS (Nat.ne_of_lt (Nat.lt_of_lt_of_le lt_bS B0.2.2.2.1.2.2.1)) (ninS (Nat.ne_of_lt (Nat.lt_of_lt_of_le lt_bS B0.2.2.2.1.2.2.2)) nin0))))
    have V_bD_e160 : own_Ar Z T160.heap bD .int 3 (own_upd (own_upd (own_upd (fun _ => (.int (0 : Int32))) 0 (.int dA)) 1 (.int dB)) 2 (.int dC)) := V_bD_e128.keep ky1 (ninS ne_bD_b1 (ninS (Nat.ne_of_lt (Nat.lt_of_lt_of_le lt_bD B0.2.2.2.1.2.1)) (ninS (Nat.ne_of_lt (Nat.lt_of_lt_of_le lt_bD B0.2.2.2.1.2.2.1)) (ninS (Nat.ne_of_lt (Nat.lt_of_lt_of_le lt_bD B0.2.2.2.1.2.2.2)) nin0))))
    have V_bP_e160 : own_Ar Z T160.heap bP .int 3 (own_upd (own_upd (own_upd (fun _ => (.int (0 : Int32))) 0 (.int qA)) 1 (.int qB)) 2 (.int qC)) := V_bP_e128.keep ky1 (ninS ne_bP_b1 (ninS (Nat.ne_of_lt (Nat.lt_of_lt_of_le lt_bP B0.2.2.2.1.2.1)) (ninS (Nat.ne_of_lt (Nat.lt_of_lt_of_le lt_bP B0.2.2.2.1.2.2.1)) (ninS (Nat.ne_of_lt (Nat.lt_of_lt_of_le lt_bP B0.2.2.2.1.2.2.2)) nin0))))
    have V_bI_e160 : own_Ar Z T160.heap bI .int 3 (own_upd (own_upd (own_upd (fun _ => (.int (0 : Int32))) 0 (.int (0 : Int32))) 1 (.int (Int32.ofNat g1))) 2 (.int (Int32.ofNat g2))) := V_bI_e128.keep ky1 (ninS ne_bI_b1 (ninS (Nat.ne_of_lt (Nat.lt_of_lt_of_le lt_bI B0.2.2.2.1.2.1)) (ninS (Nat.ne_of_lt (Nat.lt_of_lt_of_le lt_bI B0.2.2.2.1.2.2.1)) (ninS (Nat.ne_of_lt (Nat.lt_of_lt_of_le lt_bI B0.2.2.2.1.2.2.2)) nin0))))
    have V_bJ_e160 : own_Ar Z T160.heap bJ .int 3 (own_upd (own_upd (own_upd (fun _ => (.int (0 : Int32))) 0 (.int (0 : Int32))) 1 (.int (Int32.ofNat j1))) 2 (.int (Int32.ofNat j2))) := V_bJ_e128.keep ky1 (ninS ne_bJ_b1 (ninS (Nat.ne_of_lt (Nat.lt_of_lt_of_le lt_bJ B0.2.2.2.1.2.1)) (ninS (Nat.ne_of_lt (Nat.lt_of_lt_of_le lt_bJ B0.2.2.2.1.2.2.1)) (ninS (Nat.ne_of_lt (Nat.lt_of_lt_of_le lt_bJ B0.2.2.2.1.2.2.2)) nin0))))
    have sz160 : nB ≤ T160.heap.size := Nat.le_trans sz128 ky1.1
    have nA : ¬ dA = own_last 0 (fun _ => (0 : Int32)) := fun z => absurd (congrArg Int32.toInt z) (by show ¬ dA.toInt = -1; omega)
    obtain ⟨df1, hdf1⟩ : ∃ z, z = own_updI (fun _ => (0 : Int32)) 0 dA := ⟨_, rfl⟩
    obtain ⟨sf1, hsf1⟩ : ∃ z, z = own_updI (own_updI (fun _ => (0 : Int32)) 0 (Int32.ofNat 0)) (0 + 1) (Int32.ofNat (0 + 1)) := ⟨_, rfl⟩
    obtain ⟨pf1, hpf1⟩ : ∃ z, z = own_updI (fun _ => (0 : Int32)) 0 qA := ⟨_, rfl⟩
    rw [show own_ndc 0 (fun _ => (0 : Int32)) dA = 1 from if_neg nA, show own_ndf 0 (fun _ => (0 : Int32)) dA = df1 from (if_neg nA).trans hdf1.symm, show own_nsf 0 0 (fun _ => (0 : Int32)) (fun _ => (0 : Int32)) dA = sf1 from (if_neg nA).trans hsf1.symm, ← hpf1] at B1
    have l1 : own_last 1 df1 = dA := by rw [hdf1]; rfl
    have p10 : pf1 0 = qA := by rw [hpf1]; rfl
    have x2 : df1 0 = dA := by rw [hdf1]; rfl
    have x3 : sf1 0 + Int32.ofNat 0 = Int32.ofNat 0 := by rw [hsf1]; decide
    have xf : sf1 (0 + 1) - sf1 0 = Int32.ofNat (0 + 1) := by rw [hsf1]; decide
    have pre162 : ∀ t, Steps p.tables e below (T160.setTop (mkF m 381 #[.val (.int p1), .val (.int p2), .val (.int p3), .val (.int p4), .val (.int p5), .val (.int p6), .val (.int (1 : Int32)), .val (.ref bS), .val (.ref bD), .val (.ref bP), .val (.ref bI), .val (.ref bJ), .val (.ref b1), .unset, .unset] [(.ref b1)])) t → Steps p.tables e below (s₁.setTop (entryFrame m #[(.int p1), (.int p2), (.int p3), (.int p4), (.int p5), (.int p6)] maxLocals)) t := fun t kT => pre161 t (by
      show Steps p.tables e below (T160.setTop (mkF m 341 #[.val (.int p1), .val (.int p2), .val (.int p3), .val (.int p4), .val (.int p5), .val (.int p6), .val (.int (1 : Int32)), .val (.ref bS), .val (.ref bD), .val (.ref bP), .val (.ref bI), .val (.ref bJ), .val (.ref b1), .unset, .unset] [])) _
      refine XS.iload X160.here hx rfl (hb hby at_341) rfl ?_
      show Steps p.tables e below (T160.setTop (mkF m 343 #[.val (.int p1), .val (.int p2), .val (.int p3), .val (.int p4), .val (.int p5), .val (.int p6), .val (.int (1 : Int32)), .val (.ref bS), .val (.ref bD), .val (.ref bP), .val (.ref bI), .val (.ref bJ), .val (.ref b1), .unset, .unset] [(.int (1 : Int32))])) _
      refine XS.iconst X160.here hx rfl (hb hby at_343) ?_
      show Steps p.tables e below (T160.setTop (mkF m 344 #[.val (.int p1), .val (.int p2), .val (.int p3), .val (.int p4), .val (.int p5), .val (.int p6), .val (.int (1 : Int32)), .val (.ref bS), .val (.ref bD), .val (.ref bP), .val (.ref bI), .val (.ref bJ), .val (.ref b1), .unset, .unset] [(.int (1 : Int32)), (.int (1 : Int32))])) _
      refine XS.icmpYes X160.here hx rfl (pc0 := 344) (pc' := 360) rfl (hb hby at_344) rfl (flt (by decide : ¬ ((1 : Int32) < (1 : Int32)))).2.2.2 (by decide) (by decide) ?_
      show Steps p.tables e below (T160.setTop (mkF m 360 #[.val (.int p1), .val (.int p2), .val (.int p3), .val (.int p4), .val (.int p5), .val (.int p6), .val (.int (1 : Int32)), .val (.ref bS), .val (.ref bD), .val (.ref bP), .val (.ref bI), .val (.ref bJ), .val (.ref b1), .unset, .unset] [])) _
      refine XS.iload X160.here hx rfl (hb hby at_360) rfl ?_
      show Steps p.tables e below (T160.setTop (mkF m 362 #[.val (.int p1), .val (.int p2), .val (.int p3), .val (.int p4), .val (.int p5), .val (.int p6), .val (.int (1 : Int32)), .val (.ref bS), .val (.ref bD), .val (.ref bP), .val (.ref bI), .val (.ref bJ), .val (.ref b1), .unset, .unset] [(.int (1 : Int32))])) _
      refine XS.iconst X160.here hx rfl (hb hby at_362) ?_
      show Steps p.tables e below (T160.setTop (mkF m 363 #[.val (.int p1), .val (.int p2), .val (.int p3), .val (.int p4), .val (.int p5), .val (.int p6), .val (.int (1 : Int32)), .val (.ref bS), .val (.ref bD), .val (.ref bP), .val (.ref bI), .val (.ref bJ), .val (.ref b1), .unset, .unset] [(.int (2 : Int32)), (.int (1 : Int32))])) _
      refine XS.icmpYes X160.here hx rfl (pc0 := 363) (pc' := 379) rfl (hb hby at_363) rfl (flt (by decide : ¬ ((2 : Int32) < (1 : Int32)))).2.2.2 (by decide) (by decide) ?_
      show Steps p.tables e below (T160.setTop (mkF m 379 #[.val (.int p1), .val (.int p2), .val (.int p3), .val (.int p4), .val (.int p5), .val (.int p6), .val (.int (1 : Int32)), .val (.ref bS), .val (.ref bD), .val (.ref bP), .val (.ref bI), .val (.ref bJ), .val (.ref b1), .unset, .unset] [])) _
      refine XS.aload X160.here hx rfl (hb hby at_379) rfl rfl ?_
      exact kT)
    obtain ⟨cI163, kI163, q163a, q163b, q163c⟩ := isOf hZ rfl B1.1.2.2.2.2.2
    have pre164 : ∀ t, Steps p.tables e below (T160.setTop (mkF m 381 #[.val (.int p1), .val (.int p2), .val (.int p3), .val (.int p4), .val (.int p5), .val (.int p6), .val (.int (1 : Int32)), .val (.ref bS), .val (.ref bD), .val (.ref bP), .val (.ref bI), .val (.ref bJ), .val (.ref b1), .unset, .unset] [(.ref b1)])) t → Steps p.tables e below (s₁.setTop (entryFrame m #[(.int p1), (.int p2), (.int p3), (.int p4), (.int p5), (.int p6)] maxLocals)) t := fun t kT => pre162 t (by
      exact kT)
    obtain ⟨_, _, ⟨T165, L165, k165, n165⟩, -, X165, ⟨Lc165, hQ165, l165, y165, z165⟩, st165⟩ := X160.virtualBack hx (y := (⟨"com/example/esteem/esteem/index/Postings$Builder", "build", "()Lcom/example/esteem/esteem/index/Postings;"⟩ : MethodName)) (z := (⟨"com/example/esteem/esteem/index/Postings$Builder", "build", "()Lcom/example/esteem/esteem/index/Postings;"⟩ : MethodName)) hown (mvT hZ (hw _ (List.mem_of_getElem? (i := 20) rfl))) (mvT hZ (hw _ (List.mem_of_getElem? (i := 21) rfl))) (notFace_of_selects (args := #[]) (mvT hZ (hw _ (List.mem_of_getElem? (i := 23) rfl)))) (mvT hZ (hw _ (List.mem_of_getElem? (i := 23) rfl))) (mvT hZ (hw _ (List.mem_of_getElem? (i := 22) rfl))) (by decide) (backOf (W := 0) (rmBU l Z a0 hw [] b1 dd1 ds1 dp1 dl1 sl1 pl1 1 (0 + 1) df1 sf1 pf1 T160.heap nB sz160 B1 (by decide) (by decide)) hZ (hw _ (List.mem_of_getElem? (i := 24) rfl)) (hw _ (List.mem_of_getElem? (i := 7) rfl)) (by decide) (by decide)) q163a q163c (g := (mkF m 381 #[.val (.int p1), .val (.int p2), .val (.int p3), .val (.int p4), .val (.int p5), .val (.int p6), .val (.int (1 : Int32)), .val (.ref bS), .val (.ref bD), .val (.ref bP), .val (.ref bI), .val (.ref bJ), .val (.ref b1), .unset, .unset] [(.ref b1)])) rfl (by rw [hml]; rfl) (Steps.refl _) (argsL := []) (rest := []) (lenOf pd___Lcom_example_esteem_esteem_index_Postings_ rfl) rfl (by show 2 * 0 + _ ≤ _; exact Nat.le_of_eq rfl) (hb hby at_381) (fun _ _ => ⟨rfl, rfl, (by decide : 12 + 4 ≤ _), (by decide : 37 + 13 ≤ _)⟩)
    dsimp only [Pt.U, Pt.locs, Pt.cells, Pt.slots] at X165 l165 y165 z165 st165 hQ165
    have X165 := own_st X165 (y165.trans (show _ = 16 from rfl)) (z165.trans (show _ = 50 from rfl))
    obtain ⟨r1, xd, xs, xp, rfl, N165q, kyB, BP⟩ := hQ165
    have N165 := own_fr l165 N160 (own_frm hn0B N165q)
    have pre166 : ∀ t, Steps p.tables e below (T165.setTop (mkF m 384 #[.val (.int p1), .val (.int p2), .val (.int p3), .val (.int p4), .val (.int p5), .val (.int p6), .val (.int (1 : Int32)), .val (.ref bS), .val (.ref bD), .val (.ref bP), .val (.ref bI), .val (.ref bJ), .val (.ref b1), .unset, .unset] [(.ref r1)])) t → Steps p.tables e below (s₁.setTop (entryFrame m #[(.int p1), (.int p2), (.int p3), (.int p4), (.int p5), (.int p6)] maxLocals)) t := fun t kT => pre164 t (st165.trans kT)
    have V_bS_e165 : own_Ar Z T165.heap bS .boolean 3 (own_upd (own_upd (own_upd (fun _ => (.int (0 : Int32))) 0 (.int (nar .boolean (0 : Int32)))) 1 (.int s1)) 2 (.int s2)) := V_bS_e160.keep kyB nin0
    have V_bD_e165 : own_Ar Z T165.heap bD .int 3 (own_upd (own_upd (own_upd (fun _ => (.int (0 : Int32))) 0 (.int dA)) 1 (.int dB)) 2 (.int dC)) := V_bD_e160.keep kyB nin0
    have V_bP_e165 : own_Ar Z T165.heap bP .int 3 (own_upd (own_upd (own_upd (fun _ => (.int (0 : Int32))) 0 (.int qA)) 1 (.int qB)) 2 (.int qC)) := V_bP_e160.keep kyB nin0
    have V_bI_e165 : own_Ar Z T165.heap bI .int 3 (own_upd (own_upd (own_upd (fun _ => (.int (0 : Int32))) 0 (.int (0 : Int32))) 1 (.int (Int32.ofNat g1))) 2 (.int (Int32.ofNat g2))) := V_bI_e160.keep kyB nin0
    have V_bJ_e165 : own_Ar Z T165.heap bJ .int 3 (own_upd (own_upd (own_upd (fun _ => (.int (0 : Int32))) 0 (.int (0 : Int32))) 1 (.int (Int32.ofNat j1))) 2 (.int (Int32.ofNat j2))) := V_bJ_e160.keep kyB nin0
    have sz165 : nB ≤ T165.heap.size := Nat.le_trans sz160 kyB.1
    have pre167 : ∀ t, Steps p.tables e below (T165.setTop (mkF m 384 #[.val (.int p1), .val (.int p2), .val (.int p3), .val (.int p4), .val (.int p5), .val (.int p6), .val (.int (1 : Int32)), .val (.ref bS), .val (.ref bD), .val (.ref bP), .val (.ref bI), .val (.ref bJ), .val (.ref b1), .unset, .unset] [(.ref r1)])) t → Steps p.tables e below (s₁.setTop (entryFrame m #[(.int p1), (.int p2), (.int p3), (.int p4), (.int p5), (.int p6)] maxLocals)) t := fun t kT => pre166 t (by
      exact kT)
    obtain ⟨co168, ⟨Ao168, Ko168⟩, So168, Ho168⟩ := id V_bS_e165
    obtain ⟨co169, ⟨Ao169, Ko169⟩, So169, Ho169⟩ := id V_bD_e165
    obtain ⟨co170, ⟨Ao170, Ko170⟩, So170, Ho170⟩ := id V_bP_e165
    obtain ⟨co171, ⟨Ao171, Ko171⟩, So171, Ho171⟩ := id V_bI_e165
    obtain ⟨co172, ⟨Ao172, Ko172⟩, So172, Ho172⟩ := id V_bJ_e165
    have pre173 : ∀ t, Steps p.tables e below (T165.setTop (mkF m 401 #[.val (.int p1), .val (.int p2), .val (.int p3), .val (.int p4), .val (.int p5), .val (.int p6), .val (.int (1 : Int32)), .val (.ref bS), .val (.ref bD), .val (.ref bP), .val (.ref bI), .val (.ref bJ), .val (.ref b1), .val (.ref r1), .unset] [(.int ((1 : Int32) - (1 : Int32))), (.ref bI)])) t → Steps p.tables e below (s₁.setTop (entryFrame m #[(.int p1), (.int p2), (.int p3), (.int p4), (.int p5), (.int p6)] maxLocals)) t := fun t kT => pre167 t (by
      show Steps p.tables e below (T165.setTop (mkF m 384 #[.val (.int p1), .val (.int p2), .val (.int p3), .val (.int p4), .val (.int p5), .val (.int p6), .val (.int (1 : Int32)), .val (.ref bS), .val (.ref bD), .val (.ref bP), .val (.ref bI), .val (.ref bJ), .val (.ref b1), .unset, .unset] [(.ref r1)])) _
      refine XS.astore X165.here hx rfl (hb hby at_384) rfl rfl (l' := #[.val (.int p1), .val (.int p2), .val (.int p3), .val (.int p4), .val (.int p5), .val (.int p6), .val (.int (1 : Int32)), .val (.ref bS), .val (.ref bD), .val (.ref bP), .val (.ref bI), .val (.ref bJ), .val (.ref b1), .val (.ref r1), .unset]) rfl ?_
      show Steps p.tables e below (T165.setTop (mkF m 386 #[.val (.int p1), .val (.int p2), .val (.int p3), .val (.int p4), .val (.int p5), .val (.int p6), .val (.int (1 : Int32)), .val (.ref bS), .val (.ref bD), .val (.ref bP), .val (.ref bI), .val (.ref bJ), .val (.ref b1), .val (.ref r1), .unset] [])) _
      refine XS.iload X165.here hx rfl (hb hby at_386) rfl ?_
      show Steps p.tables e below (T165.setTop (mkF m 388 #[.val (.int p1), .val (.int p2), .val (.int p3), .val (.int p4), .val (.int p5), .val (.int p6), .val (.int (1 : Int32)), .val (.ref bS), .val (.ref bD), .val (.ref bP), .val (.ref bI), .val (.ref bJ), .val (.ref b1), .val (.ref r1), .unset] [(.int (1 : Int32))])) _
      refine XS.ifYes X165.here hx rfl (pc0 := 388) (pc' := 395) rfl (hb hby at_388) rfl ((if0 _ _).trans (feq (by decide : ¬ ((1 : Int32) = (0 : Int32)))).2) (by decide) (by decide) ?_
      show Steps p.tables e below (T165.setTop (mkF m 395 #[.val (.int p1), .val (.int p2), .val (.int p3), .val (.int p4), .val (.int p5), .val (.int p6), .val (.int (1 : Int32)), .val (.ref bS), .val (.ref bD), .val (.ref bP), .val (.ref bI), .val (.ref bJ), .val (.ref b1), .val (.ref r1), .unset] [])) _
      refine XS.aload X165.here hx rfl (hb hby at_395) rfl rfl ?_
      show Steps p.tables e below (T165.setTop (mkF m 397 #[.val (.int p1), .val (.int p2), .val (.int p3), .val (.int p4), .val (.int p5), .val (.int p6), .val (.int (1 : Int32)), .val (.ref bS), .val (.ref bD), .val (.ref bP), .val (.ref bI), .val (.ref bJ), .val (.ref b1), .val (.ref r1), .unset] [(.ref bI)])) _
      refine XS.iload X165.here hx rfl (hb hby at_397) rfl ?_
      show Steps p.tables e below (T165.setTop (mkF m 399 #[.val (.int p1), .val (.int p2), .val (.int p3), .val (.int p4), .val (.int p5), .val (.int p6), .val (.int (1 : Int32)), .val (.ref bS), .val (.ref bD), .val (.ref bP), .val (.ref bI), .val (.ref bJ), .val (.ref b1), .val (.ref r1), .unset] [(.int (1 : Int32)), (.ref bI)])) _
      refine XS.iconst X165.here hx rfl (hb hby at_399) ?_
      show Steps p.tables e below (T165.setTop (mkF m 400 #[.val (.int p1), .val (.int p2), .val (.int p3), .val (.int p4), .val (.int p5), .val (.int p6), .val (.int (1 : Int32)), .val (.ref bS), .val (.ref bD), .val (.ref bP), .val (.ref bI), .val (.ref bJ), .val (.ref b1), .val (.ref r1), .unset] [(.int (1 : Int32)), (.int (1 : Int32)), (.ref bI)])) _
      refine XS.isub X165.here hx rfl (hb hby at_400) rfl ?_
      exact kT)
    rw [show ((1 : Int32) - (1 : Int32)) = (0 : Int32) from by decide] at pre173
    have pre174 : ∀ t, Steps p.tables e below (T165.setTop (mkF m 408 #[.val (.int p1), .val (.int p2), .val (.int p3), .val (.int p4), .val (.int p5), .val (.int p6), .val (.int (1 : Int32)), .val (.ref bS), .val (.ref bD), .val (.ref bP), .val (.ref bI), .val (.ref bJ), .val (.ref b1), .val (.ref r1), .val (.int ((0 : Int32) + (1 : Int32)))] [(.ref r1)])) t → Steps p.tables e below (s₁.setTop (entryFrame m #[(.int p1), (.int p2), (.int p3), (.int p4), (.int p5), (.int p6)] maxLocals)) t := fun t kT => pre173 t (by
      show Steps p.tables e below (T165.setTop (mkF m 401 #[.val (.int p1), .val (.int p2), .val (.int p3), .val (.int p4), .val (.int p5), .val (.int p6), .val (.int (1 : Int32)), .val (.ref bS), .val (.ref bD), .val (.ref bP), .val (.ref bI), .val (.ref bJ), .val (.ref b1), .val (.ref r1), .unset] [(.int (0 : Int32)), (.ref bI)])) _
      refine X165.iaload hx (j := (0 : Int32)) (v := (.int (0 : Int32))) Ao171.1 (State.isArrayOf_alike hZ.alike Ao171.2.1) Ao171.2.2 (own_ld So171 Ho171 (j := (0 : Int32)) (i := 0) (by decide) rfl (by decide) (v := (.int (0 : Int32))) rfl).1 (own_ld So171 Ho171 (j := (0 : Int32)) (i := 0) (by decide) rfl (by decide) (v := (.int (0 : Int32))) rfl).2 (g := (mkF m 401 #[.val (.int p1), .val (.int p2), .val (.int p3), .val (.int p4), .val (.int p5), .val (.int p6), .val (.int (1 : Int32)), .val (.ref bS), .val (.ref bD), .val (.ref bP), .val (.ref bI), .val (.ref bJ), .val (.ref b1), .val (.ref r1), .unset] [(.int (0 : Int32)), (.ref bI)])) rfl rfl (hb hby at_401) _ ?_
      show Steps p.tables e below (T165.setTop (mkF m 402 #[.val (.int p1), .val (.int p2), .val (.int p3), .val (.int p4), .val (.int p5), .val (.int p6), .val (.int (1 : Int32)), .val (.ref bS), .val (.ref bD), .val (.ref bP), .val (.ref bI), .val (.ref bJ), .val (.ref b1), .val (.ref r1), .unset] [(.int (0 : Int32))])) _
      refine XS.iconst X165.here hx rfl (hb hby at_402) ?_
      show Steps p.tables e below (T165.setTop (mkF m 403 #[.val (.int p1), .val (.int p2), .val (.int p3), .val (.int p4), .val (.int p5), .val (.int p6), .val (.int (1 : Int32)), .val (.ref bS), .val (.ref bD), .val (.ref bP), .val (.ref bI), .val (.ref bJ), .val (.ref b1), .val (.ref r1), .unset] [(.int (1 : Int32)), (.int (0 : Int32))])) _
      refine XS.iadd X165.here hx rfl (hb hby at_403) rfl ?_
      show Steps p.tables e below (T165.setTop (mkF m 404 #[.val (.int p1), .val (.int p2), .val (.int p3), .val (.int p4), .val (.int p5), .val (.int p6), .val (.int (1 : Int32)), .val (.ref bS), .val (.ref bD), .val (.ref bP), .val (.ref bI), .val (.ref bJ), .val (.ref b1), .val (.ref r1), .unset] [(.int ((0 : Int32) + (1 : Int32)))])) _
      refine XS.istore X165.here hx rfl (hb hby at_404) rfl (l' := #[.val (.int p1), .val (.int p2), .val (.int p3), .val (.int p4), .val (.int p5), .val (.int p6), .val (.int (1 : Int32)), .val (.ref bS), .val (.ref bD), .val (.ref bP), .val (.ref bI), .val (.ref bJ), .val (.ref b1), .val (.ref r1), .val (.int ((0 : Int32) + (1 : Int32)))]) rfl ?_
      show Steps p.tables e below (T165.setTop (mkF m 406 #[.val (.int p1), .val (.int p2), .val (.int p3), .val (.int p4), .val (.int p5), .val (.int p6), .val (.int (1 : Int32)), .val (.ref bS), .val (.ref bD), .val (.ref bP), .val (.ref bI), .val (.ref bJ), .val (.ref b1), .val (.ref r1), .val (.int ((0 : Int32) + (1 : Int32)))] [])) _
      refine XS.aload X165.here hx rfl (hb hby at_406) rfl rfl ?_
      exact kT)
    obtain ⟨cI175, kI175, q175a, q175b, q175c⟩ := isOf hZ rfl BP.1.2.2.2
    have pre176 : ∀ t, Steps p.tables e below (T165.setTop (mkF m 408 #[.val (.int p1), .val (.int p2), .val (.int p3), .val (.int p4), .val (.int p5), .val (.int p6), .val (.int (1 : Int32)), .val (.ref bS), .val (.ref bD), .val (.ref bP), .val (.ref bI), .val (.ref bJ), .val (.ref b1), .val (.ref r1), .val (.int ((0 : Int32) + (1 : Int32)))] [(.ref r1)])) t → Steps p.tables e below (s₁.setTop (entryFrame m #[(.int p1), (.int p2), (.int p3), (.int p4), (.int p5), (.int p6)] maxLocals)) t := fun t kT => pre174 t (by
      exact kT)
    obtain ⟨_, _, ⟨T177, L177, k177, n177⟩, -, X177, ⟨Lc177, hQ177, l177, y177, z177⟩, st177⟩ := X165.virtualBack hx (y := (⟨"com/example/esteem/esteem/index/Postings", "docFreq", "()I"⟩ : MethodName)) (z := (⟨"com/example/esteem/esteem/index/Postings", "docFreq", "()I"⟩ : MethodName)) hown (mvT hZ (hw _ (List.mem_of_getElem? (i := 54) rfl))) (mvT hZ (hw _ (List.mem_of_getElem? (i := 55) rfl))) (notFace_of_selects (args := #[]) (mvT hZ (hw _ (List.mem_of_getElem? (i := 57) rfl)))) (mvT hZ (hw _ (List.mem_of_getElem? (i := 57) rfl))) (mvT hZ (hw _ (List.mem_of_getElem? (i := 56) rfl))) (by decide) (backOf (W := 0) (rmDF l Z a0 hw [] r1 xd xs xp 1 (0 + 1) df1 sf1 pf1 T165.heap nB sz165 BP (by decide) (by decide)) hZ (hw _ (List.mem_of_getElem? (i := 58) rfl)) (hw _ (List.mem_of_getElem? (i := 27) rfl)) (by decide) (by decide)) q175a q175c (g := (mkF m 408 #[.val (.int p1), .val (.int p2), .val (.int p3), .val (.int p4), .val (.int p5), .val (.int p6), .val (.int (1 : Int32)), .val (.ref bS), .val (.ref bD), .val (.ref bP), .val (.ref bI), .val (.ref bJ), .val (.ref b1), .val (.ref r1), .val (.int ((0 : Int32) + (1 : Int32)))] [(.ref r1)])) rfl (by rw [hml]; rfl) (Steps.refl _) (argsL := []) (rest := []) (lenOf pd___I rfl) rfl (by show 2 * 0 + _ ≤ _; exact Nat.le_of_eq rfl) (hb hby at_408) (fun _ _ => ⟨rfl, rfl, (by decide : 16 + 0 ≤ _), (by decide : 50 + 0 ≤ _)⟩)
    dsimp only [Pt.U, Pt.locs, Pt.cells, Pt.slots] at X177 l177 y177 z177 st177 hQ177
    have X177 := own_st X177 (y177.trans (show _ = 16 from rfl)) (z177.trans (show _ = 50 from rfl))
    obtain ⟨rfl, N177q, edf1⟩ := hQ177
    have N177 := own_fr l177 N165 (own_frm hn0B N177q)
    have pre178 : ∀ t, Steps p.tables e below (T177.setTop (mkF m 411 #[.val (.int p1), .val (.int p2), .val (.int p3), .val (.int p4), .val (.int p5), .val (.int p6), .val (.int (1 : Int32)), .val (.ref bS), .val (.ref bD), .val (.ref bP), .val (.ref bI), .val (.ref bJ), .val (.ref b1), .val (.ref r1), .val (.int ((0 : Int32) + (1 : Int32)))] [(.int (Int32.ofNat 1))])) t → Steps p.tables e below (s₁.setTop (entryFrame m #[(.int p1), (.int p2), (.int p3), (.int p4), (.int p5), (.int p6)] maxLocals)) t := fun t kT => pre176 t (st177.trans kT)
    have pre179 : ∀ t, Steps p.tables e below (T177.setTop (mkF m 418 #[.val (.int p1), .val (.int p2), .val (.int p3), .val (.int p4), .val (.int p5), .val (.int p6), .val (.int (1 : Int32)), .val (.ref bS), .val (.ref bD), .val (.ref bP), .val (.ref bI), .val (.ref bJ), .val (.ref b1), .val (.ref r1), .val (.int ((0 : Int32) + (1 : Int32)))] [])) t → Steps p.tables e below (s₁.setTop (entryFrame m #[(.int p1), (.int p2), (.int p3), (.int p4), (.int p5), (.int p6)] maxLocals)) t := fun t kT => pre178 t (by
      show Steps p.tables e below (T177.setTop (mkF m 411 #[.val (.int p1), .val (.int p2), .val (.int p3), .val (.int p4), .val (.int p5), .val (.int p6), .val (.int (1 : Int32)), .val (.ref bS), .val (.ref bD), .val (.ref bP), .val (.ref bI), .val (.ref bJ), .val (.ref b1), .val (.ref r1), .val (.int ((0 : Int32) + (1 : Int32)))] [(.int (Int32.ofNat 1))])) _
      refine XS.iload X177.here hx rfl (hb hby at_411) rfl ?_
      show Steps p.tables e below (T177.setTop (mkF m 413 #[.val (.int p1), .val (.int p2), .val (.int p3), .val (.int p4), .val (.int p5), .val (.int p6), .val (.int (1 : Int32)), .val (.ref bS), .val (.ref bD), .val (.ref bP), .val (.ref bI), .val (.ref bJ), .val (.ref b1), .val (.ref r1), .val (.int ((0 : Int32) + (1 : Int32)))] [(.int ((0 : Int32) + (1 : Int32))), (.int (Int32.ofNat 1))])) _
      refine XS.icmpYes X177.here hx rfl (pc0 := 413) (pc' := 418) rfl (hb hby at_413) rfl (teq (by decide)).1 (by decide) (by decide) ?_
      exact kT)
    obtain ⟨co180, ⟨Ao180, Ko180⟩, So180, Ho180⟩ := id V_bS_e165
    obtain ⟨co181, ⟨Ao181, Ko181⟩, So181, Ho181⟩ := id V_bD_e165
    obtain ⟨co182, ⟨Ao182, Ko182⟩, So182, Ho182⟩ := id V_bP_e165
    obtain ⟨co183, ⟨Ao183, Ko183⟩, So183, Ho183⟩ := id V_bI_e165
    obtain ⟨co184, ⟨Ao184, Ko184⟩, So184, Ho184⟩ := id V_bJ_e165
    have pre185 : ∀ t, Steps p.tables e below (T177.setTop (mkF m 460 #[.val (.int p1), .val (.int p2), .val (.int p3), .val (.int p4), .val (.int p5), .val (.int p6), .val (.int (1 : Int32)), .val (.ref bS), .val (.ref bD), .val (.ref bP), .val (.ref bI), .val (.ref bJ), .val (.ref b1), .val (.ref r1), .val (.int ((0 : Int32) + (1 : Int32)))] [(.int qA), (.int dA), (.int (0 : Int32)), (.int (0 : Int32)), (.int (1 : Int32)), (.int (1 : Int32)), (.ref r1)])) t → Steps p.tables e below (s₁.setTop (entryFrame m #[(.int p1), (.int p2), (.int p3), (.int p4), (.int p5), (.int p6)] maxLocals)) t := fun t kT => pre179 t (by
      show Steps p.tables e below (T177.setTop (mkF m 418 #[.val (.int p1), .val (.int p2), .val (.int p3), .val (.int p4), .val (.int p5), .val (.int p6), .val (.int (1 : Int32)), .val (.ref bS), .val (.ref bD), .val (.ref bP), .val (.ref bI), .val (.ref bJ), .val (.ref b1), .val (.ref r1), .val (.int ((0 : Int32) + (1 : Int32)))] [])) _
      refine XS.iload X177.here hx rfl (hb hby at_418) rfl ?_
      show Steps p.tables e below (T177.setTop (mkF m 420 #[.val (.int p1), .val (.int p2), .val (.int p3), .val (.int p4), .val (.int p5), .val (.int p6), .val (.int (1 : Int32)), .val (.ref bS), .val (.ref bD), .val (.ref bP), .val (.ref bI), .val (.ref bJ), .val (.ref b1), .val (.ref r1), .val (.int ((0 : Int32) + (1 : Int32)))] [(.int (1 : Int32))])) _
      refine XS.ifNo X177.here hx rfl (hb hby at_420) rfl ((if0 _ _).trans (tlt (by decide : (0 : Int32) < (1 : Int32))).2.2.2) ?_
      show Steps p.tables e below (T177.setTop (mkF m 423 #[.val (.int p1), .val (.int p2), .val (.int p3), .val (.int p4), .val (.int p5), .val (.int p6), .val (.int (1 : Int32)), .val (.ref bS), .val (.ref bD), .val (.ref bP), .val (.ref bI), .val (.ref bJ), .val (.ref b1), .val (.ref r1), .val (.int ((0 : Int32) + (1 : Int32)))] [])) _
      refine XS.aload X177.here hx rfl (hb hby at_423) rfl rfl ?_
      show Steps p.tables e below (T177.setTop (mkF m 425 #[.val (.int p1), .val (.int p2), .val (.int p3), .val (.int p4), .val (.int p5), .val (.int p6), .val (.int (1 : Int32)), .val (.ref bS), .val (.ref bD), .val (.ref bP), .val (.ref bI), .val (.ref bJ), .val (.ref b1), .val (.ref r1), .val (.int ((0 : Int32) + (1 : Int32)))] [(.ref r1)])) _
      refine XS.iconst X177.here hx rfl (hb hby at_425) ?_
      show Steps p.tables e below (T177.setTop (mkF m 426 #[.val (.int p1), .val (.int p2), .val (.int p3), .val (.int p4), .val (.int p5), .val (.int p6), .val (.int (1 : Int32)), .val (.ref bS), .val (.ref bD), .val (.ref bP), .val (.ref bI), .val (.ref bJ), .val (.ref b1), .val (.ref r1), .val (.int ((0 : Int32) + (1 : Int32)))] [(.int (1 : Int32)), (.ref r1)])) _
      refine XS.iload X177.here hx rfl (hb hby at_426) rfl ?_
      show Steps p.tables e below (T177.setTop (mkF m 428 #[.val (.int p1), .val (.int p2), .val (.int p3), .val (.int p4), .val (.int p5), .val (.int p6), .val (.int (1 : Int32)), .val (.ref bS), .val (.ref bD), .val (.ref bP), .val (.ref bI), .val (.ref bJ), .val (.ref b1), .val (.ref r1), .val (.int ((0 : Int32) + (1 : Int32)))] [(.int (1 : Int32)), (.int (1 : Int32)), (.ref r1)])) _
      refine XS.iconst X177.here hx rfl (hb hby at_428) ?_
      show Steps p.tables e below (T177.setTop (mkF m 429 #[.val (.int p1), .val (.int p2), .val (.int p3), .val (.int p4), .val (.int p5), .val (.int p6), .val (.int (1 : Int32)), .val (.ref bS), .val (.ref bD), .val (.ref bP), .val (.ref bI), .val (.ref bJ), .val (.ref b1), .val (.ref r1), .val (.int ((0 : Int32) + (1 : Int32)))] [(.int (1 : Int32)), (.int (1 : Int32)), (.int (1 : Int32)), (.ref r1)])) _
      refine XS.icmpYes X177.here hx rfl (pc0 := 429) (pc' := 439) rfl (hb hby at_429) rfl (teq (by decide : (1 : Int32) = (1 : Int32))).1 (by decide) (by decide) ?_
      show Steps p.tables e below (T177.setTop (mkF m 439 #[.val (.int p1), .val (.int p2), .val (.int p3), .val (.int p4), .val (.int p5), .val (.int p6), .val (.int (1 : Int32)), .val (.ref bS), .val (.ref bD), .val (.ref bP), .val (.ref bI), .val (.ref bJ), .val (.ref b1), .val (.ref r1), .val (.int ((0 : Int32) + (1 : Int32)))] [(.int (1 : Int32)), (.ref r1)])) _
      refine XS.iconst X177.here hx rfl (hb hby at_439) ?_
      show Steps p.tables e below (T177.setTop (mkF m 440 #[.val (.int p1), .val (.int p2), .val (.int p3), .val (.int p4), .val (.int p5), .val (.int p6), .val (.int (1 : Int32)), .val (.ref bS), .val (.ref bD), .val (.ref bP), .val (.ref bI), .val (.ref bJ), .val (.ref b1), .val (.ref r1), .val (.int ((0 : Int32) + (1 : Int32)))] [(.int (1 : Int32)), (.int (1 : Int32)), (.ref r1)])) _
      refine XS.goto X177.here hx rfl (pc0 := 440) (pc' := 444) rfl (hb hby at_440) (by decide) (by decide) ?_
      show Steps p.tables e below (T177.setTop (mkF m 444 #[.val (.int p1), .val (.int p2), .val (.int p3), .val (.int p4), .val (.int p5), .val (.int p6), .val (.int (1 : Int32)), .val (.ref bS), .val (.ref bD), .val (.ref bP), .val (.ref bI), .val (.ref bJ), .val (.ref b1), .val (.ref r1), .val (.int ((0 : Int32) + (1 : Int32)))] [(.int (1 : Int32)), (.int (1 : Int32)), (.ref r1)])) _
      refine XS.aload X177.here hx rfl (hb hby at_444) rfl rfl ?_
      show Steps p.tables e below (T177.setTop (mkF m 446 #[.val (.int p1), .val (.int p2), .val (.int p3), .val (.int p4), .val (.int p5), .val (.int p6), .val (.int (1 : Int32)), .val (.ref bS), .val (.ref bD), .val (.ref bP), .val (.ref bI), .val (.ref bJ), .val (.ref b1), .val (.ref r1), .val (.int ((0 : Int32) + (1 : Int32)))] [(.ref bI), (.int (1 : Int32)), (.int (1 : Int32)), (.ref r1)])) _
      refine XS.iconst X177.here hx rfl (hb hby at_446) ?_
      show Steps p.tables e below (T177.setTop (mkF m 447 #[.val (.int p1), .val (.int p2), .val (.int p3), .val (.int p4), .val (.int p5), .val (.int p6), .val (.int (1 : Int32)), .val (.ref bS), .val (.ref bD), .val (.ref bP), .val (.ref bI), .val (.ref bJ), .val (.ref b1), .val (.ref r1), .val (.int ((0 : Int32) + (1 : Int32)))] [(.int (0 : Int32)), (.ref bI), (.int (1 : Int32)), (.int (1 : Int32)), (.ref r1)])) _
      refine X177.iaload hx (j := (0 : Int32)) (v := (.int (0 : Int32))) (by rw [edf1]; exact Ao183.1) (State.isArrayOf_alike hZ.alike Ao183.2.1) Ao183.2.2 (own_ld So183 Ho183 (j := (0 : Int32)) (i := 0) (by decide) rfl (by decide) (v := (.int (0 : Int32))) rfl).1 (own_ld So183 Ho183 (j := (0 : Int32)) (i := 0) (by decide) rfl (by decide) (v := (.int (0 : Int32))) rfl).2 (g := (mkF m 447 #[.val (.int p1), .val (.int p2), .val (.int p3), .val (.int p4), .val (.int p5), .val (.int p6), .val (.int (1 : Int32)), .val (.ref bS), .val (.ref bD), .val (.ref bP), .val (.ref bI), .val (.ref bJ), .val (.ref b1), .val (.ref r1), .val (.int ((0 : Int32) + (1 : Int32)))] [(.int (0 : Int32)), (.ref bI), (.int (1 : Int32)), (.int (1 : Int32)), (.ref r1)])) rfl rfl (hb hby at_447) _ ?_
      show Steps p.tables e below (T177.setTop (mkF m 448 #[.val (.int p1), .val (.int p2), .val (.int p3), .val (.int p4), .val (.int p5), .val (.int p6), .val (.int (1 : Int32)), .val (.ref bS), .val (.ref bD), .val (.ref bP), .val (.ref bI), .val (.ref bJ), .val (.ref b1), .val (.ref r1), .val (.int ((0 : Int32) + (1 : Int32)))] [(.int (0 : Int32)), (.int (1 : Int32)), (.int (1 : Int32)), (.ref r1)])) _
      refine XS.aload X177.here hx rfl (hb hby at_448) rfl rfl ?_
      show Steps p.tables e below (T177.setTop (mkF m 450 #[.val (.int p1), .val (.int p2), .val (.int p3), .val (.int p4), .val (.int p5), .val (.int p6), .val (.int (1 : Int32)), .val (.ref bS), .val (.ref bD), .val (.ref bP), .val (.ref bI), .val (.ref bJ), .val (.ref b1), .val (.ref r1), .val (.int ((0 : Int32) + (1 : Int32)))] [(.ref bJ), (.int (0 : Int32)), (.int (1 : Int32)), (.int (1 : Int32)), (.ref r1)])) _
      refine XS.iconst X177.here hx rfl (hb hby at_450) ?_
      show Steps p.tables e below (T177.setTop (mkF m 451 #[.val (.int p1), .val (.int p2), .val (.int p3), .val (.int p4), .val (.int p5), .val (.int p6), .val (.int (1 : Int32)), .val (.ref bS), .val (.ref bD), .val (.ref bP), .val (.ref bI), .val (.ref bJ), .val (.ref b1), .val (.ref r1), .val (.int ((0 : Int32) + (1 : Int32)))] [(.int (0 : Int32)), (.ref bJ), (.int (0 : Int32)), (.int (1 : Int32)), (.int (1 : Int32)), (.ref r1)])) _
      refine X177.iaload hx (j := (0 : Int32)) (v := (.int (0 : Int32))) (by rw [edf1]; exact Ao184.1) (State.isArrayOf_alike hZ.alike Ao184.2.1) Ao184.2.2 (own_ld So184 Ho184 (j := (0 : Int32)) (i := 0) (by decide) rfl (by decide) (v := (.int (0 : Int32))) rfl).1 (own_ld So184 Ho184 (j := (0 : Int32)) (i := 0) (by decide) rfl (by decide) (v := (.int (0 : Int32))) rfl).2 (g := (mkF m 451 #[.val (.int p1), .val (.int p2), .val (.int p3), .val (.int p4), .val (.int p5), .val (.int p6), .val (.int (1 : Int32)), .val (.ref bS), .val (.ref bD), .val (.ref bP), .val (.ref bI), .val (.ref bJ), .val (.ref b1), .val (.ref r1), .val (.int ((0 : Int32) + (1 : Int32)))] [(.int (0 : Int32)), (.ref bJ), (.int (0 : Int32)), (.int (1 : Int32)), (.int (1 : Int32)), (.ref r1)])) rfl rfl (hb hby at_451) _ ?_
      show Steps p.tables e below (T177.setTop (mkF m 452 #[.val (.int p1), .val (.int p2), .val (.int p3), .val (.int p4), .val (.int p5), .val (.int p6), .val (.int (1 : Int32)), .val (.ref bS), .val (.ref bD), .val (.ref bP), .val (.ref bI), .val (.ref bJ), .val (.ref b1), .val (.ref r1), .val (.int ((0 : Int32) + (1 : Int32)))] [(.int (0 : Int32)), (.int (0 : Int32)), (.int (1 : Int32)), (.int (1 : Int32)), (.ref r1)])) _
      refine XS.aload X177.here hx rfl (hb hby at_452) rfl rfl ?_
      show Steps p.tables e below (T177.setTop (mkF m 454 #[.val (.int p1), .val (.int p2), .val (.int p3), .val (.int p4), .val (.int p5), .val (.int p6), .val (.int (1 : Int32)), .val (.ref bS), .val (.ref bD), .val (.ref bP), .val (.ref bI), .val (.ref bJ), .val (.ref b1), .val (.ref r1), .val (.int ((0 : Int32) + (1 : Int32)))] [(.ref bD), (.int (0 : Int32)), (.int (0 : Int32)), (.int (1 : Int32)), (.int (1 : Int32)), (.ref r1)])) _
      refine XS.iconst X177.here hx rfl (hb hby at_454) ?_
      show Steps p.tables e below (T177.setTop (mkF m 455 #[.val (.int p1), .val (.int p2), .val (.int p3), .val (.int p4), .val (.int p5), .val (.int p6), .val (.int (1 : Int32)), .val (.ref bS), .val (.ref bD), .val (.ref bP), .val (.ref bI), .val (.ref bJ), .val (.ref b1), .val (.ref r1), .val (.int ((0 : Int32) + (1 : Int32)))] [(.int (0 : Int32)), (.ref bD), (.int (0 : Int32)), (.int (0 : Int32)), (.int (1 : Int32)), (.int (1 : Int32)), (.ref r1)])) _
      refine X177.iaload hx (j := (0 : Int32)) (v := (.int dA)) (by rw [edf1]; exact Ao181.1) (State.isArrayOf_alike hZ.alike Ao181.2.1) Ao181.2.2 (own_ld So181 Ho181 (j := (0 : Int32)) (i := 0) (by decide) rfl (by decide) (v := (.int dA)) rfl).1 (own_ld So181 Ho181 (j := (0 : Int32)) (i := 0) (by decide) rfl (by decide) (v := (.int dA)) rfl).2 (g := (mkF m 455 #[.val (.int p1), .val (.int p2), .val (.int p3), .val (.int p4), .val (.int p5), .val (.int p6), .val (.int (1 : Int32)), .val (.ref bS), .val (.ref bD), .val (.ref bP), .val (.ref bI), .val (.ref bJ), .val (.ref b1), .val (.ref r1), .val (.int ((0 : Int32) + (1 : Int32)))] [(.int (0 : Int32)), (.ref bD), (.int (0 : Int32)), (.int (0 : Int32)), (.int (1 : Int32)), (.int (1 : Int32)), (.ref r1)])) rfl rfl (hb hby at_455) _ ?_
      show Steps p.tables e below (T177.setTop (mkF m 456 #[.val (.int p1), .val (.int p2), .val (.int p3), .val (.int p4), .val (.int p5), .val (.int p6), .val (.int (1 : Int32)), .val (.ref bS), .val (.ref bD), .val (.ref bP), .val (.ref bI), .val (.ref bJ), .val (.ref b1), .val (.ref r1), .val (.int ((0 : Int32) + (1 : Int32)))] [(.int dA), (.int (0 : Int32)), (.int (0 : Int32)), (.int (1 : Int32)), (.int (1 : Int32)), (.ref r1)])) _
      refine XS.aload X177.here hx rfl (hb hby at_456) rfl rfl ?_
      show Steps p.tables e below (T177.setTop (mkF m 458 #[.val (.int p1), .val (.int p2), .val (.int p3), .val (.int p4), .val (.int p5), .val (.int p6), .val (.int (1 : Int32)), .val (.ref bS), .val (.ref bD), .val (.ref bP), .val (.ref bI), .val (.ref bJ), .val (.ref b1), .val (.ref r1), .val (.int ((0 : Int32) + (1 : Int32)))] [(.ref bP), (.int dA), (.int (0 : Int32)), (.int (0 : Int32)), (.int (1 : Int32)), (.int (1 : Int32)), (.ref r1)])) _
      refine XS.iconst X177.here hx rfl (hb hby at_458) ?_
      show Steps p.tables e below (T177.setTop (mkF m 459 #[.val (.int p1), .val (.int p2), .val (.int p3), .val (.int p4), .val (.int p5), .val (.int p6), .val (.int (1 : Int32)), .val (.ref bS), .val (.ref bD), .val (.ref bP), .val (.ref bI), .val (.ref bJ), .val (.ref b1), .val (.ref r1), .val (.int ((0 : Int32) + (1 : Int32)))] [(.int (0 : Int32)), (.ref bP), (.int dA), (.int (0 : Int32)), (.int (0 : Int32)), (.int (1 : Int32)), (.int (1 : Int32)), (.ref r1)])) _
      refine X177.iaload hx (j := (0 : Int32)) (v := (.int qA)) (by rw [edf1]; exact Ao182.1) (State.isArrayOf_alike hZ.alike Ao182.2.1) Ao182.2.2 (own_ld So182 Ho182 (j := (0 : Int32)) (i := 0) (by decide) rfl (by decide) (v := (.int qA)) rfl).1 (own_ld So182 Ho182 (j := (0 : Int32)) (i := 0) (by decide) rfl (by decide) (v := (.int qA)) rfl).2 (g := (mkF m 459 #[.val (.int p1), .val (.int p2), .val (.int p3), .val (.int p4), .val (.int p5), .val (.int p6), .val (.int (1 : Int32)), .val (.ref bS), .val (.ref bD), .val (.ref bP), .val (.ref bI), .val (.ref bJ), .val (.ref b1), .val (.ref r1), .val (.int ((0 : Int32) + (1 : Int32)))] [(.int (0 : Int32)), (.ref bP), (.int dA), (.int (0 : Int32)), (.int (0 : Int32)), (.int (1 : Int32)), (.int (1 : Int32)), (.ref r1)])) rfl rfl (hb hby at_459) _ ?_
      exact kT)
    obtain ⟨_, _, ⟨T186, L186, k186, n186⟩, -, X186, ⟨Lc186, hQ186, l186, y186, z186⟩, st186⟩ := Jvm.LawKit.callS X177 hx (y := (⟨"com/example/esteem/esteem/index/PostingsBuildPinLaw", "check", "(Lcom/example/esteem/esteem/index/Postings;ZZIIII)Z"⟩ : MethodName)) hown (mvT hZ (hw _ (List.mem_of_getElem? (i := 73) rfl))) (mvT hZ (hw _ (List.mem_of_getElem? (i := 74) rfl))) (mvT hZ (hw _ (List.mem_of_getElem? (i := 75) rfl))) (mvT hZ (hw _ (List.mem_of_getElem? (i := 76) rfl))) (by decide) (backOf (W := 0) (rmCK l Z a0 hw [] r1 (1 : Int32) (1 : Int32) dA qA 0 0 0 xd xs xp 1 (0 + 1) df1 sf1 pf1 T165.heap nB sz165 BP (by decide) (by decide) (by decide) (by decide) x3 (fun _ => x2) p10 (fun _ => xf)) hZ (hw _ (List.mem_of_getElem? (i := 76) rfl)) (hw _ (List.mem_of_getElem? (i := 75) rfl)) (by decide) (by decide)) (g := (mkF m 460 #[.val (.int p1), .val (.int p2), .val (.int p3), .val (.int p4), .val (.int p5), .val (.int p6), .val (.int (1 : Int32)), .val (.ref bS), .val (.ref bD), .val (.ref bP), .val (.ref bI), .val (.ref bJ), .val (.ref b1), .val (.ref r1), .val (.int ((0 : Int32) + (1 : Int32)))] [(.int qA), (.int dA), (.int (0 : Int32)), (.int (0 : Int32)), (.int (1 : Int32)), (.int (1 : Int32)), (.ref r1)])) rfl (by rw [hml]; rfl) (argsL := [(.ref r1), (.int (1 : Int32)), (.int (1 : Int32)), (.int (0 : Int32)), (.int (0 : Int32)), (.int dA), (.int qA)]) (rest := []) (lenOf pd__Lcom_example_esteem_esteem_index_Postings_ZZIIII_Z rfl) rfl (by show 2 * 0 + _ ≤ _; exact Nat.le_of_eq rfl) (hb hby at_460) (fun _ _ => ⟨rfl, edf1, (by decide : 16 + 0 ≤ _), (by decide : 50 + 0 ≤ _)⟩)
    dsimp only [Pt.U, Pt.locs, Pt.cells, Pt.slots] at X186 l186 y186 z186 st186 hQ186
    have X186 := own_st X186 (y186.trans (show _ = 16 from rfl)) (z186.trans (show _ = 50 from rfl))
    obtain ⟨rfl, N186q, ec1_1⟩ := hQ186
    have N186 := own_fr l186 N177 (own_frm hn0B N186q)
    have pre187 : ∀ t, Steps p.tables e below (T186.setTop (mkF m 463 #[.val (.int p1), .val (.int p2), .val (.int p3), .val (.int p4), .val (.int p5), .val (.int p6), .val (.int (1 : Int32)), .val (.ref bS), .val (.ref bD), .val (.ref bP), .val (.ref bI), .val (.ref bJ), .val (.ref b1), .val (.ref r1), .val (.int ((0 : Int32) + (1 : Int32)))] [(.int (1 : Int32))])) t → Steps p.tables e below (s₁.setTop (entryFrame m #[(.int p1), (.int p2), (.int p3), (.int p4), (.int p5), (.int p6)] maxLocals)) t := fun t kT => pre185 t (st186 t kT)
    have pre188 : ∀ t, Steps p.tables e below (T186.setTop (mkF m 468 #[.val (.int p1), .val (.int p2), .val (.int p3), .val (.int p4), .val (.int p5), .val (.int p6), .val (.int (1 : Int32)), .val (.ref bS), .val (.ref bD), .val (.ref bP), .val (.ref bI), .val (.ref bJ), .val (.ref b1), .val (.ref r1), .val (.int ((0 : Int32) + (1 : Int32)))] [])) t → Steps p.tables e below (s₁.setTop (entryFrame m #[(.int p1), (.int p2), (.int p3), (.int p4), (.int p5), (.int p6)] maxLocals)) t := fun t kT => pre187 t (by
      show Steps p.tables e below (T186.setTop (mkF m 463 #[.val (.int p1), .val (.int p2), .val (.int p3), .val (.int p4), .val (.int p5), .val (.int p6), .val (.int (1 : Int32)), .val (.ref bS), .val (.ref bD), .val (.ref bP), .val (.ref bI), .val (.ref bJ), .val (.ref b1), .val (.ref r1), .val (.int ((0 : Int32) + (1 : Int32)))] [(.int (1 : Int32))])) _
      refine XS.ifYes X186.here hx rfl (pc0 := 463) (pc' := 468) rfl (hb hby at_463) rfl ((if0 _ _).trans (feq (by decide : ¬ ((1 : Int32) = (0 : Int32)))).2) (by decide) (by decide) ?_
      exact kT)
    obtain ⟨co189, ⟨Ao189, Ko189⟩, So189, Ho189⟩ := id V_bS_e165
    obtain ⟨co190, ⟨Ao190, Ko190⟩, So190, Ho190⟩ := id V_bD_e165
    obtain ⟨co191, ⟨Ao191, Ko191⟩, So191, Ho191⟩ := id V_bP_e165
    obtain ⟨co192, ⟨Ao192, Ko192⟩, So192, Ho192⟩ := id V_bI_e165
    obtain ⟨co193, ⟨Ao193, Ko193⟩, So193, Ho193⟩ := id V_bJ_e165
    have pre194 : ∀ t, Steps p.tables e below (T186.setTop (mkF m 576 #[.val (.int p1), .val (.int p2), .val (.int p3), .val (.int p4), .val (.int p5), .val (.int p6), .val (.int (1 : Int32)), .val (.ref bS), .val (.ref bD), .val (.ref bP), .val (.ref bI), .val (.ref bJ), .val (.ref b1), .val (.ref r1), .val (.int ((0 : Int32) + (1 : Int32)))] [(.int (1 : Int32))])) t → Steps p.tables e below (s₁.setTop (entryFrame m #[(.int p1), (.int p2), (.int p3), (.int p4), (.int p5), (.int p6)] maxLocals)) t := fun t kT => pre188 t (by
      show Steps p.tables e below (T186.setTop (mkF m 468 #[.val (.int p1), .val (.int p2), .val (.int p3), .val (.int p4), .val (.int p5), .val (.int p6), .val (.int (1 : Int32)), .val (.ref bS), .val (.ref bD), .val (.ref bP), .val (.ref bI), .val (.ref bJ), .val (.ref b1), .val (.ref r1), .val (.int ((0 : Int32) + (1 : Int32)))] [])) _
      refine XS.iload X186.here hx rfl (hb hby at_468) rfl ?_
      show Steps p.tables e below (T186.setTop (mkF m 470 #[.val (.int p1), .val (.int p2), .val (.int p3), .val (.int p4), .val (.int p5), .val (.int p6), .val (.int (1 : Int32)), .val (.ref bS), .val (.ref bD), .val (.ref bP), .val (.ref bI), .val (.ref bJ), .val (.ref b1), .val (.ref r1), .val (.int ((0 : Int32) + (1 : Int32)))] [(.int (1 : Int32))])) _
      refine XS.iconst X186.here hx rfl (hb hby at_470) ?_
      show Steps p.tables e below (T186.setTop (mkF m 471 #[.val (.int p1), .val (.int p2), .val (.int p3), .val (.int p4), .val (.int p5), .val (.int p6), .val (.int (1 : Int32)), .val (.ref bS), .val (.ref bD), .val (.ref bP), .val (.ref bI), .val (.ref bJ), .val (.ref b1), .val (.ref r1), .val (.int ((0 : Int32) + (1 : Int32)))] [(.int (1 : Int32)), (.int (1 : Int32))])) _
      refine XS.icmpYes X186.here hx rfl (pc0 := 471) (pc' := 530) rfl (hb hby at_471) rfl (flt (by decide : ¬ ((1 : Int32) < (1 : Int32)))).2.2.2 (by decide) (by decide) ?_
      show Steps p.tables e below (T186.setTop (mkF m 530 #[.val (.int p1), .val (.int p2), .val (.int p3), .val (.int p4), .val (.int p5), .val (.int p6), .val (.int (1 : Int32)), .val (.ref bS), .val (.ref bD), .val (.ref bP), .val (.ref bI), .val (.ref bJ), .val (.ref b1), .val (.ref r1), .val (.int ((0 : Int32) + (1 : Int32)))] [])) _
      refine XS.iload X186.here hx rfl (hb hby at_530) rfl ?_
      show Steps p.tables e below (T186.setTop (mkF m 532 #[.val (.int p1), .val (.int p2), .val (.int p3), .val (.int p4), .val (.int p5), .val (.int p6), .val (.int (1 : Int32)), .val (.ref bS), .val (.ref bD), .val (.ref bP), .val (.ref bI), .val (.ref bJ), .val (.ref b1), .val (.ref r1), .val (.int ((0 : Int32) + (1 : Int32)))] [(.int (1 : Int32))])) _
      refine XS.iconst X186.here hx rfl (hb hby at_532) ?_
      show Steps p.tables e below (T186.setTop (mkF m 533 #[.val (.int p1), .val (.int p2), .val (.int p3), .val (.int p4), .val (.int p5), .val (.int p6), .val (.int (1 : Int32)), .val (.ref bS), .val (.ref bD), .val (.ref bP), .val (.ref bI), .val (.ref bJ), .val (.ref b1), .val (.ref r1), .val (.int ((0 : Int32) + (1 : Int32)))] [(.int (2 : Int32)), (.int (1 : Int32))])) _
      refine XS.icmpYes X186.here hx rfl (pc0 := 533) (pc' := 575) rfl (hb hby at_533) rfl (flt (by decide : ¬ ((2 : Int32) < (1 : Int32)))).2.2.2 (by decide) (by decide) ?_
      show Steps p.tables e below (T186.setTop (mkF m 575 #[.val (.int p1), .val (.int p2), .val (.int p3), .val (.int p4), .val (.int p5), .val (.int p6), .val (.int (1 : Int32)), .val (.ref bS), .val (.ref bD), .val (.ref bP), .val (.ref bI), .val (.ref bJ), .val (.ref b1), .val (.ref r1), .val (.int ((0 : Int32) + (1 : Int32)))] [])) _
      refine XS.iconst X186.here hx rfl (hb hby at_575) ?_
      exact kT)
    obtain ⟨fs, hr, hrun, hended, hW, hsame⟩ := X186.leave (v := some (.int (1 : Int32))) (fun h => by rw [Bd.returns] at h; cases h)
    refine ⟨_, _, pre194 _ ?_, hrun, hended, _, _, rfl, ?_, ⟨_, rfl⟩, hW, hsame.mono (by decide) (by decide)⟩
    · exact retN X186 hx (t := .boolean) Bd.returns (by simp) (hb hby at_576) hr
    · exact ⟨rfl, N186⟩
  · have pre195 : ∀ t, Steps p.tables e below (T128.setTop (mkF m 328 #[.val (.int p1), .val (.int p2), .val (.int p3), .val (.int p4), .val (.int p5), .val (.int p6), .val (.int (2 : Int32)), .val (.ref bS), .val (.ref bD), .val (.ref bP), .val (.ref bI), .val (.ref bJ), .val (.ref b1), .unset, .unset] [])) t → Steps p.tables e below (s₁.setTop (entryFrame m #[(.int p1), (.int p2), (.int p3), (.int p4), (.int p5), (.int p6)] maxLocals)) t := fun t kT => pre130 t (by
      show Steps p.tables e below (T128.setTop (mkF m 325 #[.val (.int p1), .val (.int p2), .val (.int p3), .val (.int p4), .val (.int p5), .val (.int p6), .val (.int (2 : Int32)), .val (.ref bS), .val (.ref bD), .val (.ref bP), .val (.ref bI), .val (.ref bJ), .val (.ref b1), .unset, .unset] [(.int (2 : Int32))])) _
      refine XS.ifNo X128.here hx rfl (hb hby at_325) rfl ((if0 _ _).trans (tlt (by decide : (0 : Int32) < (2 : Int32))).2.2.2) ?_
      exact kT)
    obtain ⟨co196, ⟨Ao196, Ko196⟩, So196, Ho196⟩ := id V_bD_e128
    obtain ⟨co197, ⟨Ao197, Ko197⟩, So197, Ho197⟩ := id V_bP_e128
    have pre198 : ∀ t, Steps p.tables e below (T128.setTop (mkF m 338 #[.val (.int p1), .val (.int p2), .val (.int p3), .val (.int p4), .val (.int p5), .val (.int p6), .val (.int (2 : Int32)), .val (.ref bS), .val (.ref bD), .val (.ref bP), .val (.ref bI), .val (.ref bJ), .val (.ref b1), .unset, .unset] [(.int qA), (.int dA), (.ref b1)])) t → Steps p.tables e below (s₁.setTop (entryFrame m #[(.int p1), (.int p2), (.int p3), (.int p4), (.int p5), (.int p6)] maxLocals)) t := fun t kT => pre195 t (by
      show Steps p.tables e below (T128.setTop (mkF m 328 #[.val (.int p1), .val (.int p2), .val (.int p3), .val (.int p4), .val (.int p5), .val (.int p6), .val (.int (2 : Int32)), .val (.ref bS), .val (.ref bD), .val (.ref bP), .val (.ref bI), .val (.ref bJ), .val (.ref b1), .unset, .unset] [])) _
      refine XS.aload X128.here hx rfl (hb hby at_328) rfl rfl ?_
      show Steps p.tables e below (T128.setTop (mkF m 330 #[.val (.int p1), .val (.int p2), .val (.int p3), .val (.int p4), .val (.int p5), .val (.int p6), .val (.int (2 : Int32)), .val (.ref bS), .val (.ref bD), .val (.ref bP), .val (.ref bI), .val (.ref bJ), .val (.ref b1), .unset, .unset] [(.ref b1)])) _
      refine XS.aload X128.here hx rfl (hb hby at_330) rfl rfl ?_
      show Steps p.tables e below (T128.setTop (mkF m 332 #[.val (.int p1), .val (.int p2), .val (.int p3), .val (.int p4), .val (.int p5), .val (.int p6), .val (.int (2 : Int32)), .val (.ref bS), .val (.ref bD), .val (.ref bP), .val (.ref bI), .val (.ref bJ), .val (.ref b1), .unset, .unset] [(.ref bD), (.ref b1)])) _
      refine XS.iconst X128.here hx rfl (hb hby at_332) ?_
      show Steps p.tables e below (T128.setTop (mkF m 333 #[.val (.int p1), .val (.int p2), .val (.int p3), .val (.int p4), .val (.int p5), .val (.int p6), .val (.int (2 : Int32)), .val (.ref bS), .val (.ref bD), .val (.ref bP), .val (.ref bI), .val (.ref bJ), .val (.ref b1), .unset, .unset] [(.int (0 : Int32)), (.ref bD), (.ref b1)])) _
      refine X128.iaload hx (j := (0 : Int32)) (v := (.int dA)) Ao196.1 (State.isArrayOf_alike hZ.alike Ao196.2.1) Ao196.2.2 (own_ld So196 Ho196 (j := (0 : Int32)) (i := 0) (by decide) rfl (by decide) (v := (.int dA)) rfl).1 (own_ld So196 Ho196 (j := (0 : Int32)) (i := 0) (by decide) rfl (by decide) (v := (.int dA)) rfl).2 (g := (mkF m 333 #[.val (.int p1), .val (.int p2), .val (.int p3), .val (.int p4), .val (.int p5), .val (.int p6), .val (.int (2 : Int32)), .val (.ref bS), .val (.ref bD), .val (.ref bP), .val (.ref bI), .val (.ref bJ), .val (.ref b1), .unset, .unset] [(.int (0 : Int32)), (.ref bD), (.ref b1)])) rfl rfl (hb hby at_333) _ ?_
      show Steps p.tables e below (T128.setTop (mkF m 334 #[.val (.int p1), .val (.int p2), .val (.int p3), .val (.int p4), .val (.int p5), .val (.int p6), .val (.int (2 : Int32)), .val (.ref bS), .val (.ref bD), .val (.ref bP), .val (.ref bI), .val (.ref bJ), .val (.ref b1), .unset, .unset] [(.int dA), (.ref b1)])) _
      refine XS.aload X128.here hx rfl (hb hby at_334) rfl rfl ?_
      show Steps p.tables e below (T128.setTop (mkF m 336 #[.val (.int p1), .val (.int p2), .val (.int p3), .val (.int p4), .val (.int p5), .val (.int p6), .val (.int (2 : Int32)), .val (.ref bS), .val (.ref bD), .val (.ref bP), .val (.ref bI), .val (.ref bJ), .val (.ref b1), .unset, .unset] [(.ref bP), (.int dA), (.ref b1)])) _
      refine XS.iconst X128.here hx rfl (hb hby at_336) ?_
      show Steps p.tables e below (T128.setTop (mkF m 337 #[.val (.int p1), .val (.int p2), .val (.int p3), .val (.int p4), .val (.int p5), .val (.int p6), .val (.int (2 : Int32)), .val (.ref bS), .val (.ref bD), .val (.ref bP), .val (.ref bI), .val (.ref bJ), .val (.ref b1), .unset, .unset] [(.int (0 : Int32)), (.ref bP), (.int dA), (.ref b1)])) _
      refine X128.iaload hx (j := (0 : Int32)) (v := (.int qA)) Ao197.1 (State.isArrayOf_alike hZ.alike Ao197.2.1) Ao197.2.2 (own_ld So197 Ho197 (j := (0 : Int32)) (i := 0) (by decide) rfl (by decide) (v := (.int qA)) rfl).1 (own_ld So197 Ho197 (j := (0 : Int32)) (i := 0) (by decide) rfl (by decide) (v := (.int qA)) rfl).2 (g := (mkF m 337 #[.val (.int p1), .val (.int p2), .val (.int p3), .val (.int p4), .val (.int p5), .val (.int p6), .val (.int (2 : Int32)), .val (.ref bS), .val (.ref bD), .val (.ref bP), .val (.ref bI), .val (.ref bJ), .val (.ref b1), .unset, .unset] [(.int (0 : Int32)), (.ref bP), (.int dA), (.ref b1)])) rfl rfl (hb hby at_337) _ ?_
      exact kT)
    obtain ⟨cI199, kI199, q199a, q199b, q199c⟩ := isOf hZ rfl B0.1.2.2.2.2.2
    have pre200 : ∀ t, Steps p.tables e below (T128.setTop (mkF m 338 #[.val (.int p1), .val (.int p2), .val (.int p3), .val (.int p4), .val (.int p5), .val (.int p6), .val (.int (2 : Int32)), .val (.ref bS), .val (.ref bD), .val (.ref bP), .val (.ref bI), .val (.ref bJ), .val (.ref b1), .unset, .unset] [(.int qA), (.int dA), (.ref b1)])) t → Steps p.tables e below (s₁.setTop (entryFrame m #[(.int p1), (.int p2), (.int p3), (.int p4), (.int p5), (.int p6)] maxLocals)) t := fun t kT => pre198 t (by
      exact kT)
    obtain ⟨_, _, ⟨T201, L201, k201, n201⟩, -, X201, ⟨Lc201, hQ201, l201, y201, z201⟩, st201⟩ := X128.virtualBack hx (y := (⟨"com/example/esteem/esteem/index/Postings$Builder", "add", "(II)V"⟩ : MethodName)) (z := (⟨"com/example/esteem/esteem/index/Postings$Builder", "add", "(II)V"⟩ : MethodName)) hown (mvT hZ (hw _ (List.mem_of_getElem? (i := 59) rfl))) (mvT hZ (hw _ (List.mem_of_getElem? (i := 60) rfl))) (notFace_of_selects (args := #[]) (mvT hZ (hw _ (List.mem_of_getElem? (i := 62) rfl)))) (mvT hZ (hw _ (List.mem_of_getElem? (i := 62) rfl))) (mvT hZ (hw _ (List.mem_of_getElem? (i := 61) rfl))) (by decide) (backOf (W := 0) (rmA l Z a0 hw [] b1 dA qA dd0 ds0 dp0 1 2 1 0 0 (fun _ => (0 : Int32)) (fun _ => (0 : Int32)) (fun _ => (0 : Int32)) T128.heap nB sz128 B0 (by decide) (by decide) (Or.inl rfl) (own_nlt (by show ¬ dA.toInt < -1; omega)) (own_nlt0 mQ.1) (fun z => absurd (congrArg Int32.toInt z) (by show ¬ dA.toInt = -1; omega))) hZ (hw _ (List.mem_of_getElem? (i := 63) rfl)) (hw _ (List.mem_of_getElem? (i := 7) rfl)) (by decide) (by decide)) q199a q199c (g := (mkF m 338 #[.val (.int p1), .val (.int p2), .val (.int p3), .val (.int p4), .val (.int p5), .val (.int p6), .val (.int (2 : Int32)), .val (.ref bS), .val (.ref bD), .val (.ref bP), .val (.ref bI), .val (.ref bJ), .val (.ref b1), .unset, .unset] [(.int qA), (.int dA), (.ref b1)])) rfl (by rw [hml]; rfl) (Steps.refl _) (argsL := [(.int dA), (.int qA)]) (rest := []) (lenOf pd__II_V rfl) rfl (by show 2 * 0 + _ ≤ _; exact Nat.le_of_eq rfl) (hb hby at_338) (fun _ _ => ⟨rfl, rfl, (by decide : 9 + 3 ≤ _), (by decide : 24 + 13 ≤ _)⟩)
    dsimp only [Pt.U, Pt.locs, Pt.cells, Pt.slots] at X201 l201 y201 z201 st201 hQ201
    have X201 := own_st X201 (y201.trans (show _ = 12 from rfl)) (z201.trans (show _ = 37 from rfl))
    obtain ⟨rfl, N201q, ky1, dd1, ds1, dp1, dl1, sl1, pl1, B1⟩ := hQ201
    have N201 := own_fr l201 N128 (own_frm hn0B N201q)
    have pre202 : ∀ t, Steps p.tables e below (T201.setTop (mkF m 341 #[.val (.int p1), .val (.int p2), .val (.int p3), .val (.int p4), .val (.int p5), .val (.int p6), .val (.int (2 : Int32)), .val (.ref bS), .val (.ref bD), .val (.ref bP), .val (.ref bI), .val (.ref bJ), .val (.ref b1), .unset, .unset] [])) t → Steps p.tables e below (s₁.setTop (entryFrame m #[(.int p1), (.int p2), (.int p3), (.int p4), (.int p5), (.int p6)] maxLocals)) t := fun t kT => pre200 t (st201.trans kT)
    have V_bS_e201 : own_Ar Z T201.heap bS .boolean 3 (own_upd (own_upd (own_upd (fun _ => (.int (0 : Int32))) 0 (.int (nar .boolean (0 : Int32)))) 1 (.int s1)) 2 (.int s2)) := V_bS_e128.keep ky1 (ninS ne_bS_b1 (ninS (Nat.ne_of_lt (Nat.lt_of_lt_of_le lt_bS B0.2.2.2.1.2.1)) (ninS (Nat.ne_of_lt (Nat.lt_of_lt_of_le lt_bS B0.2.2.2.1.2.2.1)) (ninS (Nat.ne_of_lt (Nat.lt_of_lt_of_le lt_bS B0.2.2.2.1.2.2.2)) nin0))))
    have V_bD_e201 : own_Ar Z T201.heap bD .int 3 (own_upd (own_upd (own_upd (fun _ => (.int (0 : Int32))) 0 (.int dA)) 1 (.int dB)) 2 (.int dC)) := V_bD_e128.keep ky1 (ninS ne_bD_b1 (ninS (Nat.ne_of_lt (Nat.lt_of_lt_of_le lt_bD B0.2.2.2.1.2.1)) (ninS (Nat.ne_of_lt (Nat.lt_of_lt_of_le lt_bD B0.2.2.2.1.2.2.1)) (ninS (Nat.ne_of_lt (Nat.lt_of_lt_of_le lt_bD B0.2.2.2.1.2.2.2)) nin0))))
    have V_bP_e201 : own_Ar Z T201.heap bP .int 3 (own_upd (own_upd (own_upd (fun _ => (.int (0 : Int32))) 0 (.int qA)) 1 (.int qB)) 2 (.int qC)) := V_bP_e128.keep ky1 (ninS ne_bP_b1 (ninS (Nat.ne_of_lt (Nat.lt_of_lt_of_le lt_bP B0.2.2.2.1.2.1)) (ninS (Nat.ne_of_lt (Nat.lt_of_lt_of_le lt_bP B0.2.2.2.1.2.2.1)) (ninS (Nat.ne_of_lt (Nat.lt_of_lt_of_le lt_bP B0.2.2.2.1.2.2.2)) nin0))))
    have V_bI_e201 : own_Ar Z T201.heap bI .int 3 (own_upd (own_upd (own_upd (fun _ => (.int (0 : Int32))) 0 (.int (0 : Int32))) 1 (.int (Int32.ofNat g1))) 2 (.int (Int32.ofNat g2))) := V_bI_e128.keep ky1 (ninS ne_bI_b1 (ninS (Nat.ne_of_lt (Nat.lt_of_lt_of_le lt_bI B0.2.2.2.1.2.1)) (ninS (Nat.ne_of_lt (Nat.lt_of_lt_of_le lt_bI B0.2.2.2.1.2.2.1)) (ninS (Nat.ne_of_lt (Nat.lt_of_lt_of_le lt_bI B0.2.2.2.1.2.2.2)) nin0))))
    have V_bJ_e201 : own_Ar Z T201.heap bJ .int 3 (own_upd (own_upd (own_upd (fun _ => (.int (0 : Int32))) 0 (.int (0 : Int32))) 1 (.int (Int32.ofNat j1))) 2 (.int (Int32.ofNat j2))) := V_bJ_e128.keep ky1 (ninS ne_bJ_b1 (ninS (Nat.ne_of_lt (Nat.lt_of_lt_of_le lt_bJ B0.2.2.2.1.2.1)) (ninS (Nat.ne_of_lt (Nat.lt_of_lt_of_le lt_bJ B0.2.2.2.1.2.2.1)) (ninS (Nat.ne_of_lt (Nat.lt_of_lt_of_le lt_bJ B0.2.2.2.1.2.2.2)) nin0))))
    have sz201 : nB ≤ T201.heap.size := Nat.le_trans sz128 ky1.1
    have nA : ¬ dA = own_last 0 (fun _ => (0 : Int32)) := fun z => absurd (congrArg Int32.toInt z) (by show ¬ dA.toInt = -1; omega)
    obtain ⟨df1, hdf1⟩ : ∃ z, z = own_updI (fun _ => (0 : Int32)) 0 dA := ⟨_, rfl⟩
    obtain ⟨sf1, hsf1⟩ : ∃ z, z = own_updI (own_updI (fun _ => (0 : Int32)) 0 (Int32.ofNat 0)) (0 + 1) (Int32.ofNat (0 + 1)) := ⟨_, rfl⟩
    obtain ⟨pf1, hpf1⟩ : ∃ z, z = own_updI (fun _ => (0 : Int32)) 0 qA := ⟨_, rfl⟩
    rw [show own_ndc 0 (fun _ => (0 : Int32)) dA = 1 from if_neg nA, show own_ndf 0 (fun _ => (0 : Int32)) dA = df1 from (if_neg nA).trans hdf1.symm, show own_nsf 0 0 (fun _ => (0 : Int32)) (fun _ => (0 : Int32)) dA = sf1 from (if_neg nA).trans hsf1.symm, ← hpf1] at B1
    have l1 : own_last 1 df1 = dA := by rw [hdf1]; rfl
    have p10 : pf1 0 = qA := by rw [hpf1]; rfl
    have pre203 : ∀ t, Steps p.tables e below (T201.setTop (mkF m 352 #[.val (.int p1), .val (.int p2), .val (.int p3), .val (.int p4), .val (.int p5), .val (.int p6), .val (.int (2 : Int32)), .val (.ref bS), .val (.ref bD), .val (.ref bP), .val (.ref bI), .val (.ref bJ), .val (.ref b1), .unset, .unset] [(.int (1 : Int32)), (.ref bD), (.ref b1)])) t → Steps p.tables e below (s₁.setTop (entryFrame m #[(.int p1), (.int p2), (.int p3), (.int p4), (.int p5), (.int p6)] maxLocals)) t := fun t kT => pre202 t (by
      show Steps p.tables e below (T201.setTop (mkF m 341 #[.val (.int p1), .val (.int p2), .val (.int p3), .val (.int p4), .val (.int p5), .val (.int p6), .val (.int (2 : Int32)), .val (.ref bS), .val (.ref bD), .val (.ref bP), .val (.ref bI), .val (.ref bJ), .val (.ref b1), .unset, .unset] [])) _
      refine XS.iload X201.here hx rfl (hb hby at_341) rfl ?_
      show Steps p.tables e below (T201.setTop (mkF m 343 #[.val (.int p1), .val (.int p2), .val (.int p3), .val (.int p4), .val (.int p5), .val (.int p6), .val (.int (2 : Int32)), .val (.ref bS), .val (.ref bD), .val (.ref bP), .val (.ref bI), .val (.ref bJ), .val (.ref b1), .unset, .unset] [(.int (2 : Int32))])) _
      refine XS.iconst X201.here hx rfl (hb hby at_343) ?_
      show Steps p.tables e below (T201.setTop (mkF m 344 #[.val (.int p1), .val (.int p2), .val (.int p3), .val (.int p4), .val (.int p5), .val (.int p6), .val (.int (2 : Int32)), .val (.ref bS), .val (.ref bD), .val (.ref bP), .val (.ref bI), .val (.ref bJ), .val (.ref b1), .unset, .unset] [(.int (1 : Int32)), (.int (2 : Int32))])) _
      refine XS.icmpNo X201.here hx rfl (hb hby at_344) rfl (tlt (by decide : (1 : Int32) < (2 : Int32))).2.2.2 ?_
      show Steps p.tables e below (T201.setTop (mkF m 347 #[.val (.int p1), .val (.int p2), .val (.int p3), .val (.int p4), .val (.int p5), .val (.int p6), .val (.int (2 : Int32)), .val (.ref bS), .val (.ref bD), .val (.ref bP), .val (.ref bI), .val (.ref bJ), .val (.ref b1), .unset, .unset] [])) _
      refine XS.aload X201.here hx rfl (hb hby at_347) rfl rfl ?_
      show Steps p.tables e below (T201.setTop (mkF m 349 #[.val (.int p1), .val (.int p2), .val (.int p3), .val (.int p4), .val (.int p5), .val (.int p6), .val (.int (2 : Int32)), .val (.ref bS), .val (.ref bD), .val (.ref bP), .val (.ref bI), .val (.ref bJ), .val (.ref b1), .unset, .unset] [(.ref b1)])) _
      refine XS.aload X201.here hx rfl (hb hby at_349) rfl rfl ?_
      show Steps p.tables e below (T201.setTop (mkF m 351 #[.val (.int p1), .val (.int p2), .val (.int p3), .val (.int p4), .val (.int p5), .val (.int p6), .val (.int (2 : Int32)), .val (.ref bS), .val (.ref bD), .val (.ref bP), .val (.ref bI), .val (.ref bJ), .val (.ref b1), .unset, .unset] [(.ref bD), (.ref b1)])) _
      refine XS.iconst X201.here hx rfl (hb hby at_351) ?_
      exact kT)
    obtain ⟨co204, ⟨Ao204, Ko204⟩, So204, Ho204⟩ := id V_bD_e201
    obtain ⟨co205, ⟨Ao205, Ko205⟩, So205, Ho205⟩ := id V_bP_e201
    have pre206 : ∀ t, Steps p.tables e below (T201.setTop (mkF m 357 #[.val (.int p1), .val (.int p2), .val (.int p3), .val (.int p4), .val (.int p5), .val (.int p6), .val (.int (2 : Int32)), .val (.ref bS), .val (.ref bD), .val (.ref bP), .val (.ref bI), .val (.ref bJ), .val (.ref b1), .unset, .unset] [(.int qB), (.int dB), (.ref b1)])) t → Steps p.tables e below (s₁.setTop (entryFrame m #[(.int p1), (.int p2), (.int p3), (.int p4), (.int p5), (.int p6)] maxLocals)) t := fun t kT => pre203 t (by
      show Steps p.tables e below (T201.setTop (mkF m 352 #[.val (.int p1), .val (.int p2), .val (.int p3), .val (.int p4), .val (.int p5), .val (.int p6), .val (.int (2 : Int32)), .val (.ref bS), .val (.ref bD), .val (.ref bP), .val (.ref bI), .val (.ref bJ), .val (.ref b1), .unset, .unset] [(.int (1 : Int32)), (.ref bD), (.ref b1)])) _
      refine X201.iaload hx (j := (1 : Int32)) (v := (.int dB)) Ao204.1 (State.isArrayOf_alike hZ.alike Ao204.2.1) Ao204.2.2 (own_ld So204 Ho204 (j := (1 : Int32)) (i := 1) (by decide) rfl (by decide) (v := (.int dB)) rfl).1 (own_ld So204 Ho204 (j := (1 : Int32)) (i := 1) (by decide) rfl (by decide) (v := (.int dB)) rfl).2 (g := (mkF m 352 #[.val (.int p1), .val (.int p2), .val (.int p3), .val (.int p4), .val (.int p5), .val (.int p6), .val (.int (2 : Int32)), .val (.ref bS), .val (.ref bD), .val (.ref bP), .val (.ref bI), .val (.ref bJ), .val (.ref b1), .unset, .unset] [(.int (1 : Int32)), (.ref bD), (.ref b1)])) rfl rfl (hb hby at_352) _ ?_
      show Steps p.tables e below (T201.setTop (mkF m 353 #[.val (.int p1), .val (.int p2), .val (.int p3), .val (.int p4), .val (.int p5), .val (.int p6), .val (.int (2 : Int32)), .val (.ref bS), .val (.ref bD), .val (.ref bP), .val (.ref bI), .val (.ref bJ), .val (.ref b1), .unset, .unset] [(.int dB), (.ref b1)])) _
      refine XS.aload X201.here hx rfl (hb hby at_353) rfl rfl ?_
      show Steps p.tables e below (T201.setTop (mkF m 355 #[.val (.int p1), .val (.int p2), .val (.int p3), .val (.int p4), .val (.int p5), .val (.int p6), .val (.int (2 : Int32)), .val (.ref bS), .val (.ref bD), .val (.ref bP), .val (.ref bI), .val (.ref bJ), .val (.ref b1), .unset, .unset] [(.ref bP), (.int dB), (.ref b1)])) _
      refine XS.iconst X201.here hx rfl (hb hby at_355) ?_
      show Steps p.tables e below (T201.setTop (mkF m 356 #[.val (.int p1), .val (.int p2), .val (.int p3), .val (.int p4), .val (.int p5), .val (.int p6), .val (.int (2 : Int32)), .val (.ref bS), .val (.ref bD), .val (.ref bP), .val (.ref bI), .val (.ref bJ), .val (.ref b1), .unset, .unset] [(.int (1 : Int32)), (.ref bP), (.int dB), (.ref b1)])) _
      refine X201.iaload hx (j := (1 : Int32)) (v := (.int qB)) Ao205.1 (State.isArrayOf_alike hZ.alike Ao205.2.1) Ao205.2.2 (own_ld So205 Ho205 (j := (1 : Int32)) (i := 1) (by decide) rfl (by decide) (v := (.int qB)) rfl).1 (own_ld So205 Ho205 (j := (1 : Int32)) (i := 1) (by decide) rfl (by decide) (v := (.int qB)) rfl).2 (g := (mkF m 356 #[.val (.int p1), .val (.int p2), .val (.int p3), .val (.int p4), .val (.int p5), .val (.int p6), .val (.int (2 : Int32)), .val (.ref bS), .val (.ref bD), .val (.ref bP), .val (.ref bI), .val (.ref bJ), .val (.ref b1), .unset, .unset] [(.int (1 : Int32)), (.ref bP), (.int dB), (.ref b1)])) rfl rfl (hb hby at_356) _ ?_
      exact kT)
    obtain ⟨cI207, kI207, q207a, q207b, q207c⟩ := isOf hZ rfl B1.1.2.2.2.2.2
    have pre208 : ∀ t, Steps p.tables e below (T201.setTop (mkF m 357 #[.val (.int p1), .val (.int p2), .val (.int p3), .val (.int p4), .val (.int p5), .val (.int p6), .val (.int (2 : Int32)), .val (.ref bS), .val (.ref bD), .val (.ref bP), .val (.ref bI), .val (.ref bJ), .val (.ref b1), .unset, .unset] [(.int qB), (.int dB), (.ref b1)])) t → Steps p.tables e below (s₁.setTop (entryFrame m #[(.int p1), (.int p2), (.int p3), (.int p4), (.int p5), (.int p6)] maxLocals)) t := fun t kT => pre206 t (by
      exact kT)
    obtain ⟨_, _, ⟨T209, L209, k209, n209⟩, -, X209, ⟨Lc209, hQ209, l209, y209, z209⟩, st209⟩ := X201.virtualBack hx (y := (⟨"com/example/esteem/esteem/index/Postings$Builder", "add", "(II)V"⟩ : MethodName)) (z := (⟨"com/example/esteem/esteem/index/Postings$Builder", "add", "(II)V"⟩ : MethodName)) hown (mvT hZ (hw _ (List.mem_of_getElem? (i := 59) rfl))) (mvT hZ (hw _ (List.mem_of_getElem? (i := 60) rfl))) (notFace_of_selects (args := #[]) (mvT hZ (hw _ (List.mem_of_getElem? (i := 62) rfl)))) (mvT hZ (hw _ (List.mem_of_getElem? (i := 62) rfl))) (mvT hZ (hw _ (List.mem_of_getElem? (i := 61) rfl))) (by decide) (backOf (W := 0) (rmA l Z a0 hw [] b1 dB qB dd1 ds1 dp1 dl1 sl1 pl1 1 (0 + 1) df1 sf1 pf1 T201.heap nB sz201 B1 (by decide) (by decide) (Or.inr (by decide)) (by rw [l1]; exact fdB.2.2.1) (own_nlt0 fdB.2.2.2.2.2.1) (fun z => ⟨by decide, by show pf1 0 < qB; rw [p10]; rw [l1] at z; exact (zs1.elim (fun q => absurd z (fdB.2.1 q)) (fun q => (fdB.1 q).2))⟩)) hZ (hw _ (List.mem_of_getElem? (i := 63) rfl)) (hw _ (List.mem_of_getElem? (i := 7) rfl)) (by decide) (by decide)) q207a q207c (g := (mkF m 357 #[.val (.int p1), .val (.int p2), .val (.int p3), .val (.int p4), .val (.int p5), .val (.int p6), .val (.int (2 : Int32)), .val (.ref bS), .val (.ref bD), .val (.ref bP), .val (.ref bI), .val (.ref bJ), .val (.ref b1), .unset, .unset] [(.int qB), (.int dB), (.ref b1)])) rfl (by rw [hml]; rfl) (Steps.refl _) (argsL := [(.int dB), (.int qB)]) (rest := []) (lenOf pd__II_V rfl) rfl (by show 2 * 0 + _ ≤ _; exact Nat.le_of_eq rfl) (hb hby at_357) (fun _ _ => ⟨rfl, rfl, (by decide : 12 + 3 ≤ _), (by decide : 37 + 13 ≤ _)⟩)
    dsimp only [Pt.U, Pt.locs, Pt.cells, Pt.slots] at X209 l209 y209 z209 st209 hQ209
    have X209 := own_st X209 (y209.trans (show _ = 15 from rfl)) (z209.trans (show _ = 50 from rfl))
    obtain ⟨rfl, N209q, ky2, dd2, ds2, dp2, dl2, sl2, pl2, B2⟩ := hQ209
    have N209 := own_fr l209 N201 (own_frm hn0B N209q)
    have pre210 : ∀ t, Steps p.tables e below (T209.setTop (mkF m 360 #[.val (.int p1), .val (.int p2), .val (.int p3), .val (.int p4), .val (.int p5), .val (.int p6), .val (.int (2 : Int32)), .val (.ref bS), .val (.ref bD), .val (.ref bP), .val (.ref bI), .val (.ref bJ), .val (.ref b1), .unset, .unset] [])) t → Steps p.tables e below (s₁.setTop (entryFrame m #[(.int p1), (.int p2), (.int p3), (.int p4), (.int p5), (.int p6)] maxLocals)) t := fun t kT => pre208 t (st209.trans kT)
    have V_bS_e209 : own_Ar Z T209.heap bS .boolean 3 (own_upd (own_upd (own_upd (fun _ => (.int (0 : Int32))) 0 (.int (nar .boolean (0 : Int32)))) 1 (.int s1)) 2 (.int s2)) := V_bS_e201.keep ky2 (ninS ne_bS_b1 (ninS (Nat.ne_of_lt (Nat.lt_of_lt_of_le lt_bS B1.2.2.2.1.2.1)) (ninS (Nat.ne_of_lt (Nat.lt_of_lt_of_le lt_bS B1.2.2.2.1.2.2.1)) (ninS (Nat.ne_of_lt (Nat.lt_of_lt_of_le lt_bS B1.2.2.2.1.2.2.2)) nin0))))
    have V_bD_e209 : own_Ar Z T209.heap bD .int 3 (own_upd (own_upd (own_upd (fun _ => (.int (0 : Int32))) 0 (.int dA)) 1 (.int dB)) 2 (.int dC)) := V_bD_e201.keep ky2 (ninS ne_bD_b1 (ninS (Nat.ne_of_lt (Nat.lt_of_lt_of_le lt_bD B1.2.2.2.1.2.1)) (ninS (Nat.ne_of_lt (Nat.lt_of_lt_of_le lt_bD B1.2.2.2.1.2.2.1)) (ninS (Nat.ne_of_lt (Nat.lt_of_lt_of_le lt_bD B1.2.2.2.1.2.2.2)) nin0))))
    have V_bP_e209 : own_Ar Z T209.heap bP .int 3 (own_upd (own_upd (own_upd (fun _ => (.int (0 : Int32))) 0 (.int qA)) 1 (.int qB)) 2 (.int qC)) := V_bP_e201.keep ky2 (ninS ne_bP_b1 (ninS (Nat.ne_of_lt (Nat.lt_of_lt_of_le lt_bP B1.2.2.2.1.2.1)) (ninS (Nat.ne_of_lt (Nat.lt_of_lt_of_le lt_bP B1.2.2.2.1.2.2.1)) (ninS (Nat.ne_of_lt (Nat.lt_of_lt_of_le lt_bP B1.2.2.2.1.2.2.2)) nin0))))
    have V_bI_e209 : own_Ar Z T209.heap bI .int 3 (own_upd (own_upd (own_upd (fun _ => (.int (0 : Int32))) 0 (.int (0 : Int32))) 1 (.int (Int32.ofNat g1))) 2 (.int (Int32.ofNat g2))) := V_bI_e201.keep ky2 (ninS ne_bI_b1 (ninS (Nat.ne_of_lt (Nat.lt_of_lt_of_le lt_bI B1.2.2.2.1.2.1)) (ninS (Nat.ne_of_lt (Nat.lt_of_lt_of_le lt_bI B1.2.2.2.1.2.2.1)) (ninS (Nat.ne_of_lt (Nat.lt_of_lt_of_le lt_bI B1.2.2.2.1.2.2.2)) nin0))))
    have V_bJ_e209 : own_Ar Z T209.heap bJ .int 3 (own_upd (own_upd (own_upd (fun _ => (.int (0 : Int32))) 0 (.int (0 : Int32))) 1 (.int (Int32.ofNat j1))) 2 (.int (Int32.ofNat j2))) := V_bJ_e201.keep ky2 (ninS ne_bJ_b1 (ninS (Nat.ne_of_lt (Nat.lt_of_lt_of_le lt_bJ B1.2.2.2.1.2.1)) (ninS (Nat.ne_of_lt (Nat.lt_of_lt_of_le lt_bJ B1.2.2.2.1.2.2.1)) (ninS (Nat.ne_of_lt (Nat.lt_of_lt_of_le lt_bJ B1.2.2.2.1.2.2.2)) nin0))))
    have sz209 : nB ≤ T209.heap.size := Nat.le_trans sz201 ky2.1
    obtain ⟨dc2, hdc2⟩ : ∃ z, z = own_ndc 1 df1 dB := ⟨_, rfl⟩
    obtain ⟨df2, hdf2⟩ : ∃ z, z = own_ndf 1 df1 dB := ⟨_, rfl⟩
    obtain ⟨sf2, hsf2⟩ : ∃ z, z = own_nsf 1 (0 + 1) df1 sf1 dB := ⟨_, rfl⟩
    obtain ⟨pf2, hpf2⟩ : ∃ z, z = own_updI pf1 (0 + 1) qB := ⟨_, rfl⟩
    rw [← hdc2, ← hdf2, ← hsf2, ← hpf2] at B2
    have H2 : (s1 = 1 ∧ dc2 = 1 ∧ df2 = df1 ∧ sf2 = own_updI sf1 1 (Int32.ofNat 2)) ∨ (s1 = 0 ∧ dc2 = 2 ∧ df2 = own_updI df1 1 dB ∧ sf2 = own_updI (own_updI sf1 1 (Int32.ofNat 1)) 2 (Int32.ofNat 2)) := by
      rcases zs1 with q | q
      · have y : ¬ dB = own_last 1 df1 := by rw [l1]; exact fdB.2.1 q
        exact Or.inr ⟨q, hdc2.trans (if_neg y), hdf2.trans (if_neg y), hsf2.trans (if_neg y)⟩
      · have y : dB = own_last 1 df1 := by rw [l1]; exact (fdB.1 q).1
        exact Or.inl ⟨q, hdc2.trans (if_pos y), hdf2.trans (if_pos y), hsf2.trans (if_pos y)⟩
    have l2 : own_last dc2 df2 = dB := by
      rcases H2 with ⟨q, a, b, _⟩ | ⟨q, a, b, _⟩
      · rw [a, b, l1]; exact (fdB.1 q).1.symm
      · rw [a, b]; rfl
    have p20 : pf2 0 = qA := by rw [hpf2, hpf1]; rfl
    have p21 : pf2 1 = qB := by rw [hpf2]; rfl
    have dc2' : dc2 ≤ 2 ∧ dc2 ≠ 0 := by rcases H2 with ⟨_, a, _⟩ | ⟨_, a, _⟩ <;> omega
    have HF : dc2 = g1 + 1 ∧ df2 0 = dA ∧ sf2 0 + Int32.ofNat 0 = Int32.ofNat 0 ∧ df2 g1 = dB ∧ sf2 g1 + Int32.ofNat j1 = Int32.ofNat 1 ∧ (s1 = 0 → sf2 (0 + 1) - sf2 0 = Int32.ofNat (0 + 1)) ∧ sf2 (g1 + 1) - sf2 g1 = Int32.ofNat (j1 + 1) := by
      rcases H2 with ⟨q1, a2, b2, c2⟩ | ⟨q1, a2, b2, c2⟩
      · have eg : g1 = 0 := by rcases hg1 with ⟨y, z⟩ | ⟨y, z⟩ <;> first | exact z | exact absurd (q1.symm.trans y) (by decide)
        have ej : j1 = 1 := by rcases hj1 with ⟨y, z⟩ | ⟨y, z⟩ <;> first | exact z | exact absurd (q1.symm.trans y) (by decide)
        have es : ∀ k, sf2 k = (own_updI (own_updI (own_updI (fun _ => (0 : Int32)) 0 (Int32.ofNat 0)) (0 + 1) (Int32.ofNat (0 + 1))) 1 (Int32.ofNat 2)) k := fun k => by rw [c2, hsf1]
        rw [eg, ej]
        exact ⟨by omega, by rw [b2, hdf1]; rfl, by rw [es]; decide, by rw [b2]; rw [hdf1]; exact (fdB.1 q1).1.symm, by rw [es]; decide, fun z => absurd (q1.symm.trans z) (by decide), by rw [es, es]; decide⟩
      · have eg : g1 = 1 := by rcases hg1 with ⟨y, z⟩ | ⟨y, z⟩ <;> first | exact z | exact absurd (q1.symm.trans y) (by decide)
        have ej : j1 = 0 := by rcases hj1 with ⟨y, z⟩ | ⟨y, z⟩ <;> first | exact z | exact absurd (q1.symm.trans y) (by decide)
        have es : ∀ k, sf2 k = (own_updI (own_updI (own_updI (own_updI (fun _ => (0 : Int32)) 0 (Int32.ofNat 0)) (0 + 1) (Int32.ofNat (0 + 1))) 1 (Int32.ofNat 1)) 2 (Int32.ofNat 2)) k := fun k => by rw [c2, hsf1]
        rw [eg, ej]
        exact ⟨by omega, by rw [b2, hdf1]; rfl, by rw [es]; decide, by rw [b2]; rfl, by rw [es]; decide, fun _ => by rw [es, es]; decide, by rw [es, es]; decide⟩
    have pre211 : ∀ t, Steps p.tables e below (T209.setTop (mkF m 381 #[.val (.int p1), .val (.int p2), .val (.int p3), .val (.int p4), .val (.int p5), .val (.int p6), .val (.int (2 : Int32)), .val (.ref bS), .val (.ref bD), .val (.ref bP), .val (.ref bI), .val (.ref bJ), .val (.ref b1), .unset, .unset] [(.ref b1)])) t → Steps p.tables e below (s₁.setTop (entryFrame m #[(.int p1), (.int p2), (.int p3), (.int p4), (.int p5), (.int p6)] maxLocals)) t := fun t kT => pre210 t (by
      show Steps p.tables e below (T209.setTop (mkF m 360 #[.val (.int p1), .val (.int p2), .val (.int p3), .val (.int p4), .val (.int p5), .val (.int p6), .val (.int (2 : Int32)), .val (.ref bS), .val (.ref bD), .val (.ref bP), .val (.ref bI), .val (.ref bJ), .val (.ref b1), .unset, .unset] [])) _
      refine XS.iload X209.here hx rfl (hb hby at_360) rfl ?_
      show Steps p.tables e below (T209.setTop (mkF m 362 #[.val (.int p1), .val (.int p2), .val (.int p3), .val (.int p4), .val (.int p5), .val (.int p6), .val (.int (2 : Int32)), .val (.ref bS), .val (.ref bD), .val (.ref bP), .val (.ref bI), .val (.ref bJ), .val (.ref b1), .unset, .unset] [(.int (2 : Int32))])) _
      refine XS.iconst X209.here hx rfl (hb hby at_362) ?_
      show Steps p.tables e below (T209.setTop (mkF m 363 #[.val (.int p1), .val (.int p2), .val (.int p3), .val (.int p4), .val (.int p5), .val (.int p6), .val (.int (2 : Int32)), .val (.ref bS), .val (.ref bD), .val (.ref bP), .val (.ref bI), .val (.ref bJ), .val (.ref b1), .unset, .unset] [(.int (2 : Int32)), (.int (2 : Int32))])) _
      refine XS.icmpYes X209.here hx rfl (pc0 := 363) (pc' := 379) rfl (hb hby at_363) rfl (flt (by decide : ¬ ((2 : Int32) < (2 : Int32)))).2.2.2 (by decide) (by decide) ?_
      show Steps p.tables e below (T209.setTop (mkF m 379 #[.val (.int p1), .val (.int p2), .val (.int p3), .val (.int p4), .val (.int p5), .val (.int p6), .val (.int (2 : Int32)), .val (.ref bS), .val (.ref bD), .val (.ref bP), .val (.ref bI), .val (.ref bJ), .val (.ref b1), .unset, .unset] [])) _
      refine XS.aload X209.here hx rfl (hb hby at_379) rfl rfl ?_
      exact kT)
    obtain ⟨cI212, kI212, q212a, q212b, q212c⟩ := isOf hZ rfl B2.1.2.2.2.2.2
    have pre213 : ∀ t, Steps p.tables e below (T209.setTop (mkF m 381 #[.val (.int p1), .val (.int p2), .val (.int p3), .val (.int p4), .val (.int p5), .val (.int p6), .val (.int (2 : Int32)), .val (.ref bS), .val (.ref bD), .val (.ref bP), .val (.ref bI), .val (.ref bJ), .val (.ref b1), .unset, .unset] [(.ref b1)])) t → Steps p.tables e below (s₁.setTop (entryFrame m #[(.int p1), (.int p2), (.int p3), (.int p4), (.int p5), (.int p6)] maxLocals)) t := fun t kT => pre211 t (by
      exact kT)
    obtain ⟨_, _, ⟨T214, L214, k214, n214⟩, -, X214, ⟨Lc214, hQ214, l214, y214, z214⟩, st214⟩ := X209.virtualBack hx (y := (⟨"com/example/esteem/esteem/index/Postings$Builder", "build", "()Lcom/example/esteem/esteem/index/Postings;"⟩ : MethodName)) (z := (⟨"com/example/esteem/esteem/index/Postings$Builder", "build", "()Lcom/example/esteem/esteem/index/Postings;"⟩ : MethodName)) hown (mvT hZ (hw _ (List.mem_of_getElem? (i := 20) rfl))) (mvT hZ (hw _ (List.mem_of_getElem? (i := 21) rfl))) (notFace_of_selects (args := #[]) (mvT hZ (hw _ (List.mem_of_getElem? (i := 23) rfl)))) (mvT hZ (hw _ (List.mem_of_getElem? (i := 23) rfl))) (mvT hZ (hw _ (List.mem_of_getElem? (i := 22) rfl))) (by decide) (backOf (W := 0) (rmBU l Z a0 hw [] b1 dd2 ds2 dp2 dl2 sl2 pl2 dc2 (0 + 1 + 1) df2 sf2 pf2 T209.heap nB sz209 B2 (by omega) (by decide)) hZ (hw _ (List.mem_of_getElem? (i := 24) rfl)) (hw _ (List.mem_of_getElem? (i := 7) rfl)) (by decide) (by decide)) q212a q212c (g := (mkF m 381 #[.val (.int p1), .val (.int p2), .val (.int p3), .val (.int p4), .val (.int p5), .val (.int p6), .val (.int (2 : Int32)), .val (.ref bS), .val (.ref bD), .val (.ref bP), .val (.ref bI), .val (.ref bJ), .val (.ref b1), .unset, .unset] [(.ref b1)])) rfl (by rw [hml]; rfl) (Steps.refl _) (argsL := []) (rest := []) (lenOf pd___Lcom_example_esteem_esteem_index_Postings_ rfl) rfl (by show 2 * 0 + _ ≤ _; exact Nat.le_of_eq rfl) (hb hby at_381) (fun _ _ => ⟨rfl, rfl, (by decide : 15 + 4 ≤ _), (by decide : 50 + 13 ≤ _)⟩)
    dsimp only [Pt.U, Pt.locs, Pt.cells, Pt.slots] at X214 l214 y214 z214 st214 hQ214
    have X214 := own_st X214 (y214.trans (show _ = 19 from rfl)) (z214.trans (show _ = 63 from rfl))
    obtain ⟨r1, xd, xs, xp, rfl, N214q, kyB, BP⟩ := hQ214
    have N214 := own_fr l214 N209 (own_frm hn0B N214q)
    have pre215 : ∀ t, Steps p.tables e below (T214.setTop (mkF m 384 #[.val (.int p1), .val (.int p2), .val (.int p3), .val (.int p4), .val (.int p5), .val (.int p6), .val (.int (2 : Int32)), .val (.ref bS), .val (.ref bD), .val (.ref bP), .val (.ref bI), .val (.ref bJ), .val (.ref b1), .unset, .unset] [(.ref r1)])) t → Steps p.tables e below (s₁.setTop (entryFrame m #[(.int p1), (.int p2), (.int p3), (.int p4), (.int p5), (.int p6)] maxLocals)) t := fun t kT => pre213 t (st214.trans kT)
    have V_bS_e214 : own_Ar Z T214.heap bS .boolean 3 (own_upd (own_upd (own_upd (fun _ => (.int (0 : Int32))) 0 (.int (nar .boolean (0 : Int32)))) 1 (.int s1)) 2 (.int s2)) := V_bS_e209.keep kyB nin0
    have V_bD_e214 : own_Ar Z T214.heap bD .int 3 (own_upd (own_upd (own_upd (fun _ => (.int (0 : Int32))) 0 (.int dA)) 1 (.int dB)) 2 (.int dC)) := V_bD_e209.keep kyB nin0
    have V_bP_e214 : own_Ar Z T214.heap bP .int 3 (own_upd (own_upd (own_upd (fun _ => (.int (0 : Int32))) 0 (.int qA)) 1 (.int qB)) 2 (.int qC)) := V_bP_e209.keep kyB nin0
    have V_bI_e214 : own_Ar Z T214.heap bI .int 3 (own_upd (own_upd (own_upd (fun _ => (.int (0 : Int32))) 0 (.int (0 : Int32))) 1 (.int (Int32.ofNat g1))) 2 (.int (Int32.ofNat g2))) := V_bI_e209.keep kyB nin0
    have V_bJ_e214 : own_Ar Z T214.heap bJ .int 3 (own_upd (own_upd (own_upd (fun _ => (.int (0 : Int32))) 0 (.int (0 : Int32))) 1 (.int (Int32.ofNat j1))) 2 (.int (Int32.ofNat j2))) := V_bJ_e209.keep kyB nin0
    have sz214 : nB ≤ T214.heap.size := Nat.le_trans sz209 kyB.1
    have pre216 : ∀ t, Steps p.tables e below (T214.setTop (mkF m 384 #[.val (.int p1), .val (.int p2), .val (.int p3), .val (.int p4), .val (.int p5), .val (.int p6), .val (.int (2 : Int32)), .val (.ref bS), .val (.ref bD), .val (.ref bP), .val (.ref bI), .val (.ref bJ), .val (.ref b1), .unset, .unset] [(.ref r1)])) t → Steps p.tables e below (s₁.setTop (entryFrame m #[(.int p1), (.int p2), (.int p3), (.int p4), (.int p5), (.int p6)] maxLocals)) t := fun t kT => pre215 t (by
      exact kT)
    obtain ⟨co217, ⟨Ao217, Ko217⟩, So217, Ho217⟩ := id V_bS_e214
    obtain ⟨co218, ⟨Ao218, Ko218⟩, So218, Ho218⟩ := id V_bD_e214
    obtain ⟨co219, ⟨Ao219, Ko219⟩, So219, Ho219⟩ := id V_bP_e214
    obtain ⟨co220, ⟨Ao220, Ko220⟩, So220, Ho220⟩ := id V_bI_e214
    obtain ⟨co221, ⟨Ao221, Ko221⟩, So221, Ho221⟩ := id V_bJ_e214
    have pre222 : ∀ t, Steps p.tables e below (T214.setTop (mkF m 401 #[.val (.int p1), .val (.int p2), .val (.int p3), .val (.int p4), .val (.int p5), .val (.int p6), .val (.int (2 : Int32)), .val (.ref bS), .val (.ref bD), .val (.ref bP), .val (.ref bI), .val (.ref bJ), .val (.ref b1), .val (.ref r1), .unset] [(.int ((2 : Int32) - (1 : Int32))), (.ref bI)])) t → Steps p.tables e below (s₁.setTop (entryFrame m #[(.int p1), (.int p2), (.int p3), (.int p4), (.int p5), (.int p6)] maxLocals)) t := fun t kT => pre216 t (by
      show Steps p.tables e below (T214.setTop (mkF m 384 #[.val (.int p1), .val (.int p2), .val (.int p3), .val (.int p4), .val (.int p5), .val (.int p6), .val (.int (2 : Int32)), .val (.ref bS), .val (.ref bD), .val (.ref bP), .val (.ref bI), .val (.ref bJ), .val (.ref b1), .unset, .unset] [(.ref r1)])) _
      refine XS.astore X214.here hx rfl (hb hby at_384) rfl rfl (l' := #[.val (.int p1), .val (.int p2), .val (.int p3), .val (.int p4), .val (.int p5), .val (.int p6), .val (.int (2 : Int32)), .val (.ref bS), .val (.ref bD), .val (.ref bP), .val (.ref bI), .val (.ref bJ), .val (.ref b1), .val (.ref r1), .unset]) rfl ?_
      show Steps p.tables e below (T214.setTop (mkF m 386 #[.val (.int p1), .val (.int p2), .val (.int p3), .val (.int p4), .val (.int p5), .val (.int p6), .val (.int (2 : Int32)), .val (.ref bS), .val (.ref bD), .val (.ref bP), .val (.ref bI), .val (.ref bJ), .val (.ref b1), .val (.ref r1), .unset] [])) _
      refine XS.iload X214.here hx rfl (hb hby at_386) rfl ?_
      show Steps p.tables e below (T214.setTop (mkF m 388 #[.val (.int p1), .val (.int p2), .val (.int p3), .val (.int p4), .val (.int p5), .val (.int p6), .val (.int (2 : Int32)), .val (.ref bS), .val (.ref bD), .val (.ref bP), .val (.ref bI), .val (.ref bJ), .val (.ref b1), .val (.ref r1), .unset] [(.int (2 : Int32))])) _
      refine XS.ifYes X214.here hx rfl (pc0 := 388) (pc' := 395) rfl (hb hby at_388) rfl ((if0 _ _).trans (feq (by decide : ¬ ((2 : Int32) = (0 : Int32)))).2) (by decide) (by decide) ?_
      show Steps p.tables e below (T214.setTop (mkF m 395 #[.val (.int p1), .val (.int p2), .val (.int p3), .val (.int p4), .val (.int p5), .val (.int p6), .val (.int (2 : Int32)), .val (.ref bS), .val (.ref bD), .val (.ref bP), .val (.ref bI), .val (.ref bJ), .val (.ref b1), .val (.ref r1), .unset] [])) _
      refine XS.aload X214.here hx rfl (hb hby at_395) rfl rfl ?_
      show Steps p.tables e below (T214.setTop (mkF m 397 #[.val (.int p1), .val (.int p2), .val (.int p3), .val (.int p4), .val (.int p5), .val (.int p6), .val (.int (2 : Int32)), .val (.ref bS), .val (.ref bD), .val (.ref bP), .val (.ref bI), .val (.ref bJ), .val (.ref b1), .val (.ref r1), .unset] [(.ref bI)])) _
      refine XS.iload X214.here hx rfl (hb hby at_397) rfl ?_
      show Steps p.tables e below (T214.setTop (mkF m 399 #[.val (.int p1), .val (.int p2), .val (.int p3), .val (.int p4), .val (.int p5), .val (.int p6), .val (.int (2 : Int32)), .val (.ref bS), .val (.ref bD), .val (.ref bP), .val (.ref bI), .val (.ref bJ), .val (.ref b1), .val (.ref r1), .unset] [(.int (2 : Int32)), (.ref bI)])) _
      refine XS.iconst X214.here hx rfl (hb hby at_399) ?_
      show Steps p.tables e below (T214.setTop (mkF m 400 #[.val (.int p1), .val (.int p2), .val (.int p3), .val (.int p4), .val (.int p5), .val (.int p6), .val (.int (2 : Int32)), .val (.ref bS), .val (.ref bD), .val (.ref bP), .val (.ref bI), .val (.ref bJ), .val (.ref b1), .val (.ref r1), .unset] [(.int (1 : Int32)), (.int (2 : Int32)), (.ref bI)])) _
      refine XS.isub X214.here hx rfl (hb hby at_400) rfl ?_
      exact kT)
    rw [show ((2 : Int32) - (1 : Int32)) = (1 : Int32) from by decide] at pre222
    have pre223 : ∀ t, Steps p.tables e below (T214.setTop (mkF m 404 #[.val (.int p1), .val (.int p2), .val (.int p3), .val (.int p4), .val (.int p5), .val (.int p6), .val (.int (2 : Int32)), .val (.ref bS), .val (.ref bD), .val (.ref bP), .val (.ref bI), .val (.ref bJ), .val (.ref b1), .val (.ref r1), .unset] [(.int ((Int32.ofNat g1) + (1 : Int32)))])) t → Steps p.tables e below (s₁.setTop (entryFrame m #[(.int p1), (.int p2), (.int p3), (.int p4), (.int p5), (.int p6)] maxLocals)) t := fun t kT => pre222 t (by
      show Steps p.tables e below (T214.setTop (mkF m 401 #[.val (.int p1), .val (.int p2), .val (.int p3), .val (.int p4), .val (.int p5), .val (.int p6), .val (.int (2 : Int32)), .val (.ref bS), .val (.ref bD), .val (.ref bP), .val (.ref bI), .val (.ref bJ), .val (.ref b1), .val (.ref r1), .unset] [(.int (1 : Int32)), (.ref bI)])) _
      refine X214.iaload hx (j := (1 : Int32)) (v := (.int (Int32.ofNat g1))) Ao220.1 (State.isArrayOf_alike hZ.alike Ao220.2.1) Ao220.2.2 (own_ld So220 Ho220 (j := (1 : Int32)) (i := 1) (by decide) rfl (by decide) (v := (.int (Int32.ofNat g1))) rfl).1 (own_ld So220 Ho220 (j := (1 : Int32)) (i := 1) (by decide) rfl (by decide) (v := (.int (Int32.ofNat g1))) rfl).2 (g := (mkF m 401 #[.val (.int p1), .val (.int p2), .val (.int p3), .val (.int p4), .val (.int p5), .val (.int p6), .val (.int (2 : Int32)), .val (.ref bS), .val (.ref bD), .val (.ref bP), .val (.ref bI), .val (.ref bJ), .val (.ref b1), .val (.ref r1), .unset] [(.int (1 : Int32)), (.ref bI)])) rfl rfl (hb hby at_401) _ ?_
      show Steps p.tables e below (T214.setTop (mkF m 402 #[.val (.int p1), .val (.int p2), .val (.int p3), .val (.int p4), .val (.int p5), .val (.int p6), .val (.int (2 : Int32)), .val (.ref bS), .val (.ref bD), .val (.ref bP), .val (.ref bI), .val (.ref bJ), .val (.ref b1), .val (.ref r1), .unset] [(.int (Int32.ofNat g1))])) _
      refine XS.iconst X214.here hx rfl (hb hby at_402) ?_
      show Steps p.tables e below (T214.setTop (mkF m 403 #[.val (.int p1), .val (.int p2), .val (.int p3), .val (.int p4), .val (.int p5), .val (.int p6), .val (.int (2 : Int32)), .val (.ref bS), .val (.ref bD), .val (.ref bP), .val (.ref bI), .val (.ref bJ), .val (.ref b1), .val (.ref r1), .unset] [(.int (1 : Int32)), (.int (Int32.ofNat g1))])) _
      refine XS.iadd X214.here hx rfl (hb hby at_403) rfl ?_
      exact kT)
    rw [own_one] at pre223
    have pre224 : ∀ t, Steps p.tables e below (T214.setTop (mkF m 408 #[.val (.int p1), .val (.int p2), .val (.int p3), .val (.int p4), .val (.int p5), .val (.int p6), .val (.int (2 : Int32)), .val (.ref bS), .val (.ref bD), .val (.ref bP), .val (.ref bI), .val (.ref bJ), .val (.ref b1), .val (.ref r1), .val (.int (Int32.ofNat (g1 + 1)))] [(.ref r1)])) t → Steps p.tables e below (s₁.setTop (entryFrame m #[(.int p1), (.int p2), (.int p3), (.int p4), (.int p5), (.int p6)] maxLocals)) t := fun t kT => pre223 t (by
      show Steps p.tables e below (T214.setTop (mkF m 404 #[.val (.int p1), .val (.int p2), .val (.int p3), .val (.int p4), .val (.int p5), .val (.int p6), .val (.int (2 : Int32)), .val (.ref bS), .val (.ref bD), .val (.ref bP), .val (.ref bI), .val (.ref bJ), .val (.ref b1), .val (.ref r1), .unset] [(.int (Int32.ofNat (g1 + 1)))])) _
      refine XS.istore X214.here hx rfl (hb hby at_404) rfl (l' := #[.val (.int p1), .val (.int p2), .val (.int p3), .val (.int p4), .val (.int p5), .val (.int p6), .val (.int (2 : Int32)), .val (.ref bS), .val (.ref bD), .val (.ref bP), .val (.ref bI), .val (.ref bJ), .val (.ref b1), .val (.ref r1), .val (.int (Int32.ofNat (g1 + 1)))]) rfl ?_
      show Steps p.tables e below (T214.setTop (mkF m 406 #[.val (.int p1), .val (.int p2), .val (.int p3), .val (.int p4), .val (.int p5), .val (.int p6), .val (.int (2 : Int32)), .val (.ref bS), .val (.ref bD), .val (.ref bP), .val (.ref bI), .val (.ref bJ), .val (.ref b1), .val (.ref r1), .val (.int (Int32.ofNat (g1 + 1)))] [])) _
      refine XS.aload X214.here hx rfl (hb hby at_406) rfl rfl ?_
      exact kT)
    obtain ⟨cI225, kI225, q225a, q225b, q225c⟩ := isOf hZ rfl BP.1.2.2.2
    have pre226 : ∀ t, Steps p.tables e below (T214.setTop (mkF m 408 #[.val (.int p1), .val (.int p2), .val (.int p3), .val (.int p4), .val (.int p5), .val (.int p6), .val (.int (2 : Int32)), .val (.ref bS), .val (.ref bD), .val (.ref bP), .val (.ref bI), .val (.ref bJ), .val (.ref b1), .val (.ref r1), .val (.int (Int32.ofNat (g1 + 1)))] [(.ref r1)])) t → Steps p.tables e below (s₁.setTop (entryFrame m #[(.int p1), (.int p2), (.int p3), (.int p4), (.int p5), (.int p6)] maxLocals)) t := fun t kT => pre224 t (by
      exact kT)
    obtain ⟨_, _, ⟨T227, L227, k227, n227⟩, -, X227, ⟨Lc227, hQ227, l227, y227, z227⟩, st227⟩ := X214.virtualBack hx (y := (⟨"com/example/esteem/esteem/index/Postings", "docFreq", "()I"⟩ : MethodName)) (z := (⟨"com/example/esteem/esteem/index/Postings", "docFreq", "()I"⟩ : MethodName)) hown (mvT hZ (hw _ (List.mem_of_getElem? (i := 54) rfl))) (mvT hZ (hw _ (List.mem_of_getElem? (i := 55) rfl))) (notFace_of_selects (args := #[]) (mvT hZ (hw _ (List.mem_of_getElem? (i := 57) rfl)))) (mvT hZ (hw _ (List.mem_of_getElem? (i := 57) rfl))) (mvT hZ (hw _ (List.mem_of_getElem? (i := 56) rfl))) (by decide) (backOf (W := 0) (rmDF l Z a0 hw [] r1 xd xs xp dc2 (0 + 1 + 1) df2 sf2 pf2 T214.heap nB sz214 BP (by omega) (by decide)) hZ (hw _ (List.mem_of_getElem? (i := 58) rfl)) (hw _ (List.mem_of_getElem? (i := 27) rfl)) (by decide) (by decide)) q225a q225c (g := (mkF m 408 #[.val (.int p1), .val (.int p2), .val (.int p3), .val (.int p4), .val (.int p5), .val (.int p6), .val (.int (2 : Int32)), .val (.ref bS), .val (.ref bD), .val (.ref bP), .val (.ref bI), .val (.ref bJ), .val (.ref b1), .val (.ref r1), .val (.int (Int32.ofNat (g1 + 1)))] [(.ref r1)])) rfl (by rw [hml]; rfl) (Steps.refl _) (argsL := []) (rest := []) (lenOf pd___I rfl) rfl (by show 2 * 0 + _ ≤ _; exact Nat.le_of_eq rfl) (hb hby at_408) (fun _ _ => ⟨rfl, rfl, (by decide : 19 + 0 ≤ _), (by decide : 63 + 0 ≤ _)⟩)
    dsimp only [Pt.U, Pt.locs, Pt.cells, Pt.slots] at X227 l227 y227 z227 st227 hQ227
    have X227 := own_st X227 (y227.trans (show _ = 19 from rfl)) (z227.trans (show _ = 63 from rfl))
    obtain ⟨rfl, N227q, edf2⟩ := hQ227
    have N227 := own_fr l227 N214 (own_frm hn0B N227q)
    have pre228 : ∀ t, Steps p.tables e below (T227.setTop (mkF m 411 #[.val (.int p1), .val (.int p2), .val (.int p3), .val (.int p4), .val (.int p5), .val (.int p6), .val (.int (2 : Int32)), .val (.ref bS), .val (.ref bD), .val (.ref bP), .val (.ref bI), .val (.ref bJ), .val (.ref b1), .val (.ref r1), .val (.int (Int32.ofNat (g1 + 1)))] [(.int (Int32.ofNat dc2))])) t → Steps p.tables e below (s₁.setTop (entryFrame m #[(.int p1), (.int p2), (.int p3), (.int p4), (.int p5), (.int p6)] maxLocals)) t := fun t kT => pre226 t (st227.trans kT)
    have pre229 : ∀ t, Steps p.tables e below (T227.setTop (mkF m 418 #[.val (.int p1), .val (.int p2), .val (.int p3), .val (.int p4), .val (.int p5), .val (.int p6), .val (.int (2 : Int32)), .val (.ref bS), .val (.ref bD), .val (.ref bP), .val (.ref bI), .val (.ref bJ), .val (.ref b1), .val (.ref r1), .val (.int (Int32.ofNat (g1 + 1)))] [])) t → Steps p.tables e below (s₁.setTop (entryFrame m #[(.int p1), (.int p2), (.int p3), (.int p4), (.int p5), (.int p6)] maxLocals)) t := fun t kT => pre228 t (by
      show Steps p.tables e below (T227.setTop (mkF m 411 #[.val (.int p1), .val (.int p2), .val (.int p3), .val (.int p4), .val (.int p5), .val (.int p6), .val (.int (2 : Int32)), .val (.ref bS), .val (.ref bD), .val (.ref bP), .val (.ref bI), .val (.ref bJ), .val (.ref b1), .val (.ref r1), .val (.int (Int32.ofNat (g1 + 1)))] [(.int (Int32.ofNat dc2))])) _
      refine XS.iload X227.here hx rfl (hb hby at_411) rfl ?_
      show Steps p.tables e below (T227.setTop (mkF m 413 #[.val (.int p1), .val (.int p2), .val (.int p3), .val (.int p4), .val (.int p5), .val (.int p6), .val (.int (2 : Int32)), .val (.ref bS), .val (.ref bD), .val (.ref bP), .val (.ref bI), .val (.ref bJ), .val (.ref b1), .val (.ref r1), .val (.int (Int32.ofNat (g1 + 1)))] [(.int (Int32.ofNat (g1 + 1))), (.int (Int32.ofNat dc2))])) _
      refine XS.icmpYes X227.here hx rfl (pc0 := 413) (pc' := 418) rfl (hb hby at_413) rfl (teq (by rw [HF.1])).1 (by decide) (by decide) ?_
      exact kT)
    obtain ⟨co230, ⟨Ao230, Ko230⟩, So230, Ho230⟩ := id V_bS_e214
    obtain ⟨co231, ⟨Ao231, Ko231⟩, So231, Ho231⟩ := id V_bD_e214
    obtain ⟨co232, ⟨Ao232, Ko232⟩, So232, Ho232⟩ := id V_bP_e214
    obtain ⟨co233, ⟨Ao233, Ko233⟩, So233, Ho233⟩ := id V_bI_e214
    obtain ⟨co234, ⟨Ao234, Ko234⟩, So234, Ho234⟩ := id V_bJ_e214
    have pre235 : ∀ t, Steps p.tables e below (T227.setTop (mkF m 444 #[.val (.int p1), .val (.int p2), .val (.int p3), .val (.int p4), .val (.int p5), .val (.int p6), .val (.int (2 : Int32)), .val (.ref bS), .val (.ref bD), .val (.ref bP), .val (.ref bI), .val (.ref bJ), .val (.ref b1), .val (.ref r1), .val (.int (Int32.ofNat (g1 + 1)))] [(.int (own_sel s1 (0 : Int32) (1 : Int32))), (.int (1 : Int32)), (.ref r1)])) t → Steps p.tables e below (s₁.setTop (entryFrame m #[(.int p1), (.int p2), (.int p3), (.int p4), (.int p5), (.int p6)] maxLocals)) t := fun t kT => pre229 t (by
      show Steps p.tables e below (T227.setTop (mkF m 418 #[.val (.int p1), .val (.int p2), .val (.int p3), .val (.int p4), .val (.int p5), .val (.int p6), .val (.int (2 : Int32)), .val (.ref bS), .val (.ref bD), .val (.ref bP), .val (.ref bI), .val (.ref bJ), .val (.ref b1), .val (.ref r1), .val (.int (Int32.ofNat (g1 + 1)))] [])) _
      refine XS.iload X227.here hx rfl (hb hby at_418) rfl ?_
      show Steps p.tables e below (T227.setTop (mkF m 420 #[.val (.int p1), .val (.int p2), .val (.int p3), .val (.int p4), .val (.int p5), .val (.int p6), .val (.int (2 : Int32)), .val (.ref bS), .val (.ref bD), .val (.ref bP), .val (.ref bI), .val (.ref bJ), .val (.ref b1), .val (.ref r1), .val (.int (Int32.ofNat (g1 + 1)))] [(.int (2 : Int32))])) _
      refine XS.ifNo X227.here hx rfl (hb hby at_420) rfl ((if0 _ _).trans (tlt (by decide : (0 : Int32) < (2 : Int32))).2.2.2) ?_
      show Steps p.tables e below (T227.setTop (mkF m 423 #[.val (.int p1), .val (.int p2), .val (.int p3), .val (.int p4), .val (.int p5), .val (.int p6), .val (.int (2 : Int32)), .val (.ref bS), .val (.ref bD), .val (.ref bP), .val (.ref bI), .val (.ref bJ), .val (.ref b1), .val (.ref r1), .val (.int (Int32.ofNat (g1 + 1)))] [])) _
      refine XS.aload X227.here hx rfl (hb hby at_423) rfl rfl ?_
      show Steps p.tables e below (T227.setTop (mkF m 425 #[.val (.int p1), .val (.int p2), .val (.int p3), .val (.int p4), .val (.int p5), .val (.int p6), .val (.int (2 : Int32)), .val (.ref bS), .val (.ref bD), .val (.ref bP), .val (.ref bI), .val (.ref bJ), .val (.ref b1), .val (.ref r1), .val (.int (Int32.ofNat (g1 + 1)))] [(.ref r1)])) _
      refine XS.iconst X227.here hx rfl (hb hby at_425) ?_
      show Steps p.tables e below (T227.setTop (mkF m 426 #[.val (.int p1), .val (.int p2), .val (.int p3), .val (.int p4), .val (.int p5), .val (.int p6), .val (.int (2 : Int32)), .val (.ref bS), .val (.ref bD), .val (.ref bP), .val (.ref bI), .val (.ref bJ), .val (.ref b1), .val (.ref r1), .val (.int (Int32.ofNat (g1 + 1)))] [(.int (1 : Int32)), (.ref r1)])) _
      refine XS.iload X227.here hx rfl (hb hby at_426) rfl ?_
      show Steps p.tables e below (T227.setTop (mkF m 428 #[.val (.int p1), .val (.int p2), .val (.int p3), .val (.int p4), .val (.int p5), .val (.int p6), .val (.int (2 : Int32)), .val (.ref bS), .val (.ref bD), .val (.ref bP), .val (.ref bI), .val (.ref bJ), .val (.ref b1), .val (.ref r1), .val (.int (Int32.ofNat (g1 + 1)))] [(.int (2 : Int32)), (.int (1 : Int32)), (.ref r1)])) _
      refine XS.iconst X227.here hx rfl (hb hby at_428) ?_
      show Steps p.tables e below (T227.setTop (mkF m 429 #[.val (.int p1), .val (.int p2), .val (.int p3), .val (.int p4), .val (.int p5), .val (.int p6), .val (.int (2 : Int32)), .val (.ref bS), .val (.ref bD), .val (.ref bP), .val (.ref bI), .val (.ref bJ), .val (.ref b1), .val (.ref r1), .val (.int (Int32.ofNat (g1 + 1)))] [(.int (1 : Int32)), (.int (2 : Int32)), (.int (1 : Int32)), (.ref r1)])) _
      refine XS.icmpNo X227.here hx rfl (hb hby at_429) rfl (feq (by decide : ¬ ((2 : Int32) = (1 : Int32)))).1 ?_
      show Steps p.tables e below (T227.setTop (mkF m 432 #[.val (.int p1), .val (.int p2), .val (.int p3), .val (.int p4), .val (.int p5), .val (.int p6), .val (.int (2 : Int32)), .val (.ref bS), .val (.ref bD), .val (.ref bP), .val (.ref bI), .val (.ref bJ), .val (.ref b1), .val (.ref r1), .val (.int (Int32.ofNat (g1 + 1)))] [(.int (1 : Int32)), (.ref r1)])) _
      refine XS.aload X227.here hx rfl (hb hby at_432) rfl rfl ?_
      show Steps p.tables e below (T227.setTop (mkF m 434 #[.val (.int p1), .val (.int p2), .val (.int p3), .val (.int p4), .val (.int p5), .val (.int p6), .val (.int (2 : Int32)), .val (.ref bS), .val (.ref bD), .val (.ref bP), .val (.ref bI), .val (.ref bJ), .val (.ref b1), .val (.ref r1), .val (.int (Int32.ofNat (g1 + 1)))] [(.ref bS), (.int (1 : Int32)), (.ref r1)])) _
      refine XS.iconst X227.here hx rfl (hb hby at_434) ?_
      show Steps p.tables e below (T227.setTop (mkF m 435 #[.val (.int p1), .val (.int p2), .val (.int p3), .val (.int p4), .val (.int p5), .val (.int p6), .val (.int (2 : Int32)), .val (.ref bS), .val (.ref bD), .val (.ref bP), .val (.ref bI), .val (.ref bJ), .val (.ref b1), .val (.ref r1), .val (.int (Int32.ofNat (g1 + 1)))] [(.int (1 : Int32)), (.ref bS), (.int (1 : Int32)), (.ref r1)])) _
      refine X227.baloadBooleans hx (j := (1 : Int32)) (v := (.int s1)) (by rw [edf2]; exact Ao230.1) (State.isArrayOf_alike hZ.alike Ao230.2.1) Ao230.2.2 (own_ld So230 Ho230 (j := (1 : Int32)) (i := 1) (by decide) rfl (by decide) (v := (.int s1)) rfl).1 (own_ld So230 Ho230 (j := (1 : Int32)) (i := 1) (by decide) rfl (by decide) (v := (.int s1)) rfl).2 (g := (mkF m 435 #[.val (.int p1), .val (.int p2), .val (.int p3), .val (.int p4), .val (.int p5), .val (.int p6), .val (.int (2 : Int32)), .val (.ref bS), .val (.ref bD), .val (.ref bP), .val (.ref bI), .val (.ref bJ), .val (.ref b1), .val (.ref r1), .val (.int (Int32.ofNat (g1 + 1)))] [(.int (1 : Int32)), (.ref bS), (.int (1 : Int32)), (.ref r1)])) rfl rfl (hb hby at_435) _ ?_
      by_cases hc436 : s1 = (0 : Int32)
      · show Steps p.tables e below (T227.setTop (mkF m 436 #[.val (.int p1), .val (.int p2), .val (.int p3), .val (.int p4), .val (.int p5), .val (.int p6), .val (.int (2 : Int32)), .val (.ref bS), .val (.ref bD), .val (.ref bP), .val (.ref bI), .val (.ref bJ), .val (.ref b1), .val (.ref r1), .val (.int (Int32.ofNat (g1 + 1)))] [(.int s1), (.int (1 : Int32)), (.ref r1)])) _
        refine XS.ifNo X227.here hx rfl (hb hby at_436) rfl ((if0 _ _).trans (teq hc436).2) ?_
        show Steps p.tables e below (T227.setTop (mkF m 439 #[.val (.int p1), .val (.int p2), .val (.int p3), .val (.int p4), .val (.int p5), .val (.int p6), .val (.int (2 : Int32)), .val (.ref bS), .val (.ref bD), .val (.ref bP), .val (.ref bI), .val (.ref bJ), .val (.ref b1), .val (.ref r1), .val (.int (Int32.ofNat (g1 + 1)))] [(.int (1 : Int32)), (.ref r1)])) _
        refine XS.iconst X227.here hx rfl (hb hby at_439) ?_
        show Steps p.tables e below (T227.setTop (mkF m 440 #[.val (.int p1), .val (.int p2), .val (.int p3), .val (.int p4), .val (.int p5), .val (.int p6), .val (.int (2 : Int32)), .val (.ref bS), .val (.ref bD), .val (.ref bP), .val (.ref bI), .val (.ref bJ), .val (.ref b1), .val (.ref r1), .val (.int (Int32.ofNat (g1 + 1)))] [(.int (1 : Int32)), (.int (1 : Int32)), (.ref r1)])) _
        refine XS.goto X227.here hx rfl (pc0 := 440) (pc' := 444) rfl (hb hby at_440) (by decide) (by decide) ?_
        show Steps p.tables e below (T227.setTop (mkF m 444 #[.val (.int p1), .val (.int p2), .val (.int p3), .val (.int p4), .val (.int p5), .val (.int p6), .val (.int (2 : Int32)), .val (.ref bS), .val (.ref bD), .val (.ref bP), .val (.ref bI), .val (.ref bJ), .val (.ref b1), .val (.ref r1), .val (.int (Int32.ofNat (g1 + 1)))] [(.int (1 : Int32)), (.int (1 : Int32)), (.ref r1)])) _
        exact castTop (by rw [show (own_sel s1 (0 : Int32) (1 : Int32)) = (1 : Int32) from by exact (if_pos hc436).trans (rfl)]) kT
      · show Steps p.tables e below (T227.setTop (mkF m 436 #[.val (.int p1), .val (.int p2), .val (.int p3), .val (.int p4), .val (.int p5), .val (.int p6), .val (.int (2 : Int32)), .val (.ref bS), .val (.ref bD), .val (.ref bP), .val (.ref bI), .val (.ref bJ), .val (.ref b1), .val (.ref r1), .val (.int (Int32.ofNat (g1 + 1)))] [(.int s1), (.int (1 : Int32)), (.ref r1)])) _
        refine XS.ifYes X227.here hx rfl (pc0 := 436) (pc' := 443) rfl (hb hby at_436) rfl ((if0 _ _).trans (feq hc436).2) (by decide) (by decide) ?_
        show Steps p.tables e below (T227.setTop (mkF m 443 #[.val (.int p1), .val (.int p2), .val (.int p3), .val (.int p4), .val (.int p5), .val (.int p6), .val (.int (2 : Int32)), .val (.ref bS), .val (.ref bD), .val (.ref bP), .val (.ref bI), .val (.ref bJ), .val (.ref b1), .val (.ref r1), .val (.int (Int32.ofNat (g1 + 1)))] [(.int (1 : Int32)), (.ref r1)])) _
        refine XS.iconst X227.here hx rfl (hb hby at_443) ?_
        show Steps p.tables e below (T227.setTop (mkF m 444 #[.val (.int p1), .val (.int p2), .val (.int p3), .val (.int p4), .val (.int p5), .val (.int p6), .val (.int (2 : Int32)), .val (.ref bS), .val (.ref bD), .val (.ref bP), .val (.ref bI), .val (.ref bJ), .val (.ref b1), .val (.ref r1), .val (.int (Int32.ofNat (g1 + 1)))] [(.int (0 : Int32)), (.int (1 : Int32)), (.ref r1)])) _
        exact castTop (by rw [show (own_sel s1 (0 : Int32) (1 : Int32)) = (0 : Int32) from by exact (if_neg hc436).trans (rfl)]) kT)
    have pre236 : ∀ t, Steps p.tables e below (T227.setTop (mkF m 460 #[.val (.int p1), .val (.int p2), .val (.int p3), .val (.int p4), .val (.int p5), .val (.int p6), .val (.int (2 : Int32)), .val (.ref bS), .val (.ref bD), .val (.ref bP), .val (.ref bI), .val (.ref bJ), .val (.ref b1), .val (.ref r1), .val (.int (Int32.ofNat (g1 + 1)))] [(.int qA), (.int dA), (.int (0 : Int32)), (.int (0 : Int32)), (.int (own_sel s1 (0 : Int32) (1 : Int32))), (.int (1 : Int32)), (.ref r1)])) t → Steps p.tables e below (s₁.setTop (entryFrame m #[(.int p1), (.int p2), (.int p3), (.int p4), (.int p5), (.int p6)] maxLocals)) t := fun t kT => pre235 t (by
      show Steps p.tables e below (T227.setTop (mkF m 444 #[.val (.int p1), .val (.int p2), .val (.int p3), .val (.int p4), .val (.int p5), .val (.int p6), .val (.int (2 : Int32)), .val (.ref bS), .val (.ref bD), .val (.ref bP), .val (.ref bI), .val (.ref bJ), .val (.ref b1), .val (.ref r1), .val (.int (Int32.ofNat (g1 + 1)))] [(.int (own_sel s1 (0 : Int32) (1 : Int32))), (.int (1 : Int32)), (.ref r1)])) _
      refine XS.aload X227.here hx rfl (hb hby at_444) rfl rfl ?_
      show Steps p.tables e below (T227.setTop (mkF m 446 #[.val (.int p1), .val (.int p2), .val (.int p3), .val (.int p4), .val (.int p5), .val (.int p6), .val (.int (2 : Int32)), .val (.ref bS), .val (.ref bD), .val (.ref bP), .val (.ref bI), .val (.ref bJ), .val (.ref b1), .val (.ref r1), .val (.int (Int32.ofNat (g1 + 1)))] [(.ref bI), (.int (own_sel s1 (0 : Int32) (1 : Int32))), (.int (1 : Int32)), (.ref r1)])) _
      refine XS.iconst X227.here hx rfl (hb hby at_446) ?_
      show Steps p.tables e below (T227.setTop (mkF m 447 #[.val (.int p1), .val (.int p2), .val (.int p3), .val (.int p4), .val (.int p5), .val (.int p6), .val (.int (2 : Int32)), .val (.ref bS), .val (.ref bD), .val (.ref bP), .val (.ref bI), .val (.ref bJ), .val (.ref b1), .val (.ref r1), .val (.int (Int32.ofNat (g1 + 1)))] [(.int (0 : Int32)), (.ref bI), (.int (own_sel s1 (0 : Int32) (1 : Int32))), (.int (1 : Int32)), (.ref r1)])) _
      refine X227.iaload hx (j := (0 : Int32)) (v := (.int (0 : Int32))) (by rw [edf2]; exact Ao233.1) (State.isArrayOf_alike hZ.alike Ao233.2.1) Ao233.2.2 (own_ld So233 Ho233 (j := (0 : Int32)) (i := 0) (by decide) rfl (by decide) (v := (.int (0 : Int32))) rfl).1 (own_ld So233 Ho233 (j := (0 : Int32)) (i := 0) (by decide) rfl (by decide) (v := (.int (0 : Int32))) rfl).2 (g := (mkF m 447 #[.val (.int p1), .val (.int p2), .val (.int p3), .val (.int p4), .val (.int p5), .val (.int p6), .val (.int (2 : Int32)), .val (.ref bS), .val (.ref bD), .val (.ref bP), .val (.ref bI), .val (.ref bJ), .val (.ref b1), .val (.ref r1), .val (.int (Int32.ofNat (g1 + 1)))] [(.int (0 : Int32)), (.ref bI), (.int (own_sel s1 (0 : Int32) (1 : Int32))), (.int (1 : Int32)), (.ref r1)])) rfl rfl (hb hby at_447) _ ?_
      show Steps p.tables e below (T227.setTop (mkF m 448 #[.val (.int p1), .val (.int p2), .val (.int p3), .val (.int p4), .val (.int p5), .val (.int p6), .val (.int (2 : Int32)), .val (.ref bS), .val (.ref bD), .val (.ref bP), .val (.ref bI), .val (.ref bJ), .val (.ref b1), .val (.ref r1), .val (.int (Int32.ofNat (g1 + 1)))] [(.int (0 : Int32)), (.int (own_sel s1 (0 : Int32) (1 : Int32))), (.int (1 : Int32)), (.ref r1)])) _
      refine XS.aload X227.here hx rfl (hb hby at_448) rfl rfl ?_
      show Steps p.tables e below (T227.setTop (mkF m 450 #[.val (.int p1), .val (.int p2), .val (.int p3), .val (.int p4), .val (.int p5), .val (.int p6), .val (.int (2 : Int32)), .val (.ref bS), .val (.ref bD), .val (.ref bP), .val (.ref bI), .val (.ref bJ), .val (.ref b1), .val (.ref r1), .val (.int (Int32.ofNat (g1 + 1)))] [(.ref bJ), (.int (0 : Int32)), (.int (own_sel s1 (0 : Int32) (1 : Int32))), (.int (1 : Int32)), (.ref r1)])) _
      refine XS.iconst X227.here hx rfl (hb hby at_450) ?_
      show Steps p.tables e below (T227.setTop (mkF m 451 #[.val (.int p1), .val (.int p2), .val (.int p3), .val (.int p4), .val (.int p5), .val (.int p6), .val (.int (2 : Int32)), .val (.ref bS), .val (.ref bD), .val (.ref bP), .val (.ref bI), .val (.ref bJ), .val (.ref b1), .val (.ref r1), .val (.int (Int32.ofNat (g1 + 1)))] [(.int (0 : Int32)), (.ref bJ), (.int (0 : Int32)), (.int (own_sel s1 (0 : Int32) (1 : Int32))), (.int (1 : Int32)), (.ref r1)])) _
      refine X227.iaload hx (j := (0 : Int32)) (v := (.int (0 : Int32))) (by rw [edf2]; exact Ao234.1) (State.isArrayOf_alike hZ.alike Ao234.2.1) Ao234.2.2 (own_ld So234 Ho234 (j := (0 : Int32)) (i := 0) (by decide) rfl (by decide) (v := (.int (0 : Int32))) rfl).1 (own_ld So234 Ho234 (j := (0 : Int32)) (i := 0) (by decide) rfl (by decide) (v := (.int (0 : Int32))) rfl).2 (g := (mkF m 451 #[.val (.int p1), .val (.int p2), .val (.int p3), .val (.int p4), .val (.int p5), .val (.int p6), .val (.int (2 : Int32)), .val (.ref bS), .val (.ref bD), .val (.ref bP), .val (.ref bI), .val (.ref bJ), .val (.ref b1), .val (.ref r1), .val (.int (Int32.ofNat (g1 + 1)))] [(.int (0 : Int32)), (.ref bJ), (.int (0 : Int32)), (.int (own_sel s1 (0 : Int32) (1 : Int32))), (.int (1 : Int32)), (.ref r1)])) rfl rfl (hb hby at_451) _ ?_
      show Steps p.tables e below (T227.setTop (mkF m 452 #[.val (.int p1), .val (.int p2), .val (.int p3), .val (.int p4), .val (.int p5), .val (.int p6), .val (.int (2 : Int32)), .val (.ref bS), .val (.ref bD), .val (.ref bP), .val (.ref bI), .val (.ref bJ), .val (.ref b1), .val (.ref r1), .val (.int (Int32.ofNat (g1 + 1)))] [(.int (0 : Int32)), (.int (0 : Int32)), (.int (own_sel s1 (0 : Int32) (1 : Int32))), (.int (1 : Int32)), (.ref r1)])) _
      refine XS.aload X227.here hx rfl (hb hby at_452) rfl rfl ?_
      show Steps p.tables e below (T227.setTop (mkF m 454 #[.val (.int p1), .val (.int p2), .val (.int p3), .val (.int p4), .val (.int p5), .val (.int p6), .val (.int (2 : Int32)), .val (.ref bS), .val (.ref bD), .val (.ref bP), .val (.ref bI), .val (.ref bJ), .val (.ref b1), .val (.ref r1), .val (.int (Int32.ofNat (g1 + 1)))] [(.ref bD), (.int (0 : Int32)), (.int (0 : Int32)), (.int (own_sel s1 (0 : Int32) (1 : Int32))), (.int (1 : Int32)), (.ref r1)])) _
      refine XS.iconst X227.here hx rfl (hb hby at_454) ?_
      show Steps p.tables e below (T227.setTop (mkF m 455 #[.val (.int p1), .val (.int p2), .val (.int p3), .val (.int p4), .val (.int p5), .val (.int p6), .val (.int (2 : Int32)), .val (.ref bS), .val (.ref bD), .val (.ref bP), .val (.ref bI), .val (.ref bJ), .val (.ref b1), .val (.ref r1), .val (.int (Int32.ofNat (g1 + 1)))] [(.int (0 : Int32)), (.ref bD), (.int (0 : Int32)), (.int (0 : Int32)), (.int (own_sel s1 (0 : Int32) (1 : Int32))), (.int (1 : Int32)), (.ref r1)])) _
      refine X227.iaload hx (j := (0 : Int32)) (v := (.int dA)) (by rw [edf2]; exact Ao231.1) (State.isArrayOf_alike hZ.alike Ao231.2.1) Ao231.2.2 (own_ld So231 Ho231 (j := (0 : Int32)) (i := 0) (by decide) rfl (by decide) (v := (.int dA)) rfl).1 (own_ld So231 Ho231 (j := (0 : Int32)) (i := 0) (by decide) rfl (by decide) (v := (.int dA)) rfl).2 (g := (mkF m 455 #[.val (.int p1), .val (.int p2), .val (.int p3), .val (.int p4), .val (.int p5), .val (.int p6), .val (.int (2 : Int32)), .val (.ref bS), .val (.ref bD), .val (.ref bP), .val (.ref bI), .val (.ref bJ), .val (.ref b1), .val (.ref r1), .val (.int (Int32.ofNat (g1 + 1)))] [(.int (0 : Int32)), (.ref bD), (.int (0 : Int32)), (.int (0 : Int32)), (.int (own_sel s1 (0 : Int32) (1 : Int32))), (.int (1 : Int32)), (.ref r1)])) rfl rfl (hb hby at_455) _ ?_
      show Steps p.tables e below (T227.setTop (mkF m 456 #[.val (.int p1), .val (.int p2), .val (.int p3), .val (.int p4), .val (.int p5), .val (.int p6), .val (.int (2 : Int32)), .val (.ref bS), .val (.ref bD), .val (.ref bP), .val (.ref bI), .val (.ref bJ), .val (.ref b1), .val (.ref r1), .val (.int (Int32.ofNat (g1 + 1)))] [(.int dA), (.int (0 : Int32)), (.int (0 : Int32)), (.int (own_sel s1 (0 : Int32) (1 : Int32))), (.int (1 : Int32)), (.ref r1)])) _
      refine XS.aload X227.here hx rfl (hb hby at_456) rfl rfl ?_
      show Steps p.tables e below (T227.setTop (mkF m 458 #[.val (.int p1), .val (.int p2), .val (.int p3), .val (.int p4), .val (.int p5), .val (.int p6), .val (.int (2 : Int32)), .val (.ref bS), .val (.ref bD), .val (.ref bP), .val (.ref bI), .val (.ref bJ), .val (.ref b1), .val (.ref r1), .val (.int (Int32.ofNat (g1 + 1)))] [(.ref bP), (.int dA), (.int (0 : Int32)), (.int (0 : Int32)), (.int (own_sel s1 (0 : Int32) (1 : Int32))), (.int (1 : Int32)), (.ref r1)])) _
      refine XS.iconst X227.here hx rfl (hb hby at_458) ?_
      show Steps p.tables e below (T227.setTop (mkF m 459 #[.val (.int p1), .val (.int p2), .val (.int p3), .val (.int p4), .val (.int p5), .val (.int p6), .val (.int (2 : Int32)), .val (.ref bS), .val (.ref bD), .val (.ref bP), .val (.ref bI), .val (.ref bJ), .val (.ref b1), .val (.ref r1), .val (.int (Int32.ofNat (g1 + 1)))] [(.int (0 : Int32)), (.ref bP), (.int dA), (.int (0 : Int32)), (.int (0 : Int32)), (.int (own_sel s1 (0 : Int32) (1 : Int32))), (.int (1 : Int32)), (.ref r1)])) _
      refine X227.iaload hx (j := (0 : Int32)) (v := (.int qA)) (by rw [edf2]; exact Ao232.1) (State.isArrayOf_alike hZ.alike Ao232.2.1) Ao232.2.2 (own_ld So232 Ho232 (j := (0 : Int32)) (i := 0) (by decide) rfl (by decide) (v := (.int qA)) rfl).1 (own_ld So232 Ho232 (j := (0 : Int32)) (i := 0) (by decide) rfl (by decide) (v := (.int qA)) rfl).2 (g := (mkF m 459 #[.val (.int p1), .val (.int p2), .val (.int p3), .val (.int p4), .val (.int p5), .val (.int p6), .val (.int (2 : Int32)), .val (.ref bS), .val (.ref bD), .val (.ref bP), .val (.ref bI), .val (.ref bJ), .val (.ref b1), .val (.ref r1), .val (.int (Int32.ofNat (g1 + 1)))] [(.int (0 : Int32)), (.ref bP), (.int dA), (.int (0 : Int32)), (.int (0 : Int32)), (.int (own_sel s1 (0 : Int32) (1 : Int32))), (.int (1 : Int32)), (.ref r1)])) rfl rfl (hb hby at_459) _ ?_
      exact kT)
    obtain ⟨_, _, ⟨T237, L237, k237, n237⟩, -, X237, ⟨Lc237, hQ237, l237, y237, z237⟩, st237⟩ := Jvm.LawKit.callS X227 hx (y := (⟨"com/example/esteem/esteem/index/PostingsBuildPinLaw", "check", "(Lcom/example/esteem/esteem/index/Postings;ZZIIII)Z"⟩ : MethodName)) hown (mvT hZ (hw _ (List.mem_of_getElem? (i := 73) rfl))) (mvT hZ (hw _ (List.mem_of_getElem? (i := 74) rfl))) (mvT hZ (hw _ (List.mem_of_getElem? (i := 75) rfl))) (mvT hZ (hw _ (List.mem_of_getElem? (i := 76) rfl))) (by decide) (backOf (W := 0) (rmCK l Z a0 hw [] r1 (1 : Int32) (own_sel s1 (0 : Int32) (1 : Int32)) dA qA 0 0 0 xd xs xp dc2 (0 + 1 + 1) df2 sf2 pf2 T214.heap nB sz214 BP (by omega) (by decide) (by omega) (by decide) HF.2.2.1 (fun _ => HF.2.1) p20 (fun z => HF.2.2.2.2.2.1 (own_s0 zs1 z))) hZ (hw _ (List.mem_of_getElem? (i := 76) rfl)) (hw _ (List.mem_of_getElem? (i := 75) rfl)) (by decide) (by decide)) (g := (mkF m 460 #[.val (.int p1), .val (.int p2), .val (.int p3), .val (.int p4), .val (.int p5), .val (.int p6), .val (.int (2 : Int32)), .val (.ref bS), .val (.ref bD), .val (.ref bP), .val (.ref bI), .val (.ref bJ), .val (.ref b1), .val (.ref r1), .val (.int (Int32.ofNat (g1 + 1)))] [(.int qA), (.int dA), (.int (0 : Int32)), (.int (0 : Int32)), (.int (own_sel s1 (0 : Int32) (1 : Int32))), (.int (1 : Int32)), (.ref r1)])) rfl (by rw [hml]; rfl) (argsL := [(.ref r1), (.int (1 : Int32)), (.int (own_sel s1 (0 : Int32) (1 : Int32))), (.int (0 : Int32)), (.int (0 : Int32)), (.int dA), (.int qA)]) (rest := []) (lenOf pd__Lcom_example_esteem_esteem_index_Postings_ZZIIII_Z rfl) rfl (by show 2 * 0 + _ ≤ _; exact Nat.le_of_eq rfl) (hb hby at_460) (fun _ _ => ⟨rfl, edf2, (by decide : 19 + 0 ≤ _), (by decide : 63 + 0 ≤ _)⟩)
    dsimp only [Pt.U, Pt.locs, Pt.cells, Pt.slots] at X237 l237 y237 z237 st237 hQ237
    have X237 := own_st X237 (y237.trans (show _ = 19 from rfl)) (z237.trans (show _ = 63 from rfl))
    obtain ⟨rfl, N237q, ec2_1⟩ := hQ237
    have N237 := own_fr l237 N227 (own_frm hn0B N237q)
    have pre238 : ∀ t, Steps p.tables e below (T237.setTop (mkF m 463 #[.val (.int p1), .val (.int p2), .val (.int p3), .val (.int p4), .val (.int p5), .val (.int p6), .val (.int (2 : Int32)), .val (.ref bS), .val (.ref bD), .val (.ref bP), .val (.ref bI), .val (.ref bJ), .val (.ref b1), .val (.ref r1), .val (.int (Int32.ofNat (g1 + 1)))] [(.int (1 : Int32))])) t → Steps p.tables e below (s₁.setTop (entryFrame m #[(.int p1), (.int p2), (.int p3), (.int p4), (.int p5), (.int p6)] maxLocals)) t := fun t kT => pre236 t (st237 t kT)
    have pre239 : ∀ t, Steps p.tables e below (T237.setTop (mkF m 468 #[.val (.int p1), .val (.int p2), .val (.int p3), .val (.int p4), .val (.int p5), .val (.int p6), .val (.int (2 : Int32)), .val (.ref bS), .val (.ref bD), .val (.ref bP), .val (.ref bI), .val (.ref bJ), .val (.ref b1), .val (.ref r1), .val (.int (Int32.ofNat (g1 + 1)))] [])) t → Steps p.tables e below (s₁.setTop (entryFrame m #[(.int p1), (.int p2), (.int p3), (.int p4), (.int p5), (.int p6)] maxLocals)) t := fun t kT => pre238 t (by
      show Steps p.tables e below (T237.setTop (mkF m 463 #[.val (.int p1), .val (.int p2), .val (.int p3), .val (.int p4), .val (.int p5), .val (.int p6), .val (.int (2 : Int32)), .val (.ref bS), .val (.ref bD), .val (.ref bP), .val (.ref bI), .val (.ref bJ), .val (.ref b1), .val (.ref r1), .val (.int (Int32.ofNat (g1 + 1)))] [(.int (1 : Int32))])) _
      refine XS.ifYes X237.here hx rfl (pc0 := 463) (pc' := 468) rfl (hb hby at_463) rfl ((if0 _ _).trans (feq (by decide : ¬ ((1 : Int32) = (0 : Int32)))).2) (by decide) (by decide) ?_
      exact kT)
    obtain ⟨co240, ⟨Ao240, Ko240⟩, So240, Ho240⟩ := id V_bS_e214
    obtain ⟨co241, ⟨Ao241, Ko241⟩, So241, Ho241⟩ := id V_bD_e214
    obtain ⟨co242, ⟨Ao242, Ko242⟩, So242, Ho242⟩ := id V_bP_e214
    obtain ⟨co243, ⟨Ao243, Ko243⟩, So243, Ho243⟩ := id V_bI_e214
    obtain ⟨co244, ⟨Ao244, Ko244⟩, So244, Ho244⟩ := id V_bJ_e214
    have pre245 : ∀ t, Steps p.tables e below (T237.setTop (mkF m 488 #[.val (.int p1), .val (.int p2), .val (.int p3), .val (.int p4), .val (.int p5), .val (.int p6), .val (.int (2 : Int32)), .val (.ref bS), .val (.ref bD), .val (.ref bP), .val (.ref bI), .val (.ref bJ), .val (.ref b1), .val (.ref r1), .val (.int (Int32.ofNat (g1 + 1)))] [(.int (own_sel s1 (0 : Int32) (1 : Int32))), (.ref r1)])) t → Steps p.tables e below (s₁.setTop (entryFrame m #[(.int p1), (.int p2), (.int p3), (.int p4), (.int p5), (.int p6)] maxLocals)) t := fun t kT => pre239 t (by
      show Steps p.tables e below (T237.setTop (mkF m 468 #[.val (.int p1), .val (.int p2), .val (.int p3), .val (.int p4), .val (.int p5), .val (.int p6), .val (.int (2 : Int32)), .val (.ref bS), .val (.ref bD), .val (.ref bP), .val (.ref bI), .val (.ref bJ), .val (.ref b1), .val (.ref r1), .val (.int (Int32.ofNat (g1 + 1)))] [])) _
      refine XS.iload X237.here hx rfl (hb hby at_468) rfl ?_
      show Steps p.tables e below (T237.setTop (mkF m 470 #[.val (.int p1), .val (.int p2), .val (.int p3), .val (.int p4), .val (.int p5), .val (.int p6), .val (.int (2 : Int32)), .val (.ref bS), .val (.ref bD), .val (.ref bP), .val (.ref bI), .val (.ref bJ), .val (.ref b1), .val (.ref r1), .val (.int (Int32.ofNat (g1 + 1)))] [(.int (2 : Int32))])) _
      refine XS.iconst X237.here hx rfl (hb hby at_470) ?_
      show Steps p.tables e below (T237.setTop (mkF m 471 #[.val (.int p1), .val (.int p2), .val (.int p3), .val (.int p4), .val (.int p5), .val (.int p6), .val (.int (2 : Int32)), .val (.ref bS), .val (.ref bD), .val (.ref bP), .val (.ref bI), .val (.ref bJ), .val (.ref b1), .val (.ref r1), .val (.int (Int32.ofNat (g1 + 1)))] [(.int (1 : Int32)), (.int (2 : Int32))])) _
      refine XS.icmpNo X237.here hx rfl (hb hby at_471) rfl (tlt (by decide : (1 : Int32) < (2 : Int32))).2.2.2 ?_
      show Steps p.tables e below (T237.setTop (mkF m 474 #[.val (.int p1), .val (.int p2), .val (.int p3), .val (.int p4), .val (.int p5), .val (.int p6), .val (.int (2 : Int32)), .val (.ref bS), .val (.ref bD), .val (.ref bP), .val (.ref bI), .val (.ref bJ), .val (.ref b1), .val (.ref r1), .val (.int (Int32.ofNat (g1 + 1)))] [])) _
      refine XS.aload X237.here hx rfl (hb hby at_474) rfl rfl ?_
      show Steps p.tables e below (T237.setTop (mkF m 476 #[.val (.int p1), .val (.int p2), .val (.int p3), .val (.int p4), .val (.int p5), .val (.int p6), .val (.int (2 : Int32)), .val (.ref bS), .val (.ref bD), .val (.ref bP), .val (.ref bI), .val (.ref bJ), .val (.ref b1), .val (.ref r1), .val (.int (Int32.ofNat (g1 + 1)))] [(.ref r1)])) _
      refine XS.aload X237.here hx rfl (hb hby at_476) rfl rfl ?_
      show Steps p.tables e below (T237.setTop (mkF m 478 #[.val (.int p1), .val (.int p2), .val (.int p3), .val (.int p4), .val (.int p5), .val (.int p6), .val (.int (2 : Int32)), .val (.ref bS), .val (.ref bD), .val (.ref bP), .val (.ref bI), .val (.ref bJ), .val (.ref b1), .val (.ref r1), .val (.int (Int32.ofNat (g1 + 1)))] [(.ref bS), (.ref r1)])) _
      refine XS.iconst X237.here hx rfl (hb hby at_478) ?_
      show Steps p.tables e below (T237.setTop (mkF m 479 #[.val (.int p1), .val (.int p2), .val (.int p3), .val (.int p4), .val (.int p5), .val (.int p6), .val (.int (2 : Int32)), .val (.ref bS), .val (.ref bD), .val (.ref bP), .val (.ref bI), .val (.ref bJ), .val (.ref b1), .val (.ref r1), .val (.int (Int32.ofNat (g1 + 1)))] [(.int (1 : Int32)), (.ref bS), (.ref r1)])) _
      refine X237.baloadBooleans hx (j := (1 : Int32)) (v := (.int s1)) (by rw [ec2_1]; exact Ao240.1) (State.isArrayOf_alike hZ.alike Ao240.2.1) Ao240.2.2 (own_ld So240 Ho240 (j := (1 : Int32)) (i := 1) (by decide) rfl (by decide) (v := (.int s1)) rfl).1 (own_ld So240 Ho240 (j := (1 : Int32)) (i := 1) (by decide) rfl (by decide) (v := (.int s1)) rfl).2 (g := (mkF m 479 #[.val (.int p1), .val (.int p2), .val (.int p3), .val (.int p4), .val (.int p5), .val (.int p6), .val (.int (2 : Int32)), .val (.ref bS), .val (.ref bD), .val (.ref bP), .val (.ref bI), .val (.ref bJ), .val (.ref b1), .val (.ref r1), .val (.int (Int32.ofNat (g1 + 1)))] [(.int (1 : Int32)), (.ref bS), (.ref r1)])) rfl rfl (hb hby at_479) _ ?_
      by_cases hc480 : s1 = (0 : Int32)
      · show Steps p.tables e below (T237.setTop (mkF m 480 #[.val (.int p1), .val (.int p2), .val (.int p3), .val (.int p4), .val (.int p5), .val (.int p6), .val (.int (2 : Int32)), .val (.ref bS), .val (.ref bD), .val (.ref bP), .val (.ref bI), .val (.ref bJ), .val (.ref b1), .val (.ref r1), .val (.int (Int32.ofNat (g1 + 1)))] [(.int s1), (.ref r1)])) _
        refine XS.ifNo X237.here hx rfl (hb hby at_480) rfl ((if0 _ _).trans (teq hc480).2) ?_
        show Steps p.tables e below (T237.setTop (mkF m 483 #[.val (.int p1), .val (.int p2), .val (.int p3), .val (.int p4), .val (.int p5), .val (.int p6), .val (.int (2 : Int32)), .val (.ref bS), .val (.ref bD), .val (.ref bP), .val (.ref bI), .val (.ref bJ), .val (.ref b1), .val (.ref r1), .val (.int (Int32.ofNat (g1 + 1)))] [(.ref r1)])) _
        refine XS.iconst X237.here hx rfl (hb hby at_483) ?_
        show Steps p.tables e below (T237.setTop (mkF m 484 #[.val (.int p1), .val (.int p2), .val (.int p3), .val (.int p4), .val (.int p5), .val (.int p6), .val (.int (2 : Int32)), .val (.ref bS), .val (.ref bD), .val (.ref bP), .val (.ref bI), .val (.ref bJ), .val (.ref b1), .val (.ref r1), .val (.int (Int32.ofNat (g1 + 1)))] [(.int (1 : Int32)), (.ref r1)])) _
        refine XS.goto X237.here hx rfl (pc0 := 484) (pc' := 488) rfl (hb hby at_484) (by decide) (by decide) ?_
        show Steps p.tables e below (T237.setTop (mkF m 488 #[.val (.int p1), .val (.int p2), .val (.int p3), .val (.int p4), .val (.int p5), .val (.int p6), .val (.int (2 : Int32)), .val (.ref bS), .val (.ref bD), .val (.ref bP), .val (.ref bI), .val (.ref bJ), .val (.ref b1), .val (.ref r1), .val (.int (Int32.ofNat (g1 + 1)))] [(.int (1 : Int32)), (.ref r1)])) _
        exact castTop (by rw [show (own_sel s1 (0 : Int32) (1 : Int32)) = (1 : Int32) from by exact (if_pos hc480).trans (rfl)]) kT
      · show Steps p.tables e below (T237.setTop (mkF m 480 #[.val (.int p1), .val (.int p2), .val (.int p3), .val (.int p4), .val (.int p5), .val (.int p6), .val (.int (2 : Int32)), .val (.ref bS), .val (.ref bD), .val (.ref bP), .val (.ref bI), .val (.ref bJ), .val (.ref b1), .val (.ref r1), .val (.int (Int32.ofNat (g1 + 1)))] [(.int s1), (.ref r1)])) _
        refine XS.ifYes X237.here hx rfl (pc0 := 480) (pc' := 487) rfl (hb hby at_480) rfl ((if0 _ _).trans (feq hc480).2) (by decide) (by decide) ?_
        show Steps p.tables e below (T237.setTop (mkF m 487 #[.val (.int p1), .val (.int p2), .val (.int p3), .val (.int p4), .val (.int p5), .val (.int p6), .val (.int (2 : Int32)), .val (.ref bS), .val (.ref bD), .val (.ref bP), .val (.ref bI), .val (.ref bJ), .val (.ref b1), .val (.ref r1), .val (.int (Int32.ofNat (g1 + 1)))] [(.ref r1)])) _
        refine XS.iconst X237.here hx rfl (hb hby at_487) ?_
        show Steps p.tables e below (T237.setTop (mkF m 488 #[.val (.int p1), .val (.int p2), .val (.int p3), .val (.int p4), .val (.int p5), .val (.int p6), .val (.int (2 : Int32)), .val (.ref bS), .val (.ref bD), .val (.ref bP), .val (.ref bI), .val (.ref bJ), .val (.ref b1), .val (.ref r1), .val (.int (Int32.ofNat (g1 + 1)))] [(.int (0 : Int32)), (.ref r1)])) _
        exact castTop (by rw [show (own_sel s1 (0 : Int32) (1 : Int32)) = (0 : Int32) from by exact (if_neg hc480).trans (rfl)]) kT)
    have pre246 : ∀ t, Steps p.tables e below (T237.setTop (mkF m 522 #[.val (.int p1), .val (.int p2), .val (.int p3), .val (.int p4), .val (.int p5), .val (.int p6), .val (.int (2 : Int32)), .val (.ref bS), .val (.ref bD), .val (.ref bP), .val (.ref bI), .val (.ref bJ), .val (.ref b1), .val (.ref r1), .val (.int (Int32.ofNat (g1 + 1)))] [(.int qB), (.int dB), (.int (Int32.ofNat j1)), (.int (Int32.ofNat g1)), (.int (1 : Int32)), (.int (own_sel s1 (0 : Int32) (1 : Int32))), (.ref r1)])) t → Steps p.tables e below (s₁.setTop (entryFrame m #[(.int p1), (.int p2), (.int p3), (.int p4), (.int p5), (.int p6)] maxLocals)) t := fun t kT => pre245 t (by
      show Steps p.tables e below (T237.setTop (mkF m 488 #[.val (.int p1), .val (.int p2), .val (.int p3), .val (.int p4), .val (.int p5), .val (.int p6), .val (.int (2 : Int32)), .val (.ref bS), .val (.ref bD), .val (.ref bP), .val (.ref bI), .val (.ref bJ), .val (.ref b1), .val (.ref r1), .val (.int (Int32.ofNat (g1 + 1)))] [(.int (own_sel s1 (0 : Int32) (1 : Int32))), (.ref r1)])) _
      refine XS.iload X237.here hx rfl (hb hby at_488) rfl ?_
      show Steps p.tables e below (T237.setTop (mkF m 490 #[.val (.int p1), .val (.int p2), .val (.int p3), .val (.int p4), .val (.int p5), .val (.int p6), .val (.int (2 : Int32)), .val (.ref bS), .val (.ref bD), .val (.ref bP), .val (.ref bI), .val (.ref bJ), .val (.ref b1), .val (.ref r1), .val (.int (Int32.ofNat (g1 + 1)))] [(.int (2 : Int32)), (.int (own_sel s1 (0 : Int32) (1 : Int32))), (.ref r1)])) _
      refine XS.iconst X237.here hx rfl (hb hby at_490) ?_
      show Steps p.tables e below (T237.setTop (mkF m 491 #[.val (.int p1), .val (.int p2), .val (.int p3), .val (.int p4), .val (.int p5), .val (.int p6), .val (.int (2 : Int32)), .val (.ref bS), .val (.ref bD), .val (.ref bP), .val (.ref bI), .val (.ref bJ), .val (.ref b1), .val (.ref r1), .val (.int (Int32.ofNat (g1 + 1)))] [(.int (2 : Int32)), (.int (2 : Int32)), (.int (own_sel s1 (0 : Int32) (1 : Int32))), (.ref r1)])) _
      refine XS.icmpYes X237.here hx rfl (pc0 := 491) (pc' := 501) rfl (hb hby at_491) rfl (teq (by decide : (2 : Int32) = (2 : Int32))).1 (by decide) (by decide) ?_
      show Steps p.tables e below (T237.setTop (mkF m 501 #[.val (.int p1), .val (.int p2), .val (.int p3), .val (.int p4), .val (.int p5), .val (.int p6), .val (.int (2 : Int32)), .val (.ref bS), .val (.ref bD), .val (.ref bP), .val (.ref bI), .val (.ref bJ), .val (.ref b1), .val (.ref r1), .val (.int (Int32.ofNat (g1 + 1)))] [(.int (own_sel s1 (0 : Int32) (1 : Int32))), (.ref r1)])) _
      refine XS.iconst X237.here hx rfl (hb hby at_501) ?_
      show Steps p.tables e below (T237.setTop (mkF m 502 #[.val (.int p1), .val (.int p2), .val (.int p3), .val (.int p4), .val (.int p5), .val (.int p6), .val (.int (2 : Int32)), .val (.ref bS), .val (.ref bD), .val (.ref bP), .val (.ref bI), .val (.ref bJ), .val (.ref b1), .val (.ref r1), .val (.int (Int32.ofNat (g1 + 1)))] [(.int (1 : Int32)), (.int (own_sel s1 (0 : Int32) (1 : Int32))), (.ref r1)])) _
      refine XS.goto X237.here hx rfl (pc0 := 502) (pc' := 506) rfl (hb hby at_502) (by decide) (by decide) ?_
      show Steps p.tables e below (T237.setTop (mkF m 506 #[.val (.int p1), .val (.int p2), .val (.int p3), .val (.int p4), .val (.int p5), .val (.int p6), .val (.int (2 : Int32)), .val (.ref bS), .val (.ref bD), .val (.ref bP), .val (.ref bI), .val (.ref bJ), .val (.ref b1), .val (.ref r1), .val (.int (Int32.ofNat (g1 + 1)))] [(.int (1 : Int32)), (.int (own_sel s1 (0 : Int32) (1 : Int32))), (.ref r1)])) _
      refine XS.aload X237.here hx rfl (hb hby at_506) rfl rfl ?_
      show Steps p.tables e below (T237.setTop (mkF m 508 #[.val (.int p1), .val (.int p2), .val (.int p3), .val (.int p4), .val (.int p5), .val (.int p6), .val (.int (2 : Int32)), .val (.ref bS), .val (.ref bD), .val (.ref bP), .val (.ref bI), .val (.ref bJ), .val (.ref b1), .val (.ref r1), .val (.int (Int32.ofNat (g1 + 1)))] [(.ref bI), (.int (1 : Int32)), (.int (own_sel s1 (0 : Int32) (1 : Int32))), (.ref r1)])) _
      refine XS.iconst X237.here hx rfl (hb hby at_508) ?_
      show Steps p.tables e below (T237.setTop (mkF m 509 #[.val (.int p1), .val (.int p2), .val (.int p3), .val (.int p4), .val (.int p5), .val (.int p6), .val (.int (2 : Int32)), .val (.ref bS), .val (.ref bD), .val (.ref bP), .val (.ref bI), .val (.ref bJ), .val (.ref b1), .val (.ref r1), .val (.int (Int32.ofNat (g1 + 1)))] [(.int (1 : Int32)), (.ref bI), (.int (1 : Int32)), (.int (own_sel s1 (0 : Int32) (1 : Int32))), (.ref r1)])) _
      refine X237.iaload hx (j := (1 : Int32)) (v := (.int (Int32.ofNat g1))) (by rw [ec2_1]; exact Ao243.1) (State.isArrayOf_alike hZ.alike Ao243.2.1) Ao243.2.2 (own_ld So243 Ho243 (j := (1 : Int32)) (i := 1) (by decide) rfl (by decide) (v := (.int (Int32.ofNat g1))) rfl).1 (own_ld So243 Ho243 (j := (1 : Int32)) (i := 1) (by decide) rfl (by decide) (v := (.int (Int32.ofNat g1))) rfl).2 (g := (mkF m 509 #[.val (.int p1), .val (.int p2), .val (.int p3), .val (.int p4), .val (.int p5), .val (.int p6), .val (.int (2 : Int32)), .val (.ref bS), .val (.ref bD), .val (.ref bP), .val (.ref bI), .val (.ref bJ), .val (.ref b1), .val (.ref r1), .val (.int (Int32.ofNat (g1 + 1)))] [(.int (1 : Int32)), (.ref bI), (.int (1 : Int32)), (.int (own_sel s1 (0 : Int32) (1 : Int32))), (.ref r1)])) rfl rfl (hb hby at_509) _ ?_
      show Steps p.tables e below (T237.setTop (mkF m 510 #[.val (.int p1), .val (.int p2), .val (.int p3), .val (.int p4), .val (.int p5), .val (.int p6), .val (.int (2 : Int32)), .val (.ref bS), .val (.ref bD), .val (.ref bP), .val (.ref bI), .val (.ref bJ), .val (.ref b1), .val (.ref r1), .val (.int (Int32.ofNat (g1 + 1)))] [(.int (Int32.ofNat g1)), (.int (1 : Int32)), (.int (own_sel s1 (0 : Int32) (1 : Int32))), (.ref r1)])) _
      refine XS.aload X237.here hx rfl (hb hby at_510) rfl rfl ?_
      show Steps p.tables e below (T237.setTop (mkF m 512 #[.val (.int p1), .val (.int p2), .val (.int p3), .val (.int p4), .val (.int p5), .val (.int p6), .val (.int (2 : Int32)), .val (.ref bS), .val (.ref bD), .val (.ref bP), .val (.ref bI), .val (.ref bJ), .val (.ref b1), .val (.ref r1), .val (.int (Int32.ofNat (g1 + 1)))] [(.ref bJ), (.int (Int32.ofNat g1)), (.int (1 : Int32)), (.int (own_sel s1 (0 : Int32) (1 : Int32))), (.ref r1)])) _
      refine XS.iconst X237.here hx rfl (hb hby at_512) ?_
      show Steps p.tables e below (T237.setTop (mkF m 513 #[.val (.int p1), .val (.int p2), .val (.int p3), .val (.int p4), .val (.int p5), .val (.int p6), .val (.int (2 : Int32)), .val (.ref bS), .val (.ref bD), .val (.ref bP), .val (.ref bI), .val (.ref bJ), .val (.ref b1), .val (.ref r1), .val (.int (Int32.ofNat (g1 + 1)))] [(.int (1 : Int32)), (.ref bJ), (.int (Int32.ofNat g1)), (.int (1 : Int32)), (.int (own_sel s1 (0 : Int32) (1 : Int32))), (.ref r1)])) _
      refine X237.iaload hx (j := (1 : Int32)) (v := (.int (Int32.ofNat j1))) (by rw [ec2_1]; exact Ao244.1) (State.isArrayOf_alike hZ.alike Ao244.2.1) Ao244.2.2 (own_ld So244 Ho244 (j := (1 : Int32)) (i := 1) (by decide) rfl (by decide) (v := (.int (Int32.ofNat j1))) rfl).1 (own_ld So244 Ho244 (j := (1 : Int32)) (i := 1) (by decide) rfl (by decide) (v := (.int (Int32.ofNat j1))) rfl).2 (g := (mkF m 513 #[.val (.int p1), .val (.int p2), .val (.int p3), .val (.int p4), .val (.int p5), .val (.int p6), .val (.int (2 : Int32)), .val (.ref bS), .val (.ref bD), .val (.ref bP), .val (.ref bI), .val (.ref bJ), .val (.ref b1), .val (.ref r1), .val (.int (Int32.ofNat (g1 + 1)))] [(.int (1 : Int32)), (.ref bJ), (.int (Int32.ofNat g1)), (.int (1 : Int32)), (.int (own_sel s1 (0 : Int32) (1 : Int32))), (.ref r1)])) rfl rfl (hb hby at_513) _ ?_
      show Steps p.tables e below (T237.setTop (mkF m 514 #[.val (.int p1), .val (.int p2), .val (.int p3), .val (.int p4), .val (.int p5), .val (.int p6), .val (.int (2 : Int32)), .val (.ref bS), .val (.ref bD), .val (.ref bP), .val (.ref bI), .val (.ref bJ), .val (.ref b1), .val (.ref r1), .val (.int (Int32.ofNat (g1 + 1)))] [(.int (Int32.ofNat j1)), (.int (Int32.ofNat g1)), (.int (1 : Int32)), (.int (own_sel s1 (0 : Int32) (1 : Int32))), (.ref r1)])) _
      refine XS.aload X237.here hx rfl (hb hby at_514) rfl rfl ?_
      show Steps p.tables e below (T237.setTop (mkF m 516 #[.val (.int p1), .val (.int p2), .val (.int p3), .val (.int p4), .val (.int p5), .val (.int p6), .val (.int (2 : Int32)), .val (.ref bS), .val (.ref bD), .val (.ref bP), .val (.ref bI), .val (.ref bJ), .val (.ref b1), .val (.ref r1), .val (.int (Int32.ofNat (g1 + 1)))] [(.ref bD), (.int (Int32.ofNat j1)), (.int (Int32.ofNat g1)), (.int (1 : Int32)), (.int (own_sel s1 (0 : Int32) (1 : Int32))), (.ref r1)])) _
      refine XS.iconst X237.here hx rfl (hb hby at_516) ?_
      show Steps p.tables e below (T237.setTop (mkF m 517 #[.val (.int p1), .val (.int p2), .val (.int p3), .val (.int p4), .val (.int p5), .val (.int p6), .val (.int (2 : Int32)), .val (.ref bS), .val (.ref bD), .val (.ref bP), .val (.ref bI), .val (.ref bJ), .val (.ref b1), .val (.ref r1), .val (.int (Int32.ofNat (g1 + 1)))] [(.int (1 : Int32)), (.ref bD), (.int (Int32.ofNat j1)), (.int (Int32.ofNat g1)), (.int (1 : Int32)), (.int (own_sel s1 (0 : Int32) (1 : Int32))), (.ref r1)])) _
      refine X237.iaload hx (j := (1 : Int32)) (v := (.int dB)) (by rw [ec2_1]; exact Ao241.1) (State.isArrayOf_alike hZ.alike Ao241.2.1) Ao241.2.2 (own_ld So241 Ho241 (j := (1 : Int32)) (i := 1) (by decide) rfl (by decide) (v := (.int dB)) rfl).1 (own_ld So241 Ho241 (j := (1 : Int32)) (i := 1) (by decide) rfl (by decide) (v := (.int dB)) rfl).2 (g := (mkF m 517 #[.val (.int p1), .val (.int p2), .val (.int p3), .val (.int p4), .val (.int p5), .val (.int p6), .val (.int (2 : Int32)), .val (.ref bS), .val (.ref bD), .val (.ref bP), .val (.ref bI), .val (.ref bJ), .val (.ref b1), .val (.ref r1), .val (.int (Int32.ofNat (g1 + 1)))] [(.int (1 : Int32)), (.ref bD), (.int (Int32.ofNat j1)), (.int (Int32.ofNat g1)), (.int (1 : Int32)), (.int (own_sel s1 (0 : Int32) (1 : Int32))), (.ref r1)])) rfl rfl (hb hby at_517) _ ?_
      show Steps p.tables e below (T237.setTop (mkF m 518 #[.val (.int p1), .val (.int p2), .val (.int p3), .val (.int p4), .val (.int p5), .val (.int p6), .val (.int (2 : Int32)), .val (.ref bS), .val (.ref bD), .val (.ref bP), .val (.ref bI), .val (.ref bJ), .val (.ref b1), .val (.ref r1), .val (.int (Int32.ofNat (g1 + 1)))] [(.int dB), (.int (Int32.ofNat j1)), (.int (Int32.ofNat g1)), (.int (1 : Int32)), (.int (own_sel s1 (0 : Int32) (1 : Int32))), (.ref r1)])) _
      refine XS.aload X237.here hx rfl (hb hby at_518) rfl rfl ?_
      show Steps p.tables e below (T237.setTop (mkF m 520 #[.val (.int p1), .val (.int p2), .val (.int p3), .val (.int p4), .val (.int p5), .val (.int p6), .val (.int (2 : Int32)), .val (.ref bS), .val (.ref bD), .val (.ref bP), .val (.ref bI), .val (.ref bJ), .val (.ref b1), .val (.ref r1), .val (.int (Int32.ofNat (g1 + 1)))] [(.ref bP), (.int dB), (.int (Int32.ofNat j1)), (.int (Int32.ofNat g1)), (.int (1 : Int32)), (.int (own_sel s1 (0 : Int32) (1 : Int32))), (.ref r1)])) _
      refine XS.iconst X237.here hx rfl (hb hby at_520) ?_
      show Steps p.tables e below (T237.setTop (mkF m 521 #[.val (.int p1), .val (.int p2), .val (.int p3), .val (.int p4), .val (.int p5), .val (.int p6), .val (.int (2 : Int32)), .val (.ref bS), .val (.ref bD), .val (.ref bP), .val (.ref bI), .val (.ref bJ), .val (.ref b1), .val (.ref r1), .val (.int (Int32.ofNat (g1 + 1)))] [(.int (1 : Int32)), (.ref bP), (.int dB), (.int (Int32.ofNat j1)), (.int (Int32.ofNat g1)), (.int (1 : Int32)), (.int (own_sel s1 (0 : Int32) (1 : Int32))), (.ref r1)])) _
      refine X237.iaload hx (j := (1 : Int32)) (v := (.int qB)) (by rw [ec2_1]; exact Ao242.1) (State.isArrayOf_alike hZ.alike Ao242.2.1) Ao242.2.2 (own_ld So242 Ho242 (j := (1 : Int32)) (i := 1) (by decide) rfl (by decide) (v := (.int qB)) rfl).1 (own_ld So242 Ho242 (j := (1 : Int32)) (i := 1) (by decide) rfl (by decide) (v := (.int qB)) rfl).2 (g := (mkF m 521 #[.val (.int p1), .val (.int p2), .val (.int p3), .val (.int p4), .val (.int p5), .val (.int p6), .val (.int (2 : Int32)), .val (.ref bS), .val (.ref bD), .val (.ref bP), .val (.ref bI), .val (.ref bJ), .val (.ref b1), .val (.ref r1), .val (.int (Int32.ofNat (g1 + 1)))] [(.int (1 : Int32)), (.ref bP), (.int dB), (.int (Int32.ofNat j1)), (.int (Int32.ofNat g1)), (.int (1 : Int32)), (.int (own_sel s1 (0 : Int32) (1 : Int32))), (.ref r1)])) rfl rfl (hb hby at_521) _ ?_
      exact kT)
    obtain ⟨_, _, ⟨T247, L247, k247, n247⟩, -, X247, ⟨Lc247, hQ247, l247, y247, z247⟩, st247⟩ := Jvm.LawKit.callS X237 hx (y := (⟨"com/example/esteem/esteem/index/PostingsBuildPinLaw", "check", "(Lcom/example/esteem/esteem/index/Postings;ZZIIII)Z"⟩ : MethodName)) hown (mvT hZ (hw _ (List.mem_of_getElem? (i := 73) rfl))) (mvT hZ (hw _ (List.mem_of_getElem? (i := 74) rfl))) (mvT hZ (hw _ (List.mem_of_getElem? (i := 75) rfl))) (mvT hZ (hw _ (List.mem_of_getElem? (i := 76) rfl))) (by decide) (backOf (W := 0) (rmCK l Z a0 hw [] r1 (own_sel s1 (0 : Int32) (1 : Int32)) (1 : Int32) dB qB g1 j1 1 xd xs xp dc2 (0 + 1 + 1) df2 sf2 pf2 T214.heap nB sz214 BP (by omega) (by decide) (by omega) (by decide) HF.2.2.2.2.1 (fun _ => HF.2.2.2.1) p21 (fun _ => HF.2.2.2.2.2.2)) hZ (hw _ (List.mem_of_getElem? (i := 76) rfl)) (hw _ (List.mem_of_getElem? (i := 75) rfl)) (by decide) (by decide)) (g := (mkF m 522 #[.val (.int p1), .val (.int p2), .val (.int p3), .val (.int p4), .val (.int p5), .val (.int p6), .val (.int (2 : Int32)), .val (.ref bS), .val (.ref bD), .val (.ref bP), .val (.ref bI), .val (.ref bJ), .val (.ref b1), .val (.ref r1), .val (.int (Int32.ofNat (g1 + 1)))] [(.int qB), (.int dB), (.int (Int32.ofNat j1)), (.int (Int32.ofNat g1)), (.int (1 : Int32)), (.int (own_sel s1 (0 : Int32) (1 : Int32))), (.ref r1)])) rfl (by rw [hml]; rfl) (argsL := [(.ref r1), (.int (own_sel s1 (0 : Int32) (1 : Int32))), (.int (1 : Int32)), (.int (Int32.ofNat g1)), (.int (Int32.ofNat j1)), (.int dB), (.int qB)]) (rest := []) (lenOf pd__Lcom_example_esteem_esteem_index_Postings_ZZIIII_Z rfl) rfl (by show 2 * 0 + _ ≤ _; exact Nat.le_of_eq rfl) (hb hby at_522) (fun _ _ => ⟨rfl, ec2_1, (by decide : 19 + 0 ≤ _), (by decide : 63 + 0 ≤ _)⟩)
    dsimp only [Pt.U, Pt.locs, Pt.cells, Pt.slots] at X247 l247 y247 z247 st247 hQ247
    have X247 := own_st X247 (y247.trans (show _ = 19 from rfl)) (z247.trans (show _ = 63 from rfl))
    obtain ⟨rfl, N247q, ec2_2⟩ := hQ247
    have N247 := own_fr l247 N237 (own_frm hn0B N247q)
    have pre248 : ∀ t, Steps p.tables e below (T247.setTop (mkF m 525 #[.val (.int p1), .val (.int p2), .val (.int p3), .val (.int p4), .val (.int p5), .val (.int p6), .val (.int (2 : Int32)), .val (.ref bS), .val (.ref bD), .val (.ref bP), .val (.ref bI), .val (.ref bJ), .val (.ref b1), .val (.ref r1), .val (.int (Int32.ofNat (g1 + 1)))] [(.int (1 : Int32))])) t → Steps p.tables e below (s₁.setTop (entryFrame m #[(.int p1), (.int p2), (.int p3), (.int p4), (.int p5), (.int p6)] maxLocals)) t := fun t kT => pre246 t (st247 t kT)
    have pre249 : ∀ t, Steps p.tables e below (T247.setTop (mkF m 530 #[.val (.int p1), .val (.int p2), .val (.int p3), .val (.int p4), .val (.int p5), .val (.int p6), .val (.int (2 : Int32)), .val (.ref bS), .val (.ref bD), .val (.ref bP), .val (.ref bI), .val (.ref bJ), .val (.ref b1), .val (.ref r1), .val (.int (Int32.ofNat (g1 + 1)))] [])) t → Steps p.tables e below (s₁.setTop (entryFrame m #[(.int p1), (.int p2), (.int p3), (.int p4), (.int p5), (.int p6)] maxLocals)) t := fun t kT => pre248 t (by
      show Steps p.tables e below (T247.setTop (mkF m 525 #[.val (.int p1), .val (.int p2), .val (.int p3), .val (.int p4), .val (.int p5), .val (.int p6), .val (.int (2 : Int32)), .val (.ref bS), .val (.ref bD), .val (.ref bP), .val (.ref bI), .val (.ref bJ), .val (.ref b1), .val (.ref r1), .val (.int (Int32.ofNat (g1 + 1)))] [(.int (1 : Int32))])) _
      refine XS.ifYes X247.here hx rfl (pc0 := 525) (pc' := 530) rfl (hb hby at_525) rfl ((if0 _ _).trans (feq (by decide : ¬ ((1 : Int32) = (0 : Int32)))).2) (by decide) (by decide) ?_
      exact kT)
    obtain ⟨co250, ⟨Ao250, Ko250⟩, So250, Ho250⟩ := id V_bS_e214
    obtain ⟨co251, ⟨Ao251, Ko251⟩, So251, Ho251⟩ := id V_bD_e214
    obtain ⟨co252, ⟨Ao252, Ko252⟩, So252, Ho252⟩ := id V_bP_e214
    obtain ⟨co253, ⟨Ao253, Ko253⟩, So253, Ho253⟩ := id V_bI_e214
    obtain ⟨co254, ⟨Ao254, Ko254⟩, So254, Ho254⟩ := id V_bJ_e214
    have pre255 : ∀ t, Steps p.tables e below (T247.setTop (mkF m 576 #[.val (.int p1), .val (.int p2), .val (.int p3), .val (.int p4), .val (.int p5), .val (.int p6), .val (.int (2 : Int32)), .val (.ref bS), .val (.ref bD), .val (.ref bP), .val (.ref bI), .val (.ref bJ), .val (.ref b1), .val (.ref r1), .val (.int (Int32.ofNat (g1 + 1)))] [(.int (1 : Int32))])) t → Steps p.tables e below (s₁.setTop (entryFrame m #[(.int p1), (.int p2), (.int p3), (.int p4), (.int p5), (.int p6)] maxLocals)) t := fun t kT => pre249 t (by
      show Steps p.tables e below (T247.setTop (mkF m 530 #[.val (.int p1), .val (.int p2), .val (.int p3), .val (.int p4), .val (.int p5), .val (.int p6), .val (.int (2 : Int32)), .val (.ref bS), .val (.ref bD), .val (.ref bP), .val (.ref bI), .val (.ref bJ), .val (.ref b1), .val (.ref r1), .val (.int (Int32.ofNat (g1 + 1)))] [])) _
      refine XS.iload X247.here hx rfl (hb hby at_530) rfl ?_
      show Steps p.tables e below (T247.setTop (mkF m 532 #[.val (.int p1), .val (.int p2), .val (.int p3), .val (.int p4), .val (.int p5), .val (.int p6), .val (.int (2 : Int32)), .val (.ref bS), .val (.ref bD), .val (.ref bP), .val (.ref bI), .val (.ref bJ), .val (.ref b1), .val (.ref r1), .val (.int (Int32.ofNat (g1 + 1)))] [(.int (2 : Int32))])) _
      refine XS.iconst X247.here hx rfl (hb hby at_532) ?_
      show Steps p.tables e below (T247.setTop (mkF m 533 #[.val (.int p1), .val (.int p2), .val (.int p3), .val (.int p4), .val (.int p5), .val (.int p6), .val (.int (2 : Int32)), .val (.ref bS), .val (.ref bD), .val (.ref bP), .val (.ref bI), .val (.ref bJ), .val (.ref b1), .val (.ref r1), .val (.int (Int32.ofNat (g1 + 1)))] [(.int (2 : Int32)), (.int (2 : Int32))])) _
      refine XS.icmpYes X247.here hx rfl (pc0 := 533) (pc' := 575) rfl (hb hby at_533) rfl (flt (by decide : ¬ ((2 : Int32) < (2 : Int32)))).2.2.2 (by decide) (by decide) ?_
      show Steps p.tables e below (T247.setTop (mkF m 575 #[.val (.int p1), .val (.int p2), .val (.int p3), .val (.int p4), .val (.int p5), .val (.int p6), .val (.int (2 : Int32)), .val (.ref bS), .val (.ref bD), .val (.ref bP), .val (.ref bI), .val (.ref bJ), .val (.ref b1), .val (.ref r1), .val (.int (Int32.ofNat (g1 + 1)))] [])) _
      refine XS.iconst X247.here hx rfl (hb hby at_575) ?_
      exact kT)
    obtain ⟨fs, hr, hrun, hended, hW, hsame⟩ := X247.leave (v := some (.int (1 : Int32))) (fun h => by rw [Bd.returns] at h; cases h)
    refine ⟨_, _, pre255 _ ?_, hrun, hended, _, _, rfl, ?_, ⟨_, rfl⟩, hW, hsame.mono (by decide) (by decide)⟩
    · exact retN X247 hx (t := .boolean) Bd.returns (by simp) (hb hby at_576) hr
    · exact ⟨rfl, N247⟩
  · have pre256 : ∀ t, Steps p.tables e below (T128.setTop (mkF m 328 #[.val (.int p1), .val (.int p2), .val (.int p3), .val (.int p4), .val (.int p5), .val (.int p6), .val (.int (3 : Int32)), .val (.ref bS), .val (.ref bD), .val (.ref bP), .val (.ref bI), .val (.ref bJ), .val (.ref b1), .unset, .unset] [])) t → Steps p.tables e below (s₁.setTop (entryFrame m #[(.int p1), (.int p2), (.int p3), (.int p4), (.int p5), (.int p6)] maxLocals)) t := fun t kT => pre130 t (by
      show Steps p.tables e below (T128.setTop (mkF m 325 #[.val (.int p1), .val (.int p2), .val (.int p3), .val (.int p4), .val (.int p5), .val (.int p6), .val (.int (3 : Int32)), .val (.ref bS), .val (.ref bD), .val (.ref bP), .val (.ref bI), .val (.ref bJ), .val (.ref b1), .unset, .unset] [(.int (3 : Int32))])) _
      refine XS.ifNo X128.here hx rfl (hb hby at_325) rfl ((if0 _ _).trans (tlt (by decide : (0 : Int32) < (3 : Int32))).2.2.2) ?_
      exact kT)
    obtain ⟨co257, ⟨Ao257, Ko257⟩, So257, Ho257⟩ := id V_bD_e128
    obtain ⟨co258, ⟨Ao258, Ko258⟩, So258, Ho258⟩ := id V_bP_e128
    have pre259 : ∀ t, Steps p.tables e below (T128.setTop (mkF m 338 #[.val (.int p1), .val (.int p2), .val (.int p3), .val (.int p4), .val (.int p5), .val (.int p6), .val (.int (3 : Int32)), .val (.ref bS), .val (.ref bD), .val (.ref bP), .val (.ref bI), .val (.ref bJ), .val (.ref b1), .unset, .unset] [(.int qA), (.int dA), (.ref b1)])) t → Steps p.tables e below (s₁.setTop (entryFrame m #[(.int p1), (.int p2), (.int p3), (.int p4), (.int p5), (.int p6)] maxLocals)) t := fun t kT => pre256 t (by
      show Steps p.tables e below (T128.setTop (mkF m 328 #[.val (.int p1), .val (.int p2), .val (.int p3), .val (.int p4), .val (.int p5), .val (.int p6), .val (.int (3 : Int32)), .val (.ref bS), .val (.ref bD), .val (.ref bP), .val (.ref bI), .val (.ref bJ), .val (.ref b1), .unset, .unset] [])) _
      refine XS.aload X128.here hx rfl (hb hby at_328) rfl rfl ?_
      show Steps p.tables e below (T128.setTop (mkF m 330 #[.val (.int p1), .val (.int p2), .val (.int p3), .val (.int p4), .val (.int p5), .val (.int p6), .val (.int (3 : Int32)), .val (.ref bS), .val (.ref bD), .val (.ref bP), .val (.ref bI), .val (.ref bJ), .val (.ref b1), .unset, .unset] [(.ref b1)])) _
      refine XS.aload X128.here hx rfl (hb hby at_330) rfl rfl ?_
      show Steps p.tables e below (T128.setTop (mkF m 332 #[.val (.int p1), .val (.int p2), .val (.int p3), .val (.int p4), .val (.int p5), .val (.int p6), .val (.int (3 : Int32)), .val (.ref bS), .val (.ref bD), .val (.ref bP), .val (.ref bI), .val (.ref bJ), .val (.ref b1), .unset, .unset] [(.ref bD), (.ref b1)])) _
      refine XS.iconst X128.here hx rfl (hb hby at_332) ?_
      show Steps p.tables e below (T128.setTop (mkF m 333 #[.val (.int p1), .val (.int p2), .val (.int p3), .val (.int p4), .val (.int p5), .val (.int p6), .val (.int (3 : Int32)), .val (.ref bS), .val (.ref bD), .val (.ref bP), .val (.ref bI), .val (.ref bJ), .val (.ref b1), .unset, .unset] [(.int (0 : Int32)), (.ref bD), (.ref b1)])) _
      refine X128.iaload hx (j := (0 : Int32)) (v := (.int dA)) Ao257.1 (State.isArrayOf_alike hZ.alike Ao257.2.1) Ao257.2.2 (own_ld So257 Ho257 (j := (0 : Int32)) (i := 0) (by decide) rfl (by decide) (v := (.int dA)) rfl).1 (own_ld So257 Ho257 (j := (0 : Int32)) (i := 0) (by decide) rfl (by decide) (v := (.int dA)) rfl).2 (g := (mkF m 333 #[.val (.int p1), .val (.int p2), .val (.int p3), .val (.int p4), .val (.int p5), .val (.int p6), .val (.int (3 : Int32)), .val (.ref bS), .val (.ref bD), .val (.ref bP), .val (.ref bI), .val (.ref bJ), .val (.ref b1), .unset, .unset] [(.int (0 : Int32)), (.ref bD), (.ref b1)])) rfl rfl (hb hby at_333) _ ?_
      show Steps p.tables e below (T128.setTop (mkF m 334 #[.val (.int p1), .val (.int p2), .val (.int p3), .val (.int p4), .val (.int p5), .val (.int p6), .val (.int (3 : Int32)), .val (.ref bS), .val (.ref bD), .val (.ref bP), .val (.ref bI), .val (.ref bJ), .val (.ref b1), .unset, .unset] [(.int dA), (.ref b1)])) _
      refine XS.aload X128.here hx rfl (hb hby at_334) rfl rfl ?_
      show Steps p.tables e below (T128.setTop (mkF m 336 #[.val (.int p1), .val (.int p2), .val (.int p3), .val (.int p4), .val (.int p5), .val (.int p6), .val (.int (3 : Int32)), .val (.ref bS), .val (.ref bD), .val (.ref bP), .val (.ref bI), .val (.ref bJ), .val (.ref b1), .unset, .unset] [(.ref bP), (.int dA), (.ref b1)])) _
      refine XS.iconst X128.here hx rfl (hb hby at_336) ?_
      show Steps p.tables e below (T128.setTop (mkF m 337 #[.val (.int p1), .val (.int p2), .val (.int p3), .val (.int p4), .val (.int p5), .val (.int p6), .val (.int (3 : Int32)), .val (.ref bS), .val (.ref bD), .val (.ref bP), .val (.ref bI), .val (.ref bJ), .val (.ref b1), .unset, .unset] [(.int (0 : Int32)), (.ref bP), (.int dA), (.ref b1)])) _
      refine X128.iaload hx (j := (0 : Int32)) (v := (.int qA)) Ao258.1 (State.isArrayOf_alike hZ.alike Ao258.2.1) Ao258.2.2 (own_ld So258 Ho258 (j := (0 : Int32)) (i := 0) (by decide) rfl (by decide) (v := (.int qA)) rfl).1 (own_ld So258 Ho258 (j := (0 : Int32)) (i := 0) (by decide) rfl (by decide) (v := (.int qA)) rfl).2 (g := (mkF m 337 #[.val (.int p1), .val (.int p2), .val (.int p3), .val (.int p4), .val (.int p5), .val (.int p6), .val (.int (3 : Int32)), .val (.ref bS), .val (.ref bD), .val (.ref bP), .val (.ref bI), .val (.ref bJ), .val (.ref b1), .unset, .unset] [(.int (0 : Int32)), (.ref bP), (.int dA), (.ref b1)])) rfl rfl (hb hby at_337) _ ?_
      exact kT)
    obtain ⟨cI260, kI260, q260a, q260b, q260c⟩ := isOf hZ rfl B0.1.2.2.2.2.2
    have pre261 : ∀ t, Steps p.tables e below (T128.setTop (mkF m 338 #[.val (.int p1), .val (.int p2), .val (.int p3), .val (.int p4), .val (.int p5), .val (.int p6), .val (.int (3 : Int32)), .val (.ref bS), .val (.ref bD), .val (.ref bP), .val (.ref bI), .val (.ref bJ), .val (.ref b1), .unset, .unset] [(.int qA), (.int dA), (.ref b1)])) t → Steps p.tables e below (s₁.setTop (entryFrame m #[(.int p1), (.int p2), (.int p3), (.int p4), (.int p5), (.int p6)] maxLocals)) t := fun t kT => pre259 t (by
      exact kT)
    obtain ⟨_, _, ⟨T262, L262, k262, n262⟩, -, X262, ⟨Lc262, hQ262, l262, y262, z262⟩, st262⟩ := X128.virtualBack hx (y := (⟨"com/example/esteem/esteem/index/Postings$Builder", "add", "(II)V"⟩ : MethodName)) (z := (⟨"com/example/esteem/esteem/index/Postings$Builder", "add", "(II)V"⟩ : MethodName)) hown (mvT hZ (hw _ (List.mem_of_getElem? (i := 59) rfl))) (mvT hZ (hw _ (List.mem_of_getElem? (i := 60) rfl))) (notFace_of_selects (args := #[]) (mvT hZ (hw _ (List.mem_of_getElem? (i := 62) rfl)))) (mvT hZ (hw _ (List.mem_of_getElem? (i := 62) rfl))) (mvT hZ (hw _ (List.mem_of_getElem? (i := 61) rfl))) (by decide) (backOf (W := 0) (rmA l Z a0 hw [] b1 dA qA dd0 ds0 dp0 1 2 1 0 0 (fun _ => (0 : Int32)) (fun _ => (0 : Int32)) (fun _ => (0 : Int32)) T128.heap nB sz128 B0 (by decide) (by decide) (Or.inl rfl) (own_nlt (by show ¬ dA.toInt < -1; omega)) (own_nlt0 mQ.1) (fun z => absurd (congrArg Int32.toInt z) (by show ¬ dA.toInt = -1; omega))) hZ (hw _ (List.mem_of_getElem? (i := 63) rfl)) (hw _ (List.mem_of_getElem? (i := 7) rfl)) (by decide) (by decide)) q260a q260c (g := (mkF m 338 #[.val (.int p1), .val (.int p2), .val (.int p3), .val (.int p4), .val (.int p5), .val (.int p6), .val (.int (3 : Int32)), .val (.ref bS), .val (.ref bD), .val (.ref bP), .val (.ref bI), .val (.ref bJ), .val (.ref b1), .unset, .unset] [(.int qA), (.int dA), (.ref b1)])) rfl (by rw [hml]; rfl) (Steps.refl _) (argsL := [(.int dA), (.int qA)]) (rest := []) (lenOf pd__II_V rfl) rfl (by show 2 * 0 + _ ≤ _; exact Nat.le_of_eq rfl) (hb hby at_338) (fun _ _ => ⟨rfl, rfl, (by decide : 9 + 3 ≤ _), (by decide : 24 + 13 ≤ _)⟩)
    dsimp only [Pt.U, Pt.locs, Pt.cells, Pt.slots] at X262 l262 y262 z262 st262 hQ262
    have X262 := own_st X262 (y262.trans (show _ = 12 from rfl)) (z262.trans (show _ = 37 from rfl))
    obtain ⟨rfl, N262q, ky1, dd1, ds1, dp1, dl1, sl1, pl1, B1⟩ := hQ262
    have N262 := own_fr l262 N128 (own_frm hn0B N262q)
    have pre263 : ∀ t, Steps p.tables e below (T262.setTop (mkF m 341 #[.val (.int p1), .val (.int p2), .val (.int p3), .val (.int p4), .val (.int p5), .val (.int p6), .val (.int (3 : Int32)), .val (.ref bS), .val (.ref bD), .val (.ref bP), .val (.ref bI), .val (.ref bJ), .val (.ref b1), .unset, .unset] [])) t → Steps p.tables e below (s₁.setTop (entryFrame m #[(.int p1), (.int p2), (.int p3), (.int p4), (.int p5), (.int p6)] maxLocals)) t := fun t kT => pre261 t (st262.trans kT)
    have V_bS_e262 : own_Ar Z T262.heap bS .boolean 3 (own_upd (own_upd (own_upd (fun _ => (.int (0 : Int32))) 0 (.int (nar .boolean (0 : Int32)))) 1 (.int s1)) 2 (.int s2)) := V_bS_e128.keep ky1 (ninS ne_bS_b1 (ninS (Nat.ne_of_lt (Nat.lt_of_lt_of_le lt_bS B0.2.2.2.1.2.1)) (ninS (Nat.ne_of_lt (Nat.lt_of_lt_of_le lt_bS B0.2.2.2.1.2.2.1)) (ninS (Nat.ne_of_lt (Nat.lt_of_lt_of_le lt_bS B0.2.2.2.1.2.2.2)) nin0))))
    have V_bD_e262 : own_Ar Z T262.heap bD .int 3 (own_upd (own_upd (own_upd (fun _ => (.int (0 : Int32))) 0 (.int dA)) 1 (.int dB)) 2 (.int dC)) := V_bD_e128.keep ky1 (ninS ne_bD_b1 (ninS (Nat.ne_of_lt (Nat.lt_of_lt_of_le lt_bD B0.2.2.2.1.2.1)) (ninS (Nat.ne_of_lt (Nat.lt_of_lt_of_le lt_bD B0.2.2.2.1.2.2.1)) (ninS (Nat.ne_of_lt (Nat.lt_of_lt_of_le lt_bD B0.2.2.2.1.2.2.2)) nin0))))
    have V_bP_e262 : own_Ar Z T262.heap bP .int 3 (own_upd (own_upd (own_upd (fun _ => (.int (0 : Int32))) 0 (.int qA)) 1 (.int qB)) 2 (.int qC)) := V_bP_e128.keep ky1 (ninS ne_bP_b1 (ninS (Nat.ne_of_lt (Nat.lt_of_lt_of_le lt_bP B0.2.2.2.1.2.1)) (ninS (Nat.ne_of_lt (Nat.lt_of_lt_of_le lt_bP B0.2.2.2.1.2.2.1)) (ninS (Nat.ne_of_lt (Nat.lt_of_lt_of_le lt_bP B0.2.2.2.1.2.2.2)) nin0))))
    have V_bI_e262 : own_Ar Z T262.heap bI .int 3 (own_upd (own_upd (own_upd (fun _ => (.int (0 : Int32))) 0 (.int (0 : Int32))) 1 (.int (Int32.ofNat g1))) 2 (.int (Int32.ofNat g2))) := V_bI_e128.keep ky1 (ninS ne_bI_b1 (ninS (Nat.ne_of_lt (Nat.lt_of_lt_of_le lt_bI B0.2.2.2.1.2.1)) (ninS (Nat.ne_of_lt (Nat.lt_of_lt_of_le lt_bI B0.2.2.2.1.2.2.1)) (ninS (Nat.ne_of_lt (Nat.lt_of_lt_of_le lt_bI B0.2.2.2.1.2.2.2)) nin0))))
    have V_bJ_e262 : own_Ar Z T262.heap bJ .int 3 (own_upd (own_upd (own_upd (fun _ => (.int (0 : Int32))) 0 (.int (0 : Int32))) 1 (.int (Int32.ofNat j1))) 2 (.int (Int32.ofNat j2))) := V_bJ_e128.keep ky1 (ninS ne_bJ_b1 (ninS (Nat.ne_of_lt (Nat.lt_of_lt_of_le lt_bJ B0.2.2.2.1.2.1)) (ninS (Nat.ne_of_lt (Nat.lt_of_lt_of_le lt_bJ B0.2.2.2.1.2.2.1)) (ninS (Nat.ne_of_lt (Nat.lt_of_lt_of_le lt_bJ B0.2.2.2.1.2.2.2)) nin0))))
    have sz262 : nB ≤ T262.heap.size := Nat.le_trans sz128 ky1.1
    have nA : ¬ dA = own_last 0 (fun _ => (0 : Int32)) := fun z => absurd (congrArg Int32.toInt z) (by show ¬ dA.toInt = -1; omega)
    obtain ⟨df1, hdf1⟩ : ∃ z, z = own_updI (fun _ => (0 : Int32)) 0 dA := ⟨_, rfl⟩
    obtain ⟨sf1, hsf1⟩ : ∃ z, z = own_updI (own_updI (fun _ => (0 : Int32)) 0 (Int32.ofNat 0)) (0 + 1) (Int32.ofNat (0 + 1)) := ⟨_, rfl⟩
    obtain ⟨pf1, hpf1⟩ : ∃ z, z = own_updI (fun _ => (0 : Int32)) 0 qA := ⟨_, rfl⟩
    rw [show own_ndc 0 (fun _ => (0 : Int32)) dA = 1 from if_neg nA, show own_ndf 0 (fun _ => (0 : Int32)) dA = df1 from (if_neg nA).trans hdf1.symm, show own_nsf 0 0 (fun _ => (0 : Int32)) (fun _ => (0 : Int32)) dA = sf1 from (if_neg nA).trans hsf1.symm, ← hpf1] at B1
    have l1 : own_last 1 df1 = dA := by rw [hdf1]; rfl
    have p10 : pf1 0 = qA := by rw [hpf1]; rfl
    have pre264 : ∀ t, Steps p.tables e below (T262.setTop (mkF m 352 #[.val (.int p1), .val (.int p2), .val (.int p3), .val (.int p4), .val (.int p5), .val (.int p6), .val (.int (3 : Int32)), .val (.ref bS), .val (.ref bD), .val (.ref bP), .val (.ref bI), .val (.ref bJ), .val (.ref b1), .unset, .unset] [(.int (1 : Int32)), (.ref bD), (.ref b1)])) t → Steps p.tables e below (s₁.setTop (entryFrame m #[(.int p1), (.int p2), (.int p3), (.int p4), (.int p5), (.int p6)] maxLocals)) t := fun t kT => pre263 t (by
      show Steps p.tables e below (T262.setTop (mkF m 341 #[.val (.int p1), .val (.int p2), .val (.int p3), .val (.int p4), .val (.int p5), .val (.int p6), .val (.int (3 : Int32)), .val (.ref bS), .val (.ref bD), .val (.ref bP), .val (.ref bI), .val (.ref bJ), .val (.ref b1), .unset, .unset] [])) _
      refine XS.iload X262.here hx rfl (hb hby at_341) rfl ?_
      show Steps p.tables e below (T262.setTop (mkF m 343 #[.val (.int p1), .val (.int p2), .val (.int p3), .val (.int p4), .val (.int p5), .val (.int p6), .val (.int (3 : Int32)), .val (.ref bS), .val (.ref bD), .val (.ref bP), .val (.ref bI), .val (.ref bJ), .val (.ref b1), .unset, .unset] [(.int (3 : Int32))])) _
      refine XS.iconst X262.here hx rfl (hb hby at_343) ?_
      show Steps p.tables e below (T262.setTop (mkF m 344 #[.val (.int p1), .val (.int p2), .val (.int p3), .val (.int p4), .val (.int p5), .val (.int p6), .val (.int (3 : Int32)), .val (.ref bS), .val (.ref bD), .val (.ref bP), .val (.ref bI), .val (.ref bJ), .val (.ref b1), .unset, .unset] [(.int (1 : Int32)), (.int (3 : Int32))])) _
      refine XS.icmpNo X262.here hx rfl (hb hby at_344) rfl (tlt (by decide : (1 : Int32) < (3 : Int32))).2.2.2 ?_
      show Steps p.tables e below (T262.setTop (mkF m 347 #[.val (.int p1), .val (.int p2), .val (.int p3), .val (.int p4), .val (.int p5), .val (.int p6), .val (.int (3 : Int32)), .val (.ref bS), .val (.ref bD), .val (.ref bP), .val (.ref bI), .val (.ref bJ), .val (.ref b1), .unset, .unset] [])) _
      refine XS.aload X262.here hx rfl (hb hby at_347) rfl rfl ?_
      show Steps p.tables e below (T262.setTop (mkF m 349 #[.val (.int p1), .val (.int p2), .val (.int p3), .val (.int p4), .val (.int p5), .val (.int p6), .val (.int (3 : Int32)), .val (.ref bS), .val (.ref bD), .val (.ref bP), .val (.ref bI), .val (.ref bJ), .val (.ref b1), .unset, .unset] [(.ref b1)])) _
      refine XS.aload X262.here hx rfl (hb hby at_349) rfl rfl ?_
      show Steps p.tables e below (T262.setTop (mkF m 351 #[.val (.int p1), .val (.int p2), .val (.int p3), .val (.int p4), .val (.int p5), .val (.int p6), .val (.int (3 : Int32)), .val (.ref bS), .val (.ref bD), .val (.ref bP), .val (.ref bI), .val (.ref bJ), .val (.ref b1), .unset, .unset] [(.ref bD), (.ref b1)])) _
      refine XS.iconst X262.here hx rfl (hb hby at_351) ?_
      exact kT)
    obtain ⟨co265, ⟨Ao265, Ko265⟩, So265, Ho265⟩ := id V_bD_e262
    obtain ⟨co266, ⟨Ao266, Ko266⟩, So266, Ho266⟩ := id V_bP_e262
    have pre267 : ∀ t, Steps p.tables e below (T262.setTop (mkF m 357 #[.val (.int p1), .val (.int p2), .val (.int p3), .val (.int p4), .val (.int p5), .val (.int p6), .val (.int (3 : Int32)), .val (.ref bS), .val (.ref bD), .val (.ref bP), .val (.ref bI), .val (.ref bJ), .val (.ref b1), .unset, .unset] [(.int qB), (.int dB), (.ref b1)])) t → Steps p.tables e below (s₁.setTop (entryFrame m #[(.int p1), (.int p2), (.int p3), (.int p4), (.int p5), (.int p6)] maxLocals)) t := fun t kT => pre264 t (by
      show Steps p.tables e below (T262.setTop (mkF m 352 #[.val (.int p1), .val (.int p2), .val (.int p3), .val (.int p4), .val (.int p5), .val (.int p6), .val (.int (3 : Int32)), .val (.ref bS), .val (.ref bD), .val (.ref bP), .val (.ref bI), .val (.ref bJ), .val (.ref b1), .unset, .unset] [(.int (1 : Int32)), (.ref bD), (.ref b1)])) _
      refine X262.iaload hx (j := (1 : Int32)) (v := (.int dB)) Ao265.1 (State.isArrayOf_alike hZ.alike Ao265.2.1) Ao265.2.2 (own_ld So265 Ho265 (j := (1 : Int32)) (i := 1) (by decide) rfl (by decide) (v := (.int dB)) rfl).1 (own_ld So265 Ho265 (j := (1 : Int32)) (i := 1) (by decide) rfl (by decide) (v := (.int dB)) rfl).2 (g := (mkF m 352 #[.val (.int p1), .val (.int p2), .val (.int p3), .val (.int p4), .val (.int p5), .val (.int p6), .val (.int (3 : Int32)), .val (.ref bS), .val (.ref bD), .val (.ref bP), .val (.ref bI), .val (.ref bJ), .val (.ref b1), .unset, .unset] [(.int (1 : Int32)), (.ref bD), (.ref b1)])) rfl rfl (hb hby at_352) _ ?_
      show Steps p.tables e below (T262.setTop (mkF m 353 #[.val (.int p1), .val (.int p2), .val (.int p3), .val (.int p4), .val (.int p5), .val (.int p6), .val (.int (3 : Int32)), .val (.ref bS), .val (.ref bD), .val (.ref bP), .val (.ref bI), .val (.ref bJ), .val (.ref b1), .unset, .unset] [(.int dB), (.ref b1)])) _
      refine XS.aload X262.here hx rfl (hb hby at_353) rfl rfl ?_
      show Steps p.tables e below (T262.setTop (mkF m 355 #[.val (.int p1), .val (.int p2), .val (.int p3), .val (.int p4), .val (.int p5), .val (.int p6), .val (.int (3 : Int32)), .val (.ref bS), .val (.ref bD), .val (.ref bP), .val (.ref bI), .val (.ref bJ), .val (.ref b1), .unset, .unset] [(.ref bP), (.int dB), (.ref b1)])) _
      refine XS.iconst X262.here hx rfl (hb hby at_355) ?_
      show Steps p.tables e below (T262.setTop (mkF m 356 #[.val (.int p1), .val (.int p2), .val (.int p3), .val (.int p4), .val (.int p5), .val (.int p6), .val (.int (3 : Int32)), .val (.ref bS), .val (.ref bD), .val (.ref bP), .val (.ref bI), .val (.ref bJ), .val (.ref b1), .unset, .unset] [(.int (1 : Int32)), (.ref bP), (.int dB), (.ref b1)])) _
      refine X262.iaload hx (j := (1 : Int32)) (v := (.int qB)) Ao266.1 (State.isArrayOf_alike hZ.alike Ao266.2.1) Ao266.2.2 (own_ld So266 Ho266 (j := (1 : Int32)) (i := 1) (by decide) rfl (by decide) (v := (.int qB)) rfl).1 (own_ld So266 Ho266 (j := (1 : Int32)) (i := 1) (by decide) rfl (by decide) (v := (.int qB)) rfl).2 (g := (mkF m 356 #[.val (.int p1), .val (.int p2), .val (.int p3), .val (.int p4), .val (.int p5), .val (.int p6), .val (.int (3 : Int32)), .val (.ref bS), .val (.ref bD), .val (.ref bP), .val (.ref bI), .val (.ref bJ), .val (.ref b1), .unset, .unset] [(.int (1 : Int32)), (.ref bP), (.int dB), (.ref b1)])) rfl rfl (hb hby at_356) _ ?_
      exact kT)
    obtain ⟨cI268, kI268, q268a, q268b, q268c⟩ := isOf hZ rfl B1.1.2.2.2.2.2
    have pre269 : ∀ t, Steps p.tables e below (T262.setTop (mkF m 357 #[.val (.int p1), .val (.int p2), .val (.int p3), .val (.int p4), .val (.int p5), .val (.int p6), .val (.int (3 : Int32)), .val (.ref bS), .val (.ref bD), .val (.ref bP), .val (.ref bI), .val (.ref bJ), .val (.ref b1), .unset, .unset] [(.int qB), (.int dB), (.ref b1)])) t → Steps p.tables e below (s₁.setTop (entryFrame m #[(.int p1), (.int p2), (.int p3), (.int p4), (.int p5), (.int p6)] maxLocals)) t := fun t kT => pre267 t (by
      exact kT)
    obtain ⟨_, _, ⟨T270, L270, k270, n270⟩, -, X270, ⟨Lc270, hQ270, l270, y270, z270⟩, st270⟩ := X262.virtualBack hx (y := (⟨"com/example/esteem/esteem/index/Postings$Builder", "add", "(II)V"⟩ : MethodName)) (z := (⟨"com/example/esteem/esteem/index/Postings$Builder", "add", "(II)V"⟩ : MethodName)) hown (mvT hZ (hw _ (List.mem_of_getElem? (i := 59) rfl))) (mvT hZ (hw _ (List.mem_of_getElem? (i := 60) rfl))) (notFace_of_selects (args := #[]) (mvT hZ (hw _ (List.mem_of_getElem? (i := 62) rfl)))) (mvT hZ (hw _ (List.mem_of_getElem? (i := 62) rfl))) (mvT hZ (hw _ (List.mem_of_getElem? (i := 61) rfl))) (by decide) (backOf (W := 0) (rmA l Z a0 hw [] b1 dB qB dd1 ds1 dp1 dl1 sl1 pl1 1 (0 + 1) df1 sf1 pf1 T262.heap nB sz262 B1 (by decide) (by decide) (Or.inr (by decide)) (by rw [l1]; exact fdB.2.2.1) (own_nlt0 fdB.2.2.2.2.2.1) (fun z => ⟨by decide, by show pf1 0 < qB; rw [p10]; rw [l1] at z; exact (zs1.elim (fun q => absurd z (fdB.2.1 q)) (fun q => (fdB.1 q).2))⟩)) hZ (hw _ (List.mem_of_getElem? (i := 63) rfl)) (hw _ (List.mem_of_getElem? (i := 7) rfl)) (by decide) (by decide)) q268a q268c (g := (mkF m 357 #[.val (.int p1), .val (.int p2), .val (.int p3), .val (.int p4), .val (.int p5), .val (.int p6), .val (.int (3 : Int32)), .val (.ref bS), .val (.ref bD), .val (.ref bP), .val (.ref bI), .val (.ref bJ), .val (.ref b1), .unset, .unset] [(.int qB), (.int dB), (.ref b1)])) rfl (by rw [hml]; rfl) (Steps.refl _) (argsL := [(.int dB), (.int qB)]) (rest := []) (lenOf pd__II_V rfl) rfl (by show 2 * 0 + _ ≤ _; exact Nat.le_of_eq rfl) (hb hby at_357) (fun _ _ => ⟨rfl, rfl, (by decide : 12 + 3 ≤ _), (by decide : 37 + 13 ≤ _)⟩)
    dsimp only [Pt.U, Pt.locs, Pt.cells, Pt.slots] at X270 l270 y270 z270 st270 hQ270
    have X270 := own_st X270 (y270.trans (show _ = 15 from rfl)) (z270.trans (show _ = 50 from rfl))
    obtain ⟨rfl, N270q, ky2, dd2, ds2, dp2, dl2, sl2, pl2, B2⟩ := hQ270
    have N270 := own_fr l270 N262 (own_frm hn0B N270q)
    have pre271 : ∀ t, Steps p.tables e below (T270.setTop (mkF m 360 #[.val (.int p1), .val (.int p2), .val (.int p3), .val (.int p4), .val (.int p5), .val (.int p6), .val (.int (3 : Int32)), .val (.ref bS), .val (.ref bD), .val (.ref bP), .val (.ref bI), .val (.ref bJ), .val (.ref b1), .unset, .unset] [])) t → Steps p.tables e below (s₁.setTop (entryFrame m #[(.int p1), (.int p2), (.int p3), (.int p4), (.int p5), (.int p6)] maxLocals)) t := fun t kT => pre269 t (st270.trans kT)
    have V_bS_e270 : own_Ar Z T270.heap bS .boolean 3 (own_upd (own_upd (own_upd (fun _ => (.int (0 : Int32))) 0 (.int (nar .boolean (0 : Int32)))) 1 (.int s1)) 2 (.int s2)) := V_bS_e262.keep ky2 (ninS ne_bS_b1 (ninS (Nat.ne_of_lt (Nat.lt_of_lt_of_le lt_bS B1.2.2.2.1.2.1)) (ninS (Nat.ne_of_lt (Nat.lt_of_lt_of_le lt_bS B1.2.2.2.1.2.2.1)) (ninS (Nat.ne_of_lt (Nat.lt_of_lt_of_le lt_bS B1.2.2.2.1.2.2.2)) nin0))))
    have V_bD_e270 : own_Ar Z T270.heap bD .int 3 (own_upd (own_upd (own_upd (fun _ => (.int (0 : Int32))) 0 (.int dA)) 1 (.int dB)) 2 (.int dC)) := V_bD_e262.keep ky2 (ninS ne_bD_b1 (ninS (Nat.ne_of_lt (Nat.lt_of_lt_of_le lt_bD B1.2.2.2.1.2.1)) (ninS (Nat.ne_of_lt (Nat.lt_of_lt_of_le lt_bD B1.2.2.2.1.2.2.1)) (ninS (Nat.ne_of_lt (Nat.lt_of_lt_of_le lt_bD B1.2.2.2.1.2.2.2)) nin0))))
    have V_bP_e270 : own_Ar Z T270.heap bP .int 3 (own_upd (own_upd (own_upd (fun _ => (.int (0 : Int32))) 0 (.int qA)) 1 (.int qB)) 2 (.int qC)) := V_bP_e262.keep ky2 (ninS ne_bP_b1 (ninS (Nat.ne_of_lt (Nat.lt_of_lt_of_le lt_bP B1.2.2.2.1.2.1)) (ninS (Nat.ne_of_lt (Nat.lt_of_lt_of_le lt_bP B1.2.2.2.1.2.2.1)) (ninS (Nat.ne_of_lt (Nat.lt_of_lt_of_le lt_bP B1.2.2.2.1.2.2.2)) nin0))))
    have V_bI_e270 : own_Ar Z T270.heap bI .int 3 (own_upd (own_upd (own_upd (fun _ => (.int (0 : Int32))) 0 (.int (0 : Int32))) 1 (.int (Int32.ofNat g1))) 2 (.int (Int32.ofNat g2))) := V_bI_e262.keep ky2 (ninS ne_bI_b1 (ninS (Nat.ne_of_lt (Nat.lt_of_lt_of_le lt_bI B1.2.2.2.1.2.1)) (ninS (Nat.ne_of_lt (Nat.lt_of_lt_of_le lt_bI B1.2.2.2.1.2.2.1)) (ninS (Nat.ne_of_lt (Nat.lt_of_lt_of_le lt_bI B1.2.2.2.1.2.2.2)) nin0))))
    have V_bJ_e270 : own_Ar Z T270.heap bJ .int 3 (own_upd (own_upd (own_upd (fun _ => (.int (0 : Int32))) 0 (.int (0 : Int32))) 1 (.int (Int32.ofNat j1))) 2 (.int (Int32.ofNat j2))) := V_bJ_e262.keep ky2 (ninS ne_bJ_b1 (ninS (Nat.ne_of_lt (Nat.lt_of_lt_of_le lt_bJ B1.2.2.2.1.2.1)) (ninS (Nat.ne_of_lt (Nat.lt_of_lt_of_le lt_bJ B1.2.2.2.1.2.2.1)) (ninS (Nat.ne_of_lt (Nat.lt_of_lt_of_le lt_bJ B1.2.2.2.1.2.2.2)) nin0))))
    have sz270 : nB ≤ T270.heap.size := Nat.le_trans sz262 ky2.1
    obtain ⟨dc2, hdc2⟩ : ∃ z, z = own_ndc 1 df1 dB := ⟨_, rfl⟩
    obtain ⟨df2, hdf2⟩ : ∃ z, z = own_ndf 1 df1 dB := ⟨_, rfl⟩
    obtain ⟨sf2, hsf2⟩ : ∃ z, z = own_nsf 1 (0 + 1) df1 sf1 dB := ⟨_, rfl⟩
    obtain ⟨pf2, hpf2⟩ : ∃ z, z = own_updI pf1 (0 + 1) qB := ⟨_, rfl⟩
    rw [← hdc2, ← hdf2, ← hsf2, ← hpf2] at B2
    have H2 : (s1 = 1 ∧ dc2 = 1 ∧ df2 = df1 ∧ sf2 = own_updI sf1 1 (Int32.ofNat 2)) ∨ (s1 = 0 ∧ dc2 = 2 ∧ df2 = own_updI df1 1 dB ∧ sf2 = own_updI (own_updI sf1 1 (Int32.ofNat 1)) 2 (Int32.ofNat 2)) := by
      rcases zs1 with q | q
      · have y : ¬ dB = own_last 1 df1 := by rw [l1]; exact fdB.2.1 q
        exact Or.inr ⟨q, hdc2.trans (if_neg y), hdf2.trans (if_neg y), hsf2.trans (if_neg y)⟩
      · have y : dB = own_last 1 df1 := by rw [l1]; exact (fdB.1 q).1
        exact Or.inl ⟨q, hdc2.trans (if_pos y), hdf2.trans (if_pos y), hsf2.trans (if_pos y)⟩
    have l2 : own_last dc2 df2 = dB := by
      rcases H2 with ⟨q, a, b, _⟩ | ⟨q, a, b, _⟩
      · rw [a, b, l1]; exact (fdB.1 q).1.symm
      · rw [a, b]; rfl
    have p20 : pf2 0 = qA := by rw [hpf2, hpf1]; rfl
    have p21 : pf2 1 = qB := by rw [hpf2]; rfl
    have dc2' : dc2 ≤ 2 ∧ dc2 ≠ 0 := by rcases H2 with ⟨_, a, _⟩ | ⟨_, a, _⟩ <;> omega
    have pre272 : ∀ t, Steps p.tables e below (T270.setTop (mkF m 371 #[.val (.int p1), .val (.int p2), .val (.int p3), .val (.int p4), .val (.int p5), .val (.int p6), .val (.int (3 : Int32)), .val (.ref bS), .val (.ref bD), .val (.ref bP), .val (.ref bI), .val (.ref bJ), .val (.ref b1), .unset, .unset] [(.int (2 : Int32)), (.ref bD), (.ref b1)])) t → Steps p.tables e below (s₁.setTop (entryFrame m #[(.int p1), (.int p2), (.int p3), (.int p4), (.int p5), (.int p6)] maxLocals)) t := fun t kT => pre271 t (by
      show Steps p.tables e below (T270.setTop (mkF m 360 #[.val (.int p1), .val (.int p2), .val (.int p3), .val (.int p4), .val (.int p5), .val (.int p6), .val (.int (3 : Int32)), .val (.ref bS), .val (.ref bD), .val (.ref bP), .val (.ref bI), .val (.ref bJ), .val (.ref b1), .unset, .unset] [])) _
      refine XS.iload X270.here hx rfl (hb hby at_360) rfl ?_
      show Steps p.tables e below (T270.setTop (mkF m 362 #[.val (.int p1), .val (.int p2), .val (.int p3), .val (.int p4), .val (.int p5), .val (.int p6), .val (.int (3 : Int32)), .val (.ref bS), .val (.ref bD), .val (.ref bP), .val (.ref bI), .val (.ref bJ), .val (.ref b1), .unset, .unset] [(.int (3 : Int32))])) _
      refine XS.iconst X270.here hx rfl (hb hby at_362) ?_
      show Steps p.tables e below (T270.setTop (mkF m 363 #[.val (.int p1), .val (.int p2), .val (.int p3), .val (.int p4), .val (.int p5), .val (.int p6), .val (.int (3 : Int32)), .val (.ref bS), .val (.ref bD), .val (.ref bP), .val (.ref bI), .val (.ref bJ), .val (.ref b1), .unset, .unset] [(.int (2 : Int32)), (.int (3 : Int32))])) _
      refine XS.icmpNo X270.here hx rfl (hb hby at_363) rfl (tlt (by decide : (2 : Int32) < (3 : Int32))).2.2.2 ?_
      show Steps p.tables e below (T270.setTop (mkF m 366 #[.val (.int p1), .val (.int p2), .val (.int p3), .val (.int p4), .val (.int p5), .val (.int p6), .val (.int (3 : Int32)), .val (.ref bS), .val (.ref bD), .val (.ref bP), .val (.ref bI), .val (.ref bJ), .val (.ref b1), .unset, .unset] [])) _
      refine XS.aload X270.here hx rfl (hb hby at_366) rfl rfl ?_
      show Steps p.tables e below (T270.setTop (mkF m 368 #[.val (.int p1), .val (.int p2), .val (.int p3), .val (.int p4), .val (.int p5), .val (.int p6), .val (.int (3 : Int32)), .val (.ref bS), .val (.ref bD), .val (.ref bP), .val (.ref bI), .val (.ref bJ), .val (.ref b1), .unset, .unset] [(.ref b1)])) _
      refine XS.aload X270.here hx rfl (hb hby at_368) rfl rfl ?_
      show Steps p.tables e below (T270.setTop (mkF m 370 #[.val (.int p1), .val (.int p2), .val (.int p3), .val (.int p4), .val (.int p5), .val (.int p6), .val (.int (3 : Int32)), .val (.ref bS), .val (.ref bD), .val (.ref bP), .val (.ref bI), .val (.ref bJ), .val (.ref b1), .unset, .unset] [(.ref bD), (.ref b1)])) _
      refine XS.iconst X270.here hx rfl (hb hby at_370) ?_
      exact kT)
    obtain ⟨co273, ⟨Ao273, Ko273⟩, So273, Ho273⟩ := id V_bD_e270
    obtain ⟨co274, ⟨Ao274, Ko274⟩, So274, Ho274⟩ := id V_bP_e270
    have pre275 : ∀ t, Steps p.tables e below (T270.setTop (mkF m 376 #[.val (.int p1), .val (.int p2), .val (.int p3), .val (.int p4), .val (.int p5), .val (.int p6), .val (.int (3 : Int32)), .val (.ref bS), .val (.ref bD), .val (.ref bP), .val (.ref bI), .val (.ref bJ), .val (.ref b1), .unset, .unset] [(.int qC), (.int dC), (.ref b1)])) t → Steps p.tables e below (s₁.setTop (entryFrame m #[(.int p1), (.int p2), (.int p3), (.int p4), (.int p5), (.int p6)] maxLocals)) t := fun t kT => pre272 t (by
      show Steps p.tables e below (T270.setTop (mkF m 371 #[.val (.int p1), .val (.int p2), .val (.int p3), .val (.int p4), .val (.int p5), .val (.int p6), .val (.int (3 : Int32)), .val (.ref bS), .val (.ref bD), .val (.ref bP), .val (.ref bI), .val (.ref bJ), .val (.ref b1), .unset, .unset] [(.int (2 : Int32)), (.ref bD), (.ref b1)])) _
      refine X270.iaload hx (j := (2 : Int32)) (v := (.int dC)) Ao273.1 (State.isArrayOf_alike hZ.alike Ao273.2.1) Ao273.2.2 (own_ld So273 Ho273 (j := (2 : Int32)) (i := 2) (by decide) rfl (by decide) (v := (.int dC)) rfl).1 (own_ld So273 Ho273 (j := (2 : Int32)) (i := 2) (by decide) rfl (by decide) (v := (.int dC)) rfl).2 (g := (mkF m 371 #[.val (.int p1), .val (.int p2), .val (.int p3), .val (.int p4), .val (.int p5), .val (.int p6), .val (.int (3 : Int32)), .val (.ref bS), .val (.ref bD), .val (.ref bP), .val (.ref bI), .val (.ref bJ), .val (.ref b1), .unset, .unset] [(.int (2 : Int32)), (.ref bD), (.ref b1)])) rfl rfl (hb hby at_371) _ ?_
      show Steps p.tables e below (T270.setTop (mkF m 372 #[.val (.int p1), .val (.int p2), .val (.int p3), .val (.int p4), .val (.int p5), .val (.int p6), .val (.int (3 : Int32)), .val (.ref bS), .val (.ref bD), .val (.ref bP), .val (.ref bI), .val (.ref bJ), .val (.ref b1), .unset, .unset] [(.int dC), (.ref b1)])) _
      refine XS.aload X270.here hx rfl (hb hby at_372) rfl rfl ?_
      show Steps p.tables e below (T270.setTop (mkF m 374 #[.val (.int p1), .val (.int p2), .val (.int p3), .val (.int p4), .val (.int p5), .val (.int p6), .val (.int (3 : Int32)), .val (.ref bS), .val (.ref bD), .val (.ref bP), .val (.ref bI), .val (.ref bJ), .val (.ref b1), .unset, .unset] [(.ref bP), (.int dC), (.ref b1)])) _
      refine XS.iconst X270.here hx rfl (hb hby at_374) ?_
      show Steps p.tables e below (T270.setTop (mkF m 375 #[.val (.int p1), .val (.int p2), .val (.int p3), .val (.int p4), .val (.int p5), .val (.int p6), .val (.int (3 : Int32)), .val (.ref bS), .val (.ref bD), .val (.ref bP), .val (.ref bI), .val (.ref bJ), .val (.ref b1), .unset, .unset] [(.int (2 : Int32)), (.ref bP), (.int dC), (.ref b1)])) _
      refine X270.iaload hx (j := (2 : Int32)) (v := (.int qC)) Ao274.1 (State.isArrayOf_alike hZ.alike Ao274.2.1) Ao274.2.2 (own_ld So274 Ho274 (j := (2 : Int32)) (i := 2) (by decide) rfl (by decide) (v := (.int qC)) rfl).1 (own_ld So274 Ho274 (j := (2 : Int32)) (i := 2) (by decide) rfl (by decide) (v := (.int qC)) rfl).2 (g := (mkF m 375 #[.val (.int p1), .val (.int p2), .val (.int p3), .val (.int p4), .val (.int p5), .val (.int p6), .val (.int (3 : Int32)), .val (.ref bS), .val (.ref bD), .val (.ref bP), .val (.ref bI), .val (.ref bJ), .val (.ref b1), .unset, .unset] [(.int (2 : Int32)), (.ref bP), (.int dC), (.ref b1)])) rfl rfl (hb hby at_375) _ ?_
      exact kT)
    obtain ⟨cI276, kI276, q276a, q276b, q276c⟩ := isOf hZ rfl B2.1.2.2.2.2.2
    have pre277 : ∀ t, Steps p.tables e below (T270.setTop (mkF m 376 #[.val (.int p1), .val (.int p2), .val (.int p3), .val (.int p4), .val (.int p5), .val (.int p6), .val (.int (3 : Int32)), .val (.ref bS), .val (.ref bD), .val (.ref bP), .val (.ref bI), .val (.ref bJ), .val (.ref b1), .unset, .unset] [(.int qC), (.int dC), (.ref b1)])) t → Steps p.tables e below (s₁.setTop (entryFrame m #[(.int p1), (.int p2), (.int p3), (.int p4), (.int p5), (.int p6)] maxLocals)) t := fun t kT => pre275 t (by
      exact kT)
    obtain ⟨_, _, ⟨T278, L278, k278, n278⟩, -, X278, ⟨Lc278, hQ278, l278, y278, z278⟩, st278⟩ := X270.virtualBack hx (y := (⟨"com/example/esteem/esteem/index/Postings$Builder", "add", "(II)V"⟩ : MethodName)) (z := (⟨"com/example/esteem/esteem/index/Postings$Builder", "add", "(II)V"⟩ : MethodName)) hown (mvT hZ (hw _ (List.mem_of_getElem? (i := 59) rfl))) (mvT hZ (hw _ (List.mem_of_getElem? (i := 60) rfl))) (notFace_of_selects (args := #[]) (mvT hZ (hw _ (List.mem_of_getElem? (i := 62) rfl)))) (mvT hZ (hw _ (List.mem_of_getElem? (i := 62) rfl))) (mvT hZ (hw _ (List.mem_of_getElem? (i := 61) rfl))) (by decide) (backOf (W := 0) (rmA l Z a0 hw [] b1 dC qC dd2 ds2 dp2 dl2 sl2 pl2 dc2 (0 + 1 + 1) df2 sf2 pf2 T270.heap nB sz270 B2 dc2'.1 (by decide) (Or.inr (by decide)) (by rw [l2]; exact fdC.2.2.1) (own_nlt0 fdC.2.2.2.2.2.1) (fun z => ⟨dc2'.2, by show pf2 1 < qC; rw [p21]; rw [l2] at z; exact (zs2.elim (fun q => absurd z (fdC.2.1 q)) (fun q => (fdC.1 q).2))⟩)) hZ (hw _ (List.mem_of_getElem? (i := 63) rfl)) (hw _ (List.mem_of_getElem? (i := 7) rfl)) (by decide) (by decide)) q276a q276c (g := (mkF m 376 #[.val (.int p1), .val (.int p2), .val (.int p3), .val (.int p4), .val (.int p5), .val (.int p6), .val (.int (3 : Int32)), .val (.ref bS), .val (.ref bD), .val (.ref bP), .val (.ref bI), .val (.ref bJ), .val (.ref b1), .unset, .unset] [(.int qC), (.int dC), (.ref b1)])) rfl (by rw [hml]; rfl) (Steps.refl _) (argsL := [(.int dC), (.int qC)]) (rest := []) (lenOf pd__II_V rfl) rfl (by show 2 * 0 + _ ≤ _; exact Nat.le_of_eq rfl) (hb hby at_376) (fun _ _ => ⟨rfl, rfl, (by decide : 15 + 3 ≤ _), (by decide : 50 + 13 ≤ _)⟩)
    dsimp only [Pt.U, Pt.locs, Pt.cells, Pt.slots] at X278 l278 y278 z278 st278 hQ278
    have X278 := own_st X278 (y278.trans (show _ = 18 from rfl)) (z278.trans (show _ = 63 from rfl))
    obtain ⟨rfl, N278q, ky3, dd3, ds3, dp3, dl3, sl3, pl3, B3⟩ := hQ278
    have N278 := own_fr l278 N270 (own_frm hn0B N278q)
    have pre279 : ∀ t, Steps p.tables e below (T278.setTop (mkF m 379 #[.val (.int p1), .val (.int p2), .val (.int p3), .val (.int p4), .val (.int p5), .val (.int p6), .val (.int (3 : Int32)), .val (.ref bS), .val (.ref bD), .val (.ref bP), .val (.ref bI), .val (.ref bJ), .val (.ref b1), .unset, .unset] [])) t → Steps p.tables e below (s₁.setTop (entryFrame m #[(.int p1), (.int p2), (.int p3), (.int p4), (.int p5), (.int p6)] maxLocals)) t := fun t kT => pre277 t (st278.trans kT)
    have V_bS_e278 : own_Ar Z T278.heap bS .boolean 3 (own_upd (own_upd (own_upd (fun _ => (.int (0 : Int32))) 0 (.int (nar .boolean (0 : Int32)))) 1 (.int s1)) 2 (.int s2)) := V_bS_e270.keep ky3 (ninS ne_bS_b1 (ninS (Nat.ne_of_lt (Nat.lt_of_lt_of_le lt_bS B2.2.2.2.1.2.1)) (ninS (Nat.ne_of_lt (Nat.lt_of_lt_of_le lt_bS B2.2.2.2.1.2.2.1)) (ninS (Nat.ne_of_lt (Nat.lt_of_lt_of_le lt_bS B2.2.2.2.1.2.2.2)) nin0))))
    have V_bD_e278 : own_Ar Z T278.heap bD .int 3 (own_upd (own_upd (own_upd (fun _ => (.int (0 : Int32))) 0 (.int dA)) 1 (.int dB)) 2 (.int dC)) := V_bD_e270.keep ky3 (ninS ne_bD_b1 (ninS (Nat.ne_of_lt (Nat.lt_of_lt_of_le lt_bD B2.2.2.2.1.2.1)) (ninS (Nat.ne_of_lt (Nat.lt_of_lt_of_le lt_bD B2.2.2.2.1.2.2.1)) (ninS (Nat.ne_of_lt (Nat.lt_of_lt_of_le lt_bD B2.2.2.2.1.2.2.2)) nin0))))
    have V_bP_e278 : own_Ar Z T278.heap bP .int 3 (own_upd (own_upd (own_upd (fun _ => (.int (0 : Int32))) 0 (.int qA)) 1 (.int qB)) 2 (.int qC)) := V_bP_e270.keep ky3 (ninS ne_bP_b1 (ninS (Nat.ne_of_lt (Nat.lt_of_lt_of_le lt_bP B2.2.2.2.1.2.1)) (ninS (Nat.ne_of_lt (Nat.lt_of_lt_of_le lt_bP B2.2.2.2.1.2.2.1)) (ninS (Nat.ne_of_lt (Nat.lt_of_lt_of_le lt_bP B2.2.2.2.1.2.2.2)) nin0))))
    have V_bI_e278 : own_Ar Z T278.heap bI .int 3 (own_upd (own_upd (own_upd (fun _ => (.int (0 : Int32))) 0 (.int (0 : Int32))) 1 (.int (Int32.ofNat g1))) 2 (.int (Int32.ofNat g2))) := V_bI_e270.keep ky3 (ninS ne_bI_b1 (ninS (Nat.ne_of_lt (Nat.lt_of_lt_of_le lt_bI B2.2.2.2.1.2.1)) (ninS (Nat.ne_of_lt (Nat.lt_of_lt_of_le lt_bI B2.2.2.2.1.2.2.1)) (ninS (Nat.ne_of_lt (Nat.lt_of_lt_of_le lt_bI B2.2.2.2.1.2.2.2)) nin0))))
    have V_bJ_e278 : own_Ar Z T278.heap bJ .int 3 (own_upd (own_upd (own_upd (fun _ => (.int (0 : Int32))) 0 (.int (0 : Int32))) 1 (.int (Int32.ofNat j1))) 2 (.int (Int32.ofNat j2))) := V_bJ_e270.keep ky3 (ninS ne_bJ_b1 (ninS (Nat.ne_of_lt (Nat.lt_of_lt_of_le lt_bJ B2.2.2.2.1.2.1)) (ninS (Nat.ne_of_lt (Nat.lt_of_lt_of_le lt_bJ B2.2.2.2.1.2.2.1)) (ninS (Nat.ne_of_lt (Nat.lt_of_lt_of_le lt_bJ B2.2.2.2.1.2.2.2)) nin0))))
    have sz278 : nB ≤ T278.heap.size := Nat.le_trans sz270 ky3.1
    obtain ⟨dc3, hdc3⟩ : ∃ z, z = own_ndc dc2 df2 dC := ⟨_, rfl⟩
    obtain ⟨df3, hdf3⟩ : ∃ z, z = own_ndf dc2 df2 dC := ⟨_, rfl⟩
    obtain ⟨sf3, hsf3⟩ : ∃ z, z = own_nsf dc2 (0 + 1 + 1) df2 sf2 dC := ⟨_, rfl⟩
    obtain ⟨pf3, hpf3⟩ : ∃ z, z = own_updI pf2 (0 + 1 + 1) qC := ⟨_, rfl⟩
    rw [← hdc3, ← hdf3, ← hsf3, ← hpf3] at B3
    have H3 : (s2 = 1 ∧ dc3 = dc2 ∧ df3 = df2 ∧ sf3 = own_updI sf2 dc2 (Int32.ofNat 3)) ∨ (s2 = 0 ∧ dc3 = dc2 + 1 ∧ df3 = own_updI df2 dc2 dC ∧ sf3 = own_updI (own_updI sf2 dc2 (Int32.ofNat 2)) (dc2 + 1) (Int32.ofNat 3)) := by
      rcases zs2 with q | q
      · have y : ¬ dC = own_last dc2 df2 := by rw [l2]; exact fdC.2.1 q
        exact Or.inr ⟨q, hdc3.trans (if_neg y), hdf3.trans (if_neg y), hsf3.trans (if_neg y)⟩
      · have y : dC = own_last dc2 df2 := by rw [l2]; exact (fdC.1 q).1
        exact Or.inl ⟨q, hdc3.trans (if_pos y), hdf3.trans (if_pos y), hsf3.trans (if_pos y)⟩
    have dc3' : dc3 ≤ 3 := by rcases H3 with ⟨_, a, _⟩ | ⟨_, a, _⟩ <;> omega
    have p30 : pf3 0 = qA := by rw [hpf3, hpf2, hpf1]; rfl
    have p31 : pf3 1 = qB := by rw [hpf3, hpf2]; rfl
    have p32 : pf3 2 = qC := by rw [hpf3]; rfl
    have HF : dc3 = g2 + 1 ∧ df3 0 = dA ∧ sf3 0 + Int32.ofNat 0 = Int32.ofNat 0 ∧ g1 < dc3 ∧ df3 g1 = dB ∧ sf3 g1 + Int32.ofNat j1 = Int32.ofNat 1 ∧ df3 g2 = dC ∧ sf3 g2 + Int32.ofNat j2 = Int32.ofNat 2 ∧ (s1 = 0 → sf3 (0 + 1) - sf3 0 = Int32.ofNat (0 + 1)) ∧ (s2 = 0 → sf3 (g1 + 1) - sf3 g1 = Int32.ofNat (j1 + 1)) ∧ sf3 (g2 + 1) - sf3 g2 = Int32.ofNat (j2 + 1) := by
      rcases H2 with ⟨q1, a2, b2, c2⟩ | ⟨q1, a2, b2, c2⟩ <;> rcases H3 with ⟨q2, a3, b3, c3⟩ | ⟨q2, a3, b3, c3⟩
      · have eg1 : g1 = 0 := by rcases hg1 with ⟨y, z⟩ | ⟨y, z⟩ <;> first | exact z | exact absurd (q1.symm.trans y) (by decide)
        have ej1 : j1 = 1 := by rcases hj1 with ⟨y, z⟩ | ⟨y, z⟩ <;> first | exact z | exact absurd (q1.symm.trans y) (by decide)
        have eg2 : g2 = 0 := by rcases hg2 with ⟨y, z⟩ | ⟨y, z⟩ <;> first | exact absurd (q2.symm.trans y) (by decide) | (rw [z, eg1])
        have ej2 : j2 = 2 := by rcases hj2 with ⟨y, z⟩ | ⟨y, z⟩ <;> first | exact absurd (q2.symm.trans y) (by decide) | exact z | (rw [z, ej1])
        have es : ∀ k, sf3 k = (own_updI (own_updI (own_updI (own_updI (fun _ => (0 : Int32)) 0 (Int32.ofNat 0)) (0 + 1) (Int32.ofNat (0 + 1))) 1 (Int32.ofNat 2)) 1 (Int32.ofNat 3)) k := fun k => by rw [c3, a2, c2, hsf1]
        have ed : df3 0 = dA := by rw [b3, b2, hdf1]; rfl
        have eB : df3 0 = dB := by rw [b3, b2]; rw [hdf1]; exact (fdB.1 q1).1.symm
        have eC : df3 0 = dC := by rw [(fdC.1 q2).1]; exact eB
        rw [eg1, ej1, eg2, ej2]
        exact ⟨by omega, ed, by rw [es]; decide, by omega, eB, by rw [es]; decide, eC, by rw [es]; decide, fun z => absurd (q1.symm.trans z) (by decide), fun z => absurd (q2.symm.trans z) (by decide), by rw [es, es]; decide⟩
      · have eg1 : g1 = 0 := by rcases hg1 with ⟨y, z⟩ | ⟨y, z⟩ <;> first | exact z | exact absurd (q1.symm.trans y) (by decide)
        have ej1 : j1 = 1 := by rcases hj1 with ⟨y, z⟩ | ⟨y, z⟩ <;> first | exact z | exact absurd (q1.symm.trans y) (by decide)
        have eg2 : g2 = 1 := by rcases hg2 with ⟨y, z⟩ | ⟨y, z⟩ <;> first | exact absurd (q2.symm.trans y) (by decide) | (rw [z, eg1])
        have ej2 : j2 = 0 := by rcases hj2 with ⟨y, z⟩ | ⟨y, z⟩ <;> first | exact absurd (q2.symm.trans y) (by decide) | exact z | (rw [z, ej1])
        have es : ∀ k, sf3 k = (own_updI (own_updI (own_updI (own_updI (own_updI (fun _ => (0 : Int32)) 0 (Int32.ofNat 0)) (0 + 1) (Int32.ofNat (0 + 1))) 1 (Int32.ofNat 2)) 1 (Int32.ofNat 2)) (1 + 1) (Int32.ofNat 3)) k := fun k => by rw [c3, a2, c2, hsf1]
        have ed : df3 0 = dA := by rw [b3, b2, a2, hdf1]; rfl
        have eB : df3 0 = dB := by rw [b3, b2, a2]; rw [hdf1]; exact (fdB.1 q1).1.symm
        have eC : df3 1 = dC := by rw [b3, a2]; rfl
        rw [eg1, ej1, eg2, ej2]
        exact ⟨by omega, ed, by rw [es]; decide, by omega, eB, by rw [es]; decide, eC, by rw [es]; decide, fun z => absurd (q1.symm.trans z) (by decide), fun _ => by rw [es, es]; decide, by rw [es, es]; decide⟩
      · have eg1 : g1 = 1 := by rcases hg1 with ⟨y, z⟩ | ⟨y, z⟩ <;> first | exact z | exact absurd (q1.symm.trans y) (by decide)
        have ej1 : j1 = 0 := by rcases hj1 with ⟨y, z⟩ | ⟨y, z⟩ <;> first | exact z | exact absurd (q1.symm.trans y) (by decide)
        have eg2 : g2 = 1 := by rcases hg2 with ⟨y, z⟩ | ⟨y, z⟩ <;> first | exact absurd (q2.symm.trans y) (by decide) | (rw [z, eg1])
        have ej2 : j2 = 1 := by rcases hj2 with ⟨y, z⟩ | ⟨y, z⟩ <;> first | exact absurd (q2.symm.trans y) (by decide) | exact z | (rw [z, ej1])
        have es : ∀ k, sf3 k = (own_updI (own_updI (own_updI (own_updI (own_updI (fun _ => (0 : Int32)) 0 (Int32.ofNat 0)) (0 + 1) (Int32.ofNat (0 + 1))) 1 (Int32.ofNat 1)) 2 (Int32.ofNat 2)) 2 (Int32.ofNat 3)) k := fun k => by rw [c3, a2, c2, hsf1]
        have ed : df3 0 = dA := by rw [b3, b2, hdf1]; rfl
        have eB : df3 1 = dB := by rw [b3, b2]; rfl
        have eC : df3 1 = dC := by rw [(fdC.1 q2).1]; exact eB
        rw [eg1, ej1, eg2, ej2]
        exact ⟨by omega, ed, by rw [es]; decide, by omega, eB, by rw [es]; decide, eC, by rw [es]; decide, fun _ => by rw [es, es]; decide, fun z => absurd (q2.symm.trans z) (by decide), by rw [es, es]; decide⟩
      · have eg1 : g1 = 1 := by rcases hg1 with ⟨y, z⟩ | ⟨y, z⟩ <;> first | exact z | exact absurd (q1.symm.trans y) (by decide)
        have ej1 : j1 = 0 := by rcases hj1 with ⟨y, z⟩ | ⟨y, z⟩ <;> first | exact z | exact absurd (q1.symm.trans y) (by decide)
        have eg2 : g2 = 2 := by rcases hg2 with ⟨y, z⟩ | ⟨y, z⟩ <;> first | exact absurd (q2.symm.trans y) (by decide) | (rw [z, eg1])
        have ej2 : j2 = 0 := by rcases hj2 with ⟨y, z⟩ | ⟨y, z⟩ <;> first | exact absurd (q2.symm.trans y) (by decide) | exact z | (rw [z, ej1])
        have es : ∀ k, sf3 k = (own_updI (own_updI (own_updI (own_updI (own_updI (own_updI (fun _ => (0 : Int32)) 0 (Int32.ofNat 0)) (0 + 1) (Int32.ofNat (0 + 1))) 1 (Int32.ofNat 1)) 2 (Int32.ofNat 2)) 2 (Int32.ofNat 2)) (2 + 1) (Int32.ofNat 3)) k := fun k => by rw [c3, a2, c2, hsf1]
        have ed : df3 0 = dA := by rw [b3, b2, a2, hdf1]; rfl
        have eB : df3 1 = dB := by rw [b3, b2, a2]; rfl
        have eC : df3 2 = dC := by rw [b3, a2]; rfl
        rw [eg1, ej1, eg2, ej2]
        exact ⟨by omega, ed, by rw [es]; decide, by omega, eB, by rw [es]; decide, eC, by rw [es]; decide, fun _ => by rw [es, es]; decide, fun _ => by rw [es, es]; decide, by rw [es, es]; decide⟩
    have pre280 : ∀ t, Steps p.tables e below (T278.setTop (mkF m 381 #[.val (.int p1), .val (.int p2), .val (.int p3), .val (.int p4), .val (.int p5), .val (.int p6), .val (.int (3 : Int32)), .val (.ref bS), .val (.ref bD), .val (.ref bP), .val (.ref bI), .val (.ref bJ), .val (.ref b1), .unset, .unset] [(.ref b1)])) t → Steps p.tables e below (s₁.setTop (entryFrame m #[(.int p1), (.int p2), (.int p3), (.int p4), (.int p5), (.int p6)] maxLocals)) t := fun t kT => pre279 t (by
      show Steps p.tables e below (T278.setTop (mkF m 379 #[.val (.int p1), .val (.int p2), .val (.int p3), .val (.int p4), .val (.int p5), .val (.int p6), .val (.int (3 : Int32)), .val (.ref bS), .val (.ref bD), .val (.ref bP), .val (.ref bI), .val (.ref bJ), .val (.ref b1), .unset, .unset] [])) _
      refine XS.aload X278.here hx rfl (hb hby at_379) rfl rfl ?_
      exact kT)
    obtain ⟨cI281, kI281, q281a, q281b, q281c⟩ := isOf hZ rfl B3.1.2.2.2.2.2
    have pre282 : ∀ t, Steps p.tables e below (T278.setTop (mkF m 381 #[.val (.int p1), .val (.int p2), .val (.int p3), .val (.int p4), .val (.int p5), .val (.int p6), .val (.int (3 : Int32)), .val (.ref bS), .val (.ref bD), .val (.ref bP), .val (.ref bI), .val (.ref bJ), .val (.ref b1), .unset, .unset] [(.ref b1)])) t → Steps p.tables e below (s₁.setTop (entryFrame m #[(.int p1), (.int p2), (.int p3), (.int p4), (.int p5), (.int p6)] maxLocals)) t := fun t kT => pre280 t (by
      exact kT)
    obtain ⟨_, _, ⟨T283, L283, k283, n283⟩, -, X283, ⟨Lc283, hQ283, l283, y283, z283⟩, st283⟩ := X278.virtualBack hx (y := (⟨"com/example/esteem/esteem/index/Postings$Builder", "build", "()Lcom/example/esteem/esteem/index/Postings;"⟩ : MethodName)) (z := (⟨"com/example/esteem/esteem/index/Postings$Builder", "build", "()Lcom/example/esteem/esteem/index/Postings;"⟩ : MethodName)) hown (mvT hZ (hw _ (List.mem_of_getElem? (i := 20) rfl))) (mvT hZ (hw _ (List.mem_of_getElem? (i := 21) rfl))) (notFace_of_selects (args := #[]) (mvT hZ (hw _ (List.mem_of_getElem? (i := 23) rfl)))) (mvT hZ (hw _ (List.mem_of_getElem? (i := 23) rfl))) (mvT hZ (hw _ (List.mem_of_getElem? (i := 22) rfl))) (by decide) (backOf (W := 0) (rmBU l Z a0 hw [] b1 dd3 ds3 dp3 dl3 sl3 pl3 dc3 (0 + 1 + 1 + 1) df3 sf3 pf3 T278.heap nB sz278 B3 dc3' (by decide)) hZ (hw _ (List.mem_of_getElem? (i := 24) rfl)) (hw _ (List.mem_of_getElem? (i := 7) rfl)) (by decide) (by decide)) q281a q281c (g := (mkF m 381 #[.val (.int p1), .val (.int p2), .val (.int p3), .val (.int p4), .val (.int p5), .val (.int p6), .val (.int (3 : Int32)), .val (.ref bS), .val (.ref bD), .val (.ref bP), .val (.ref bI), .val (.ref bJ), .val (.ref b1), .unset, .unset] [(.ref b1)])) rfl (by rw [hml]; rfl) (Steps.refl _) (argsL := []) (rest := []) (lenOf pd___Lcom_example_esteem_esteem_index_Postings_ rfl) rfl (by show 2 * 0 + _ ≤ _; exact Nat.le_of_eq rfl) (hb hby at_381) (fun _ _ => ⟨rfl, rfl, (by decide : 18 + 4 ≤ _), (by decide : 63 + 13 ≤ _)⟩)
    dsimp only [Pt.U, Pt.locs, Pt.cells, Pt.slots] at X283 l283 y283 z283 st283 hQ283
    have X283 := own_st X283 (y283.trans (show _ = 22 from rfl)) (z283.trans (show _ = 76 from rfl))
    obtain ⟨r1, xd, xs, xp, rfl, N283q, kyB, BP⟩ := hQ283
    have N283 := own_fr l283 N278 (own_frm hn0B N283q)
    have pre284 : ∀ t, Steps p.tables e below (T283.setTop (mkF m 384 #[.val (.int p1), .val (.int p2), .val (.int p3), .val (.int p4), .val (.int p5), .val (.int p6), .val (.int (3 : Int32)), .val (.ref bS), .val (.ref bD), .val (.ref bP), .val (.ref bI), .val (.ref bJ), .val (.ref b1), .unset, .unset] [(.ref r1)])) t → Steps p.tables e below (s₁.setTop (entryFrame m #[(.int p1), (.int p2), (.int p3), (.int p4), (.int p5), (.int p6)] maxLocals)) t := fun t kT => pre282 t (st283.trans kT)
    have V_bS_e283 : own_Ar Z T283.heap bS .boolean 3 (own_upd (own_upd (own_upd (fun _ => (.int (0 : Int32))) 0 (.int (nar .boolean (0 : Int32)))) 1 (.int s1)) 2 (.int s2)) := V_bS_e278.keep kyB nin0
    have V_bD_e283 : own_Ar Z T283.heap bD .int 3 (own_upd (own_upd (own_upd (fun _ => (.int (0 : Int32))) 0 (.int dA)) 1 (.int dB)) 2 (.int dC)) := V_bD_e278.keep kyB nin0
    have V_bP_e283 : own_Ar Z T283.heap bP .int 3 (own_upd (own_upd (own_upd (fun _ => (.int (0 : Int32))) 0 (.int qA)) 1 (.int qB)) 2 (.int qC)) := V_bP_e278.keep kyB nin0
    have V_bI_e283 : own_Ar Z T283.heap bI .int 3 (own_upd (own_upd (own_upd (fun _ => (.int (0 : Int32))) 0 (.int (0 : Int32))) 1 (.int (Int32.ofNat g1))) 2 (.int (Int32.ofNat g2))) := V_bI_e278.keep kyB nin0
    have V_bJ_e283 : own_Ar Z T283.heap bJ .int 3 (own_upd (own_upd (own_upd (fun _ => (.int (0 : Int32))) 0 (.int (0 : Int32))) 1 (.int (Int32.ofNat j1))) 2 (.int (Int32.ofNat j2))) := V_bJ_e278.keep kyB nin0
    have sz283 : nB ≤ T283.heap.size := Nat.le_trans sz278 kyB.1
    have pre285 : ∀ t, Steps p.tables e below (T283.setTop (mkF m 384 #[.val (.int p1), .val (.int p2), .val (.int p3), .val (.int p4), .val (.int p5), .val (.int p6), .val (.int (3 : Int32)), .val (.ref bS), .val (.ref bD), .val (.ref bP), .val (.ref bI), .val (.ref bJ), .val (.ref b1), .unset, .unset] [(.ref r1)])) t → Steps p.tables e below (s₁.setTop (entryFrame m #[(.int p1), (.int p2), (.int p3), (.int p4), (.int p5), (.int p6)] maxLocals)) t := fun t kT => pre284 t (by
      exact kT)
    obtain ⟨co286, ⟨Ao286, Ko286⟩, So286, Ho286⟩ := id V_bS_e283
    obtain ⟨co287, ⟨Ao287, Ko287⟩, So287, Ho287⟩ := id V_bD_e283
    obtain ⟨co288, ⟨Ao288, Ko288⟩, So288, Ho288⟩ := id V_bP_e283
    obtain ⟨co289, ⟨Ao289, Ko289⟩, So289, Ho289⟩ := id V_bI_e283
    obtain ⟨co290, ⟨Ao290, Ko290⟩, So290, Ho290⟩ := id V_bJ_e283
    have pre291 : ∀ t, Steps p.tables e below (T283.setTop (mkF m 401 #[.val (.int p1), .val (.int p2), .val (.int p3), .val (.int p4), .val (.int p5), .val (.int p6), .val (.int (3 : Int32)), .val (.ref bS), .val (.ref bD), .val (.ref bP), .val (.ref bI), .val (.ref bJ), .val (.ref b1), .val (.ref r1), .unset] [(.int ((3 : Int32) - (1 : Int32))), (.ref bI)])) t → Steps p.tables e below (s₁.setTop (entryFrame m #[(.int p1), (.int p2), (.int p3), (.int p4), (.int p5), (.int p6)] maxLocals)) t := fun t kT => pre285 t (by
      show Steps p.tables e below (T283.setTop (mkF m 384 #[.val (.int p1), .val (.int p2), .val (.int p3), .val (.int p4), .val (.int p5), .val (.int p6), .val (.int (3 : Int32)), .val (.ref bS), .val (.ref bD), .val (.ref bP), .val (.ref bI), .val (.ref bJ), .val (.ref b1), .unset, .unset] [(.ref r1)])) _
      refine XS.astore X283.here hx rfl (hb hby at_384) rfl rfl (l' := #[.val (.int p1), .val (.int p2), .val (.int p3), .val (.int p4), .val (.int p5), .val (.int p6), .val (.int (3 : Int32)), .val (.ref bS), .val (.ref bD), .val (.ref bP), .val (.ref bI), .val (.ref bJ), .val (.ref b1), .val (.ref r1), .unset]) rfl ?_
      show Steps p.tables e below (T283.setTop (mkF m 386 #[.val (.int p1), .val (.int p2), .val (.int p3), .val (.int p4), .val (.int p5), .val (.int p6), .val (.int (3 : Int32)), .val (.ref bS), .val (.ref bD), .val (.ref bP), .val (.ref bI), .val (.ref bJ), .val (.ref b1), .val (.ref r1), .unset] [])) _
      refine XS.iload X283.here hx rfl (hb hby at_386) rfl ?_
      show Steps p.tables e below (T283.setTop (mkF m 388 #[.val (.int p1), .val (.int p2), .val (.int p3), .val (.int p4), .val (.int p5), .val (.int p6), .val (.int (3 : Int32)), .val (.ref bS), .val (.ref bD), .val (.ref bP), .val (.ref bI), .val (.ref bJ), .val (.ref b1), .val (.ref r1), .unset] [(.int (3 : Int32))])) _
      refine XS.ifYes X283.here hx rfl (pc0 := 388) (pc' := 395) rfl (hb hby at_388) rfl ((if0 _ _).trans (feq (by decide : ¬ ((3 : Int32) = (0 : Int32)))).2) (by decide) (by decide) ?_
      show Steps p.tables e below (T283.setTop (mkF m 395 #[.val (.int p1), .val (.int p2), .val (.int p3), .val (.int p4), .val (.int p5), .val (.int p6), .val (.int (3 : Int32)), .val (.ref bS), .val (.ref bD), .val (.ref bP), .val (.ref bI), .val (.ref bJ), .val (.ref b1), .val (.ref r1), .unset] [])) _
      refine XS.aload X283.here hx rfl (hb hby at_395) rfl rfl ?_
      show Steps p.tables e below (T283.setTop (mkF m 397 #[.val (.int p1), .val (.int p2), .val (.int p3), .val (.int p4), .val (.int p5), .val (.int p6), .val (.int (3 : Int32)), .val (.ref bS), .val (.ref bD), .val (.ref bP), .val (.ref bI), .val (.ref bJ), .val (.ref b1), .val (.ref r1), .unset] [(.ref bI)])) _
      refine XS.iload X283.here hx rfl (hb hby at_397) rfl ?_
      show Steps p.tables e below (T283.setTop (mkF m 399 #[.val (.int p1), .val (.int p2), .val (.int p3), .val (.int p4), .val (.int p5), .val (.int p6), .val (.int (3 : Int32)), .val (.ref bS), .val (.ref bD), .val (.ref bP), .val (.ref bI), .val (.ref bJ), .val (.ref b1), .val (.ref r1), .unset] [(.int (3 : Int32)), (.ref bI)])) _
      refine XS.iconst X283.here hx rfl (hb hby at_399) ?_
      show Steps p.tables e below (T283.setTop (mkF m 400 #[.val (.int p1), .val (.int p2), .val (.int p3), .val (.int p4), .val (.int p5), .val (.int p6), .val (.int (3 : Int32)), .val (.ref bS), .val (.ref bD), .val (.ref bP), .val (.ref bI), .val (.ref bJ), .val (.ref b1), .val (.ref r1), .unset] [(.int (1 : Int32)), (.int (3 : Int32)), (.ref bI)])) _
      refine XS.isub X283.here hx rfl (hb hby at_400) rfl ?_
      exact kT)
    rw [show ((3 : Int32) - (1 : Int32)) = (2 : Int32) from by decide] at pre291
    have pre292 : ∀ t, Steps p.tables e below (T283.setTop (mkF m 404 #[.val (.int p1), .val (.int p2), .val (.int p3), .val (.int p4), .val (.int p5), .val (.int p6), .val (.int (3 : Int32)), .val (.ref bS), .val (.ref bD), .val (.ref bP), .val (.ref bI), .val (.ref bJ), .val (.ref b1), .val (.ref r1), .unset] [(.int ((Int32.ofNat g2) + (1 : Int32)))])) t → Steps p.tables e below (s₁.setTop (entryFrame m #[(.int p1), (.int p2), (.int p3), (.int p4), (.int p5), (.int p6)] maxLocals)) t := fun t kT => pre291 t (by
      show Steps p.tables e below (T283.setTop (mkF m 401 #[.val (.int p1), .val (.int p2), .val (.int p3), .val (.int p4), .val (.int p5), .val (.int p6), .val (.int (3 : Int32)), .val (.ref bS), .val (.ref bD), .val (.ref bP), .val (.ref bI), .val (.ref bJ), .val (.ref b1), .val (.ref r1), .unset] [(.int (2 : Int32)), (.ref bI)])) _
      refine X283.iaload hx (j := (2 : Int32)) (v := (.int (Int32.ofNat g2))) Ao289.1 (State.isArrayOf_alike hZ.alike Ao289.2.1) Ao289.2.2 (own_ld So289 Ho289 (j := (2 : Int32)) (i := 2) (by decide) rfl (by decide) (v := (.int (Int32.ofNat g2))) rfl).1 (own_ld So289 Ho289 (j := (2 : Int32)) (i := 2) (by decide) rfl (by decide) (v := (.int (Int32.ofNat g2))) rfl).2 (g := (mkF m 401 #[.val (.int p1), .val (.int p2), .val (.int p3), .val (.int p4), .val (.int p5), .val (.int p6), .val (.int (3 : Int32)), .val (.ref bS), .val (.ref bD), .val (.ref bP), .val (.ref bI), .val (.ref bJ), .val (.ref b1), .val (.ref r1), .unset] [(.int (2 : Int32)), (.ref bI)])) rfl rfl (hb hby at_401) _ ?_
      show Steps p.tables e below (T283.setTop (mkF m 402 #[.val (.int p1), .val (.int p2), .val (.int p3), .val (.int p4), .val (.int p5), .val (.int p6), .val (.int (3 : Int32)), .val (.ref bS), .val (.ref bD), .val (.ref bP), .val (.ref bI), .val (.ref bJ), .val (.ref b1), .val (.ref r1), .unset] [(.int (Int32.ofNat g2))])) _
      refine XS.iconst X283.here hx rfl (hb hby at_402) ?_
      show Steps p.tables e below (T283.setTop (mkF m 403 #[.val (.int p1), .val (.int p2), .val (.int p3), .val (.int p4), .val (.int p5), .val (.int p6), .val (.int (3 : Int32)), .val (.ref bS), .val (.ref bD), .val (.ref bP), .val (.ref bI), .val (.ref bJ), .val (.ref b1), .val (.ref r1), .unset] [(.int (1 : Int32)), (.int (Int32.ofNat g2))])) _
      refine XS.iadd X283.here hx rfl (hb hby at_403) rfl ?_
      exact kT)
    rw [own_one] at pre292
    have pre293 : ∀ t, Steps p.tables e below (T283.setTop (mkF m 408 #[.val (.int p1), .val (.int p2), .val (.int p3), .val (.int p4), .val (.int p5), .val (.int p6), .val (.int (3 : Int32)), .val (.ref bS), .val (.ref bD), .val (.ref bP), .val (.ref bI), .val (.ref bJ), .val (.ref b1), .val (.ref r1), .val (.int (Int32.ofNat (g2 + 1)))] [(.ref r1)])) t → Steps p.tables e below (s₁.setTop (entryFrame m #[(.int p1), (.int p2), (.int p3), (.int p4), (.int p5), (.int p6)] maxLocals)) t := fun t kT => pre292 t (by
      show Steps p.tables e below (T283.setTop (mkF m 404 #[.val (.int p1), .val (.int p2), .val (.int p3), .val (.int p4), .val (.int p5), .val (.int p6), .val (.int (3 : Int32)), .val (.ref bS), .val (.ref bD), .val (.ref bP), .val (.ref bI), .val (.ref bJ), .val (.ref b1), .val (.ref r1), .unset] [(.int (Int32.ofNat (g2 + 1)))])) _
      refine XS.istore X283.here hx rfl (hb hby at_404) rfl (l' := #[.val (.int p1), .val (.int p2), .val (.int p3), .val (.int p4), .val (.int p5), .val (.int p6), .val (.int (3 : Int32)), .val (.ref bS), .val (.ref bD), .val (.ref bP), .val (.ref bI), .val (.ref bJ), .val (.ref b1), .val (.ref r1), .val (.int (Int32.ofNat (g2 + 1)))]) rfl ?_
      show Steps p.tables e below (T283.setTop (mkF m 406 #[.val (.int p1), .val (.int p2), .val (.int p3), .val (.int p4), .val (.int p5), .val (.int p6), .val (.int (3 : Int32)), .val (.ref bS), .val (.ref bD), .val (.ref bP), .val (.ref bI), .val (.ref bJ), .val (.ref b1), .val (.ref r1), .val (.int (Int32.ofNat (g2 + 1)))] [])) _
      refine XS.aload X283.here hx rfl (hb hby at_406) rfl rfl ?_
      exact kT)
    obtain ⟨cI294, kI294, q294a, q294b, q294c⟩ := isOf hZ rfl BP.1.2.2.2
    have pre295 : ∀ t, Steps p.tables e below (T283.setTop (mkF m 408 #[.val (.int p1), .val (.int p2), .val (.int p3), .val (.int p4), .val (.int p5), .val (.int p6), .val (.int (3 : Int32)), .val (.ref bS), .val (.ref bD), .val (.ref bP), .val (.ref bI), .val (.ref bJ), .val (.ref b1), .val (.ref r1), .val (.int (Int32.ofNat (g2 + 1)))] [(.ref r1)])) t → Steps p.tables e below (s₁.setTop (entryFrame m #[(.int p1), (.int p2), (.int p3), (.int p4), (.int p5), (.int p6)] maxLocals)) t := fun t kT => pre293 t (by
      exact kT)
    obtain ⟨_, _, ⟨T296, L296, k296, n296⟩, -, X296, ⟨Lc296, hQ296, l296, y296, z296⟩, st296⟩ := X283.virtualBack hx (y := (⟨"com/example/esteem/esteem/index/Postings", "docFreq", "()I"⟩ : MethodName)) (z := (⟨"com/example/esteem/esteem/index/Postings", "docFreq", "()I"⟩ : MethodName)) hown (mvT hZ (hw _ (List.mem_of_getElem? (i := 54) rfl))) (mvT hZ (hw _ (List.mem_of_getElem? (i := 55) rfl))) (notFace_of_selects (args := #[]) (mvT hZ (hw _ (List.mem_of_getElem? (i := 57) rfl)))) (mvT hZ (hw _ (List.mem_of_getElem? (i := 57) rfl))) (mvT hZ (hw _ (List.mem_of_getElem? (i := 56) rfl))) (by decide) (backOf (W := 0) (rmDF l Z a0 hw [] r1 xd xs xp dc3 (0 + 1 + 1 + 1) df3 sf3 pf3 T283.heap nB sz283 BP dc3' (by decide)) hZ (hw _ (List.mem_of_getElem? (i := 58) rfl)) (hw _ (List.mem_of_getElem? (i := 27) rfl)) (by decide) (by decide)) q294a q294c (g := (mkF m 408 #[.val (.int p1), .val (.int p2), .val (.int p3), .val (.int p4), .val (.int p5), .val (.int p6), .val (.int (3 : Int32)), .val (.ref bS), .val (.ref bD), .val (.ref bP), .val (.ref bI), .val (.ref bJ), .val (.ref b1), .val (.ref r1), .val (.int (Int32.ofNat (g2 + 1)))] [(.ref r1)])) rfl (by rw [hml]; rfl) (Steps.refl _) (argsL := []) (rest := []) (lenOf pd___I rfl) rfl (by show 2 * 0 + _ ≤ _; exact Nat.le_of_eq rfl) (hb hby at_408) (fun _ _ => ⟨rfl, rfl, (by decide : 22 + 0 ≤ _), (by decide : 76 + 0 ≤ _)⟩)
    dsimp only [Pt.U, Pt.locs, Pt.cells, Pt.slots] at X296 l296 y296 z296 st296 hQ296
    have X296 := own_st X296 (y296.trans (show _ = 22 from rfl)) (z296.trans (show _ = 76 from rfl))
    obtain ⟨rfl, N296q, edf3⟩ := hQ296
    have N296 := own_fr l296 N283 (own_frm hn0B N296q)
    have pre297 : ∀ t, Steps p.tables e below (T296.setTop (mkF m 411 #[.val (.int p1), .val (.int p2), .val (.int p3), .val (.int p4), .val (.int p5), .val (.int p6), .val (.int (3 : Int32)), .val (.ref bS), .val (.ref bD), .val (.ref bP), .val (.ref bI), .val (.ref bJ), .val (.ref b1), .val (.ref r1), .val (.int (Int32.ofNat (g2 + 1)))] [(.int (Int32.ofNat dc3))])) t → Steps p.tables e below (s₁.setTop (entryFrame m #[(.int p1), (.int p2), (.int p3), (.int p4), (.int p5), (.int p6)] maxLocals)) t := fun t kT => pre295 t (st296.trans kT)
    have pre298 : ∀ t, Steps p.tables e below (T296.setTop (mkF m 418 #[.val (.int p1), .val (.int p2), .val (.int p3), .val (.int p4), .val (.int p5), .val (.int p6), .val (.int (3 : Int32)), .val (.ref bS), .val (.ref bD), .val (.ref bP), .val (.ref bI), .val (.ref bJ), .val (.ref b1), .val (.ref r1), .val (.int (Int32.ofNat (g2 + 1)))] [])) t → Steps p.tables e below (s₁.setTop (entryFrame m #[(.int p1), (.int p2), (.int p3), (.int p4), (.int p5), (.int p6)] maxLocals)) t := fun t kT => pre297 t (by
      show Steps p.tables e below (T296.setTop (mkF m 411 #[.val (.int p1), .val (.int p2), .val (.int p3), .val (.int p4), .val (.int p5), .val (.int p6), .val (.int (3 : Int32)), .val (.ref bS), .val (.ref bD), .val (.ref bP), .val (.ref bI), .val (.ref bJ), .val (.ref b1), .val (.ref r1), .val (.int (Int32.ofNat (g2 + 1)))] [(.int (Int32.ofNat dc3))])) _
      refine XS.iload X296.here hx rfl (hb hby at_411) rfl ?_
      show Steps p.tables e below (T296.setTop (mkF m 413 #[.val (.int p1), .val (.int p2), .val (.int p3), .val (.int p4), .val (.int p5), .val (.int p6), .val (.int (3 : Int32)), .val (.ref bS), .val (.ref bD), .val (.ref bP), .val (.ref bI), .val (.ref bJ), .val (.ref b1), .val (.ref r1), .val (.int (Int32.ofNat (g2 + 1)))] [(.int (Int32.ofNat (g2 + 1))), (.int (Int32.ofNat dc3))])) _
      refine XS.icmpYes X296.here hx rfl (pc0 := 413) (pc' := 418) rfl (hb hby at_413) rfl (teq (by rw [HF.1])).1 (by decide) (by decide) ?_
      exact kT)
    obtain ⟨co299, ⟨Ao299, Ko299⟩, So299, Ho299⟩ := id V_bS_e283
    obtain ⟨co300, ⟨Ao300, Ko300⟩, So300, Ho300⟩ := id V_bD_e283
    obtain ⟨co301, ⟨Ao301, Ko301⟩, So301, Ho301⟩ := id V_bP_e283
    obtain ⟨co302, ⟨Ao302, Ko302⟩, So302, Ho302⟩ := id V_bI_e283
    obtain ⟨co303, ⟨Ao303, Ko303⟩, So303, Ho303⟩ := id V_bJ_e283
    have pre304 : ∀ t, Steps p.tables e below (T296.setTop (mkF m 444 #[.val (.int p1), .val (.int p2), .val (.int p3), .val (.int p4), .val (.int p5), .val (.int p6), .val (.int (3 : Int32)), .val (.ref bS), .val (.ref bD), .val (.ref bP), .val (.ref bI), .val (.ref bJ), .val (.ref b1), .val (.ref r1), .val (.int (Int32.ofNat (g2 + 1)))] [(.int (own_sel s1 (0 : Int32) (1 : Int32))), (.int (1 : Int32)), (.ref r1)])) t → Steps p.tables e below (s₁.setTop (entryFrame m #[(.int p1), (.int p2), (.int p3), (.int p4), (.int p5), (.int p6)] maxLocals)) t := fun t kT => pre298 t (by
      show Steps p.tables e below (T296.setTop (mkF m 418 #[.val (.int p1), .val (.int p2), .val (.int p3), .val (.int p4), .val (.int p5), .val (.int p6), .val (.int (3 : Int32)), .val (.ref bS), .val (.ref bD), .val (.ref bP), .val (.ref bI), .val (.ref bJ), .val (.ref b1), .val (.ref r1), .val (.int (Int32.ofNat (g2 + 1)))] [])) _
      refine XS.iload X296.here hx rfl (hb hby at_418) rfl ?_
      show Steps p.tables e below (T296.setTop (mkF m 420 #[.val (.int p1), .val (.int p2), .val (.int p3), .val (.int p4), .val (.int p5), .val (.int p6), .val (.int (3 : Int32)), .val (.ref bS), .val (.ref bD), .val (.ref bP), .val (.ref bI), .val (.ref bJ), .val (.ref b1), .val (.ref r1), .val (.int (Int32.ofNat (g2 + 1)))] [(.int (3 : Int32))])) _
      refine XS.ifNo X296.here hx rfl (hb hby at_420) rfl ((if0 _ _).trans (tlt (by decide : (0 : Int32) < (3 : Int32))).2.2.2) ?_
      show Steps p.tables e below (T296.setTop (mkF m 423 #[.val (.int p1), .val (.int p2), .val (.int p3), .val (.int p4), .val (.int p5), .val (.int p6), .val (.int (3 : Int32)), .val (.ref bS), .val (.ref bD), .val (.ref bP), .val (.ref bI), .val (.ref bJ), .val (.ref b1), .val (.ref r1), .val (.int (Int32.ofNat (g2 + 1)))] [])) _
      refine XS.aload X296.here hx rfl (hb hby at_423) rfl rfl ?_
      show Steps p.tables e below (T296.setTop (mkF m 425 #[.val (.int p1), .val (.int p2), .val (.int p3), .val (.int p4), .val (.int p5), .val (.int p6), .val (.int (3 : Int32)), .val (.ref bS), .val (.ref bD), .val (.ref bP), .val (.ref bI), .val (.ref bJ), .val (.ref b1), .val (.ref r1), .val (.int (Int32.ofNat (g2 + 1)))] [(.ref r1)])) _
      refine XS.iconst X296.here hx rfl (hb hby at_425) ?_
      show Steps p.tables e below (T296.setTop (mkF m 426 #[.val (.int p1), .val (.int p2), .val (.int p3), .val (.int p4), .val (.int p5), .val (.int p6), .val (.int (3 : Int32)), .val (.ref bS), .val (.ref bD), .val (.ref bP), .val (.ref bI), .val (.ref bJ), .val (.ref b1), .val (.ref r1), .val (.int (Int32.ofNat (g2 + 1)))] [(.int (1 : Int32)), (.ref r1)])) _
      refine XS.iload X296.here hx rfl (hb hby at_426) rfl ?_
      show Steps p.tables e below (T296.setTop (mkF m 428 #[.val (.int p1), .val (.int p2), .val (.int p3), .val (.int p4), .val (.int p5), .val (.int p6), .val (.int (3 : Int32)), .val (.ref bS), .val (.ref bD), .val (.ref bP), .val (.ref bI), .val (.ref bJ), .val (.ref b1), .val (.ref r1), .val (.int (Int32.ofNat (g2 + 1)))] [(.int (3 : Int32)), (.int (1 : Int32)), (.ref r1)])) _
      refine XS.iconst X296.here hx rfl (hb hby at_428) ?_
      show Steps p.tables e below (T296.setTop (mkF m 429 #[.val (.int p1), .val (.int p2), .val (.int p3), .val (.int p4), .val (.int p5), .val (.int p6), .val (.int (3 : Int32)), .val (.ref bS), .val (.ref bD), .val (.ref bP), .val (.ref bI), .val (.ref bJ), .val (.ref b1), .val (.ref r1), .val (.int (Int32.ofNat (g2 + 1)))] [(.int (1 : Int32)), (.int (3 : Int32)), (.int (1 : Int32)), (.ref r1)])) _
      refine XS.icmpNo X296.here hx rfl (hb hby at_429) rfl (feq (by decide : ¬ ((3 : Int32) = (1 : Int32)))).1 ?_
      show Steps p.tables e below (T296.setTop (mkF m 432 #[.val (.int p1), .val (.int p2), .val (.int p3), .val (.int p4), .val (.int p5), .val (.int p6), .val (.int (3 : Int32)), .val (.ref bS), .val (.ref bD), .val (.ref bP), .val (.ref bI), .val (.ref bJ), .val (.ref b1), .val (.ref r1), .val (.int (Int32.ofNat (g2 + 1)))] [(.int (1 : Int32)), (.ref r1)])) _
      refine XS.aload X296.here hx rfl (hb hby at_432) rfl rfl ?_
      show Steps p.tables e below (T296.setTop (mkF m 434 #[.val (.int p1), .val (.int p2), .val (.int p3), .val (.int p4), .val (.int p5), .val (.int p6), .val (.int (3 : Int32)), .val (.ref bS), .val (.ref bD), .val (.ref bP), .val (.ref bI), .val (.ref bJ), .val (.ref b1), .val (.ref r1), .val (.int (Int32.ofNat (g2 + 1)))] [(.ref bS), (.int (1 : Int32)), (.ref r1)])) _
      refine XS.iconst X296.here hx rfl (hb hby at_434) ?_
      show Steps p.tables e below (T296.setTop (mkF m 435 #[.val (.int p1), .val (.int p2), .val (.int p3), .val (.int p4), .val (.int p5), .val (.int p6), .val (.int (3 : Int32)), .val (.ref bS), .val (.ref bD), .val (.ref bP), .val (.ref bI), .val (.ref bJ), .val (.ref b1), .val (.ref r1), .val (.int (Int32.ofNat (g2 + 1)))] [(.int (1 : Int32)), (.ref bS), (.int (1 : Int32)), (.ref r1)])) _
      refine X296.baloadBooleans hx (j := (1 : Int32)) (v := (.int s1)) (by rw [edf3]; exact Ao299.1) (State.isArrayOf_alike hZ.alike Ao299.2.1) Ao299.2.2 (own_ld So299 Ho299 (j := (1 : Int32)) (i := 1) (by decide) rfl (by decide) (v := (.int s1)) rfl).1 (own_ld So299 Ho299 (j := (1 : Int32)) (i := 1) (by decide) rfl (by decide) (v := (.int s1)) rfl).2 (g := (mkF m 435 #[.val (.int p1), .val (.int p2), .val (.int p3), .val (.int p4), .val (.int p5), .val (.int p6), .val (.int (3 : Int32)), .val (.ref bS), .val (.ref bD), .val (.ref bP), .val (.ref bI), .val (.ref bJ), .val (.ref b1), .val (.ref r1), .val (.int (Int32.ofNat (g2 + 1)))] [(.int (1 : Int32)), (.ref bS), (.int (1 : Int32)), (.ref r1)])) rfl rfl (hb hby at_435) _ ?_
      by_cases hc436 : s1 = (0 : Int32)
      · show Steps p.tables e below (T296.setTop (mkF m 436 #[.val (.int p1), .val (.int p2), .val (.int p3), .val (.int p4), .val (.int p5), .val (.int p6), .val (.int (3 : Int32)), .val (.ref bS), .val (.ref bD), .val (.ref bP), .val (.ref bI), .val (.ref bJ), .val (.ref b1), .val (.ref r1), .val (.int (Int32.ofNat (g2 + 1)))] [(.int s1), (.int (1 : Int32)), (.ref r1)])) _
        refine XS.ifNo X296.here hx rfl (hb hby at_436) rfl ((if0 _ _).trans (teq hc436).2) ?_
        show Steps p.tables e below (T296.setTop (mkF m 439 #[.val (.int p1), .val (.int p2), .val (.int p3), .val (.int p4), .val (.int p5), .val (.int p6), .val (.int (3 : Int32)), .val (.ref bS), .val (.ref bD), .val (.ref bP), .val (.ref bI), .val (.ref bJ), .val (.ref b1), .val (.ref r1), .val (.int (Int32.ofNat (g2 + 1)))] [(.int (1 : Int32)), (.ref r1)])) _
        refine XS.iconst X296.here hx rfl (hb hby at_439) ?_
        show Steps p.tables e below (T296.setTop (mkF m 440 #[.val (.int p1), .val (.int p2), .val (.int p3), .val (.int p4), .val (.int p5), .val (.int p6), .val (.int (3 : Int32)), .val (.ref bS), .val (.ref bD), .val (.ref bP), .val (.ref bI), .val (.ref bJ), .val (.ref b1), .val (.ref r1), .val (.int (Int32.ofNat (g2 + 1)))] [(.int (1 : Int32)), (.int (1 : Int32)), (.ref r1)])) _
        refine XS.goto X296.here hx rfl (pc0 := 440) (pc' := 444) rfl (hb hby at_440) (by decide) (by decide) ?_
        show Steps p.tables e below (T296.setTop (mkF m 444 #[.val (.int p1), .val (.int p2), .val (.int p3), .val (.int p4), .val (.int p5), .val (.int p6), .val (.int (3 : Int32)), .val (.ref bS), .val (.ref bD), .val (.ref bP), .val (.ref bI), .val (.ref bJ), .val (.ref b1), .val (.ref r1), .val (.int (Int32.ofNat (g2 + 1)))] [(.int (1 : Int32)), (.int (1 : Int32)), (.ref r1)])) _
        exact castTop (by rw [show (own_sel s1 (0 : Int32) (1 : Int32)) = (1 : Int32) from by exact (if_pos hc436).trans (rfl)]) kT
      · show Steps p.tables e below (T296.setTop (mkF m 436 #[.val (.int p1), .val (.int p2), .val (.int p3), .val (.int p4), .val (.int p5), .val (.int p6), .val (.int (3 : Int32)), .val (.ref bS), .val (.ref bD), .val (.ref bP), .val (.ref bI), .val (.ref bJ), .val (.ref b1), .val (.ref r1), .val (.int (Int32.ofNat (g2 + 1)))] [(.int s1), (.int (1 : Int32)), (.ref r1)])) _
        refine XS.ifYes X296.here hx rfl (pc0 := 436) (pc' := 443) rfl (hb hby at_436) rfl ((if0 _ _).trans (feq hc436).2) (by decide) (by decide) ?_
        show Steps p.tables e below (T296.setTop (mkF m 443 #[.val (.int p1), .val (.int p2), .val (.int p3), .val (.int p4), .val (.int p5), .val (.int p6), .val (.int (3 : Int32)), .val (.ref bS), .val (.ref bD), .val (.ref bP), .val (.ref bI), .val (.ref bJ), .val (.ref b1), .val (.ref r1), .val (.int (Int32.ofNat (g2 + 1)))] [(.int (1 : Int32)), (.ref r1)])) _
        refine XS.iconst X296.here hx rfl (hb hby at_443) ?_
        show Steps p.tables e below (T296.setTop (mkF m 444 #[.val (.int p1), .val (.int p2), .val (.int p3), .val (.int p4), .val (.int p5), .val (.int p6), .val (.int (3 : Int32)), .val (.ref bS), .val (.ref bD), .val (.ref bP), .val (.ref bI), .val (.ref bJ), .val (.ref b1), .val (.ref r1), .val (.int (Int32.ofNat (g2 + 1)))] [(.int (0 : Int32)), (.int (1 : Int32)), (.ref r1)])) _
        exact castTop (by rw [show (own_sel s1 (0 : Int32) (1 : Int32)) = (0 : Int32) from by exact (if_neg hc436).trans (rfl)]) kT)
    have pre305 : ∀ t, Steps p.tables e below (T296.setTop (mkF m 460 #[.val (.int p1), .val (.int p2), .val (.int p3), .val (.int p4), .val (.int p5), .val (.int p6), .val (.int (3 : Int32)), .val (.ref bS), .val (.ref bD), .val (.ref bP), .val (.ref bI), .val (.ref bJ), .val (.ref b1), .val (.ref r1), .val (.int (Int32.ofNat (g2 + 1)))] [(.int qA), (.int dA), (.int (0 : Int32)), (.int (0 : Int32)), (.int (own_sel s1 (0 : Int32) (1 : Int32))), (.int (1 : Int32)), (.ref r1)])) t → Steps p.tables e below (s₁.setTop (entryFrame m #[(.int p1), (.int p2), (.int p3), (.int p4), (.int p5), (.int p6)] maxLocals)) t := fun t kT => pre304 t (by
      show Steps p.tables e below (T296.setTop (mkF m 444 #[.val (.int p1), .val (.int p2), .val (.int p3), .val (.int p4), .val (.int p5), .val (.int p6), .val (.int (3 : Int32)), .val (.ref bS), .val (.ref bD), .val (.ref bP), .val (.ref bI), .val (.ref bJ), .val (.ref b1), .val (.ref r1), .val (.int (Int32.ofNat (g2 + 1)))] [(.int (own_sel s1 (0 : Int32) (1 : Int32))), (.int (1 : Int32)), (.ref r1)])) _
      refine XS.aload X296.here hx rfl (hb hby at_444) rfl rfl ?_
      show Steps p.tables e below (T296.setTop (mkF m 446 #[.val (.int p1), .val (.int p2), .val (.int p3), .val (.int p4), .val (.int p5), .val (.int p6), .val (.int (3 : Int32)), .val (.ref bS), .val (.ref bD), .val (.ref bP), .val (.ref bI), .val (.ref bJ), .val (.ref b1), .val (.ref r1), .val (.int (Int32.ofNat (g2 + 1)))] [(.ref bI), (.int (own_sel s1 (0 : Int32) (1 : Int32))), (.int (1 : Int32)), (.ref r1)])) _
      refine XS.iconst X296.here hx rfl (hb hby at_446) ?_
      show Steps p.tables e below (T296.setTop (mkF m 447 #[.val (.int p1), .val (.int p2), .val (.int p3), .val (.int p4), .val (.int p5), .val (.int p6), .val (.int (3 : Int32)), .val (.ref bS), .val (.ref bD), .val (.ref bP), .val (.ref bI), .val (.ref bJ), .val (.ref b1), .val (.ref r1), .val (.int (Int32.ofNat (g2 + 1)))] [(.int (0 : Int32)), (.ref bI), (.int (own_sel s1 (0 : Int32) (1 : Int32))), (.int (1 : Int32)), (.ref r1)])) _
      refine X296.iaload hx (j := (0 : Int32)) (v := (.int (0 : Int32))) (by rw [edf3]; exact Ao302.1) (State.isArrayOf_alike hZ.alike Ao302.2.1) Ao302.2.2 (own_ld So302 Ho302 (j := (0 : Int32)) (i := 0) (by decide) rfl (by decide) (v := (.int (0 : Int32))) rfl).1 (own_ld So302 Ho302 (j := (0 : Int32)) (i := 0) (by decide) rfl (by decide) (v := (.int (0 : Int32))) rfl).2 (g := (mkF m 447 #[.val (.int p1), .val (.int p2), .val (.int p3), .val (.int p4), .val (.int p5), .val (.int p6), .val (.int (3 : Int32)), .val (.ref bS), .val (.ref bD), .val (.ref bP), .val (.ref bI), .val (.ref bJ), .val (.ref b1), .val (.ref r1), .val (.int (Int32.ofNat (g2 + 1)))] [(.int (0 : Int32)), (.ref bI), (.int (own_sel s1 (0 : Int32) (1 : Int32))), (.int (1 : Int32)), (.ref r1)])) rfl rfl (hb hby at_447) _ ?_
      show Steps p.tables e below (T296.setTop (mkF m 448 #[.val (.int p1), .val (.int p2), .val (.int p3), .val (.int p4), .val (.int p5), .val (.int p6), .val (.int (3 : Int32)), .val (.ref bS), .val (.ref bD), .val (.ref bP), .val (.ref bI), .val (.ref bJ), .val (.ref b1), .val (.ref r1), .val (.int (Int32.ofNat (g2 + 1)))] [(.int (0 : Int32)), (.int (own_sel s1 (0 : Int32) (1 : Int32))), (.int (1 : Int32)), (.ref r1)])) _
      refine XS.aload X296.here hx rfl (hb hby at_448) rfl rfl ?_
      show Steps p.tables e below (T296.setTop (mkF m 450 #[.val (.int p1), .val (.int p2), .val (.int p3), .val (.int p4), .val (.int p5), .val (.int p6), .val (.int (3 : Int32)), .val (.ref bS), .val (.ref bD), .val (.ref bP), .val (.ref bI), .val (.ref bJ), .val (.ref b1), .val (.ref r1), .val (.int (Int32.ofNat (g2 + 1)))] [(.ref bJ), (.int (0 : Int32)), (.int (own_sel s1 (0 : Int32) (1 : Int32))), (.int (1 : Int32)), (.ref r1)])) _
      refine XS.iconst X296.here hx rfl (hb hby at_450) ?_
      show Steps p.tables e below (T296.setTop (mkF m 451 #[.val (.int p1), .val (.int p2), .val (.int p3), .val (.int p4), .val (.int p5), .val (.int p6), .val (.int (3 : Int32)), .val (.ref bS), .val (.ref bD), .val (.ref bP), .val (.ref bI), .val (.ref bJ), .val (.ref b1), .val (.ref r1), .val (.int (Int32.ofNat (g2 + 1)))] [(.int (0 : Int32)), (.ref bJ), (.int (0 : Int32)), (.int (own_sel s1 (0 : Int32) (1 : Int32))), (.int (1 : Int32)), (.ref r1)])) _
      refine X296.iaload hx (j := (0 : Int32)) (v := (.int (0 : Int32))) (by rw [edf3]; exact Ao303.1) (State.isArrayOf_alike hZ.alike Ao303.2.1) Ao303.2.2 (own_ld So303 Ho303 (j := (0 : Int32)) (i := 0) (by decide) rfl (by decide) (v := (.int (0 : Int32))) rfl).1 (own_ld So303 Ho303 (j := (0 : Int32)) (i := 0) (by decide) rfl (by decide) (v := (.int (0 : Int32))) rfl).2 (g := (mkF m 451 #[.val (.int p1), .val (.int p2), .val (.int p3), .val (.int p4), .val (.int p5), .val (.int p6), .val (.int (3 : Int32)), .val (.ref bS), .val (.ref bD), .val (.ref bP), .val (.ref bI), .val (.ref bJ), .val (.ref b1), .val (.ref r1), .val (.int (Int32.ofNat (g2 + 1)))] [(.int (0 : Int32)), (.ref bJ), (.int (0 : Int32)), (.int (own_sel s1 (0 : Int32) (1 : Int32))), (.int (1 : Int32)), (.ref r1)])) rfl rfl (hb hby at_451) _ ?_
      show Steps p.tables e below (T296.setTop (mkF m 452 #[.val (.int p1), .val (.int p2), .val (.int p3), .val (.int p4), .val (.int p5), .val (.int p6), .val (.int (3 : Int32)), .val (.ref bS), .val (.ref bD), .val (.ref bP), .val (.ref bI), .val (.ref bJ), .val (.ref b1), .val (.ref r1), .val (.int (Int32.ofNat (g2 + 1)))] [(.int (0 : Int32)), (.int (0 : Int32)), (.int (own_sel s1 (0 : Int32) (1 : Int32))), (.int (1 : Int32)), (.ref r1)])) _
      refine XS.aload X296.here hx rfl (hb hby at_452) rfl rfl ?_
      show Steps p.tables e below (T296.setTop (mkF m 454 #[.val (.int p1), .val (.int p2), .val (.int p3), .val (.int p4), .val (.int p5), .val (.int p6), .val (.int (3 : Int32)), .val (.ref bS), .val (.ref bD), .val (.ref bP), .val (.ref bI), .val (.ref bJ), .val (.ref b1), .val (.ref r1), .val (.int (Int32.ofNat (g2 + 1)))] [(.ref bD), (.int (0 : Int32)), (.int (0 : Int32)), (.int (own_sel s1 (0 : Int32) (1 : Int32))), (.int (1 : Int32)), (.ref r1)])) _
      refine XS.iconst X296.here hx rfl (hb hby at_454) ?_
      show Steps p.tables e below (T296.setTop (mkF m 455 #[.val (.int p1), .val (.int p2), .val (.int p3), .val (.int p4), .val (.int p5), .val (.int p6), .val (.int (3 : Int32)), .val (.ref bS), .val (.ref bD), .val (.ref bP), .val (.ref bI), .val (.ref bJ), .val (.ref b1), .val (.ref r1), .val (.int (Int32.ofNat (g2 + 1)))] [(.int (0 : Int32)), (.ref bD), (.int (0 : Int32)), (.int (0 : Int32)), (.int (own_sel s1 (0 : Int32) (1 : Int32))), (.int (1 : Int32)), (.ref r1)])) _
      refine X296.iaload hx (j := (0 : Int32)) (v := (.int dA)) (by rw [edf3]; exact Ao300.1) (State.isArrayOf_alike hZ.alike Ao300.2.1) Ao300.2.2 (own_ld So300 Ho300 (j := (0 : Int32)) (i := 0) (by decide) rfl (by decide) (v := (.int dA)) rfl).1 (own_ld So300 Ho300 (j := (0 : Int32)) (i := 0) (by decide) rfl (by decide) (v := (.int dA)) rfl).2 (g := (mkF m 455 #[.val (.int p1), .val (.int p2), .val (.int p3), .val (.int p4), .val (.int p5), .val (.int p6), .val (.int (3 : Int32)), .val (.ref bS), .val (.ref bD), .val (.ref bP), .val (.ref bI), .val (.ref bJ), .val (.ref b1), .val (.ref r1), .val (.int (Int32.ofNat (g2 + 1)))] [(.int (0 : Int32)), (.ref bD), (.int (0 : Int32)), (.int (0 : Int32)), (.int (own_sel s1 (0 : Int32) (1 : Int32))), (.int (1 : Int32)), (.ref r1)])) rfl rfl (hb hby at_455) _ ?_
      show Steps p.tables e below (T296.setTop (mkF m 456 #[.val (.int p1), .val (.int p2), .val (.int p3), .val (.int p4), .val (.int p5), .val (.int p6), .val (.int (3 : Int32)), .val (.ref bS), .val (.ref bD), .val (.ref bP), .val (.ref bI), .val (.ref bJ), .val (.ref b1), .val (.ref r1), .val (.int (Int32.ofNat (g2 + 1)))] [(.int dA), (.int (0 : Int32)), (.int (0 : Int32)), (.int (own_sel s1 (0 : Int32) (1 : Int32))), (.int (1 : Int32)), (.ref r1)])) _
      refine XS.aload X296.here hx rfl (hb hby at_456) rfl rfl ?_
      show Steps p.tables e below (T296.setTop (mkF m 458 #[.val (.int p1), .val (.int p2), .val (.int p3), .val (.int p4), .val (.int p5), .val (.int p6), .val (.int (3 : Int32)), .val (.ref bS), .val (.ref bD), .val (.ref bP), .val (.ref bI), .val (.ref bJ), .val (.ref b1), .val (.ref r1), .val (.int (Int32.ofNat (g2 + 1)))] [(.ref bP), (.int dA), (.int (0 : Int32)), (.int (0 : Int32)), (.int (own_sel s1 (0 : Int32) (1 : Int32))), (.int (1 : Int32)), (.ref r1)])) _
      refine XS.iconst X296.here hx rfl (hb hby at_458) ?_
      show Steps p.tables e below (T296.setTop (mkF m 459 #[.val (.int p1), .val (.int p2), .val (.int p3), .val (.int p4), .val (.int p5), .val (.int p6), .val (.int (3 : Int32)), .val (.ref bS), .val (.ref bD), .val (.ref bP), .val (.ref bI), .val (.ref bJ), .val (.ref b1), .val (.ref r1), .val (.int (Int32.ofNat (g2 + 1)))] [(.int (0 : Int32)), (.ref bP), (.int dA), (.int (0 : Int32)), (.int (0 : Int32)), (.int (own_sel s1 (0 : Int32) (1 : Int32))), (.int (1 : Int32)), (.ref r1)])) _
      refine X296.iaload hx (j := (0 : Int32)) (v := (.int qA)) (by rw [edf3]; exact Ao301.1) (State.isArrayOf_alike hZ.alike Ao301.2.1) Ao301.2.2 (own_ld So301 Ho301 (j := (0 : Int32)) (i := 0) (by decide) rfl (by decide) (v := (.int qA)) rfl).1 (own_ld So301 Ho301 (j := (0 : Int32)) (i := 0) (by decide) rfl (by decide) (v := (.int qA)) rfl).2 (g := (mkF m 459 #[.val (.int p1), .val (.int p2), .val (.int p3), .val (.int p4), .val (.int p5), .val (.int p6), .val (.int (3 : Int32)), .val (.ref bS), .val (.ref bD), .val (.ref bP), .val (.ref bI), .val (.ref bJ), .val (.ref b1), .val (.ref r1), .val (.int (Int32.ofNat (g2 + 1)))] [(.int (0 : Int32)), (.ref bP), (.int dA), (.int (0 : Int32)), (.int (0 : Int32)), (.int (own_sel s1 (0 : Int32) (1 : Int32))), (.int (1 : Int32)), (.ref r1)])) rfl rfl (hb hby at_459) _ ?_
      exact kT)
    obtain ⟨_, _, ⟨T306, L306, k306, n306⟩, -, X306, ⟨Lc306, hQ306, l306, y306, z306⟩, st306⟩ := Jvm.LawKit.callS X296 hx (y := (⟨"com/example/esteem/esteem/index/PostingsBuildPinLaw", "check", "(Lcom/example/esteem/esteem/index/Postings;ZZIIII)Z"⟩ : MethodName)) hown (mvT hZ (hw _ (List.mem_of_getElem? (i := 73) rfl))) (mvT hZ (hw _ (List.mem_of_getElem? (i := 74) rfl))) (mvT hZ (hw _ (List.mem_of_getElem? (i := 75) rfl))) (mvT hZ (hw _ (List.mem_of_getElem? (i := 76) rfl))) (by decide) (backOf (W := 0) (rmCK l Z a0 hw [] r1 (1 : Int32) (own_sel s1 (0 : Int32) (1 : Int32)) dA qA 0 0 0 xd xs xp dc3 (0 + 1 + 1 + 1) df3 sf3 pf3 T283.heap nB sz283 BP dc3' (by decide) (by omega) (by decide) HF.2.2.1 (fun _ => HF.2.1) p30 (fun z => HF.2.2.2.2.2.2.2.2.1 (own_s0 zs1 z))) hZ (hw _ (List.mem_of_getElem? (i := 76) rfl)) (hw _ (List.mem_of_getElem? (i := 75) rfl)) (by decide) (by decide)) (g := (mkF m 460 #[.val (.int p1), .val (.int p2), .val (.int p3), .val (.int p4), .val (.int p5), .val (.int p6), .val (.int (3 : Int32)), .val (.ref bS), .val (.ref bD), .val (.ref bP), .val (.ref bI), .val (.ref bJ), .val (.ref b1), .val (.ref r1), .val (.int (Int32.ofNat (g2 + 1)))] [(.int qA), (.int dA), (.int (0 : Int32)), (.int (0 : Int32)), (.int (own_sel s1 (0 : Int32) (1 : Int32))), (.int (1 : Int32)), (.ref r1)])) rfl (by rw [hml]; rfl) (argsL := [(.ref r1), (.int (1 : Int32)), (.int (own_sel s1 (0 : Int32) (1 : Int32))), (.int (0 : Int32)), (.int (0 : Int32)), (.int dA), (.int qA)]) (rest := []) (lenOf pd__Lcom_example_esteem_esteem_index_Postings_ZZIIII_Z rfl) rfl (by show 2 * 0 + _ ≤ _; exact Nat.le_of_eq rfl) (hb hby at_460) (fun _ _ => ⟨rfl, edf3, (by decide : 22 + 0 ≤ _), (by decide : 76 + 0 ≤ _)⟩)
    dsimp only [Pt.U, Pt.locs, Pt.cells, Pt.slots] at X306 l306 y306 z306 st306 hQ306
    have X306 := own_st X306 (y306.trans (show _ = 22 from rfl)) (z306.trans (show _ = 76 from rfl))
    obtain ⟨rfl, N306q, ec3_1⟩ := hQ306
    have N306 := own_fr l306 N296 (own_frm hn0B N306q)
    have pre307 : ∀ t, Steps p.tables e below (T306.setTop (mkF m 463 #[.val (.int p1), .val (.int p2), .val (.int p3), .val (.int p4), .val (.int p5), .val (.int p6), .val (.int (3 : Int32)), .val (.ref bS), .val (.ref bD), .val (.ref bP), .val (.ref bI), .val (.ref bJ), .val (.ref b1), .val (.ref r1), .val (.int (Int32.ofNat (g2 + 1)))] [(.int (1 : Int32))])) t → Steps p.tables e below (s₁.setTop (entryFrame m #[(.int p1), (.int p2), (.int p3), (.int p4), (.int p5), (.int p6)] maxLocals)) t := fun t kT => pre305 t (st306 t kT)
    have pre308 : ∀ t, Steps p.tables e below (T306.setTop (mkF m 468 #[.val (.int p1), .val (.int p2), .val (.int p3), .val (.int p4), .val (.int p5), .val (.int p6), .val (.int (3 : Int32)), .val (.ref bS), .val (.ref bD), .val (.ref bP), .val (.ref bI), .val (.ref bJ), .val (.ref b1), .val (.ref r1), .val (.int (Int32.ofNat (g2 + 1)))] [])) t → Steps p.tables e below (s₁.setTop (entryFrame m #[(.int p1), (.int p2), (.int p3), (.int p4), (.int p5), (.int p6)] maxLocals)) t := fun t kT => pre307 t (by
      show Steps p.tables e below (T306.setTop (mkF m 463 #[.val (.int p1), .val (.int p2), .val (.int p3), .val (.int p4), .val (.int p5), .val (.int p6), .val (.int (3 : Int32)), .val (.ref bS), .val (.ref bD), .val (.ref bP), .val (.ref bI), .val (.ref bJ), .val (.ref b1), .val (.ref r1), .val (.int (Int32.ofNat (g2 + 1)))] [(.int (1 : Int32))])) _
      refine XS.ifYes X306.here hx rfl (pc0 := 463) (pc' := 468) rfl (hb hby at_463) rfl ((if0 _ _).trans (feq (by decide : ¬ ((1 : Int32) = (0 : Int32)))).2) (by decide) (by decide) ?_
      exact kT)
    obtain ⟨co309, ⟨Ao309, Ko309⟩, So309, Ho309⟩ := id V_bS_e283
    obtain ⟨co310, ⟨Ao310, Ko310⟩, So310, Ho310⟩ := id V_bD_e283
    obtain ⟨co311, ⟨Ao311, Ko311⟩, So311, Ho311⟩ := id V_bP_e283
    obtain ⟨co312, ⟨Ao312, Ko312⟩, So312, Ho312⟩ := id V_bI_e283
    obtain ⟨co313, ⟨Ao313, Ko313⟩, So313, Ho313⟩ := id V_bJ_e283
    have pre314 : ∀ t, Steps p.tables e below (T306.setTop (mkF m 488 #[.val (.int p1), .val (.int p2), .val (.int p3), .val (.int p4), .val (.int p5), .val (.int p6), .val (.int (3 : Int32)), .val (.ref bS), .val (.ref bD), .val (.ref bP), .val (.ref bI), .val (.ref bJ), .val (.ref b1), .val (.ref r1), .val (.int (Int32.ofNat (g2 + 1)))] [(.int (own_sel s1 (0 : Int32) (1 : Int32))), (.ref r1)])) t → Steps p.tables e below (s₁.setTop (entryFrame m #[(.int p1), (.int p2), (.int p3), (.int p4), (.int p5), (.int p6)] maxLocals)) t := fun t kT => pre308 t (by
      show Steps p.tables e below (T306.setTop (mkF m 468 #[.val (.int p1), .val (.int p2), .val (.int p3), .val (.int p4), .val (.int p5), .val (.int p6), .val (.int (3 : Int32)), .val (.ref bS), .val (.ref bD), .val (.ref bP), .val (.ref bI), .val (.ref bJ), .val (.ref b1), .val (.ref r1), .val (.int (Int32.ofNat (g2 + 1)))] [])) _
      refine XS.iload X306.here hx rfl (hb hby at_468) rfl ?_
      show Steps p.tables e below (T306.setTop (mkF m 470 #[.val (.int p1), .val (.int p2), .val (.int p3), .val (.int p4), .val (.int p5), .val (.int p6), .val (.int (3 : Int32)), .val (.ref bS), .val (.ref bD), .val (.ref bP), .val (.ref bI), .val (.ref bJ), .val (.ref b1), .val (.ref r1), .val (.int (Int32.ofNat (g2 + 1)))] [(.int (3 : Int32))])) _
      refine XS.iconst X306.here hx rfl (hb hby at_470) ?_
      show Steps p.tables e below (T306.setTop (mkF m 471 #[.val (.int p1), .val (.int p2), .val (.int p3), .val (.int p4), .val (.int p5), .val (.int p6), .val (.int (3 : Int32)), .val (.ref bS), .val (.ref bD), .val (.ref bP), .val (.ref bI), .val (.ref bJ), .val (.ref b1), .val (.ref r1), .val (.int (Int32.ofNat (g2 + 1)))] [(.int (1 : Int32)), (.int (3 : Int32))])) _
      refine XS.icmpNo X306.here hx rfl (hb hby at_471) rfl (tlt (by decide : (1 : Int32) < (3 : Int32))).2.2.2 ?_
      show Steps p.tables e below (T306.setTop (mkF m 474 #[.val (.int p1), .val (.int p2), .val (.int p3), .val (.int p4), .val (.int p5), .val (.int p6), .val (.int (3 : Int32)), .val (.ref bS), .val (.ref bD), .val (.ref bP), .val (.ref bI), .val (.ref bJ), .val (.ref b1), .val (.ref r1), .val (.int (Int32.ofNat (g2 + 1)))] [])) _
      refine XS.aload X306.here hx rfl (hb hby at_474) rfl rfl ?_
      show Steps p.tables e below (T306.setTop (mkF m 476 #[.val (.int p1), .val (.int p2), .val (.int p3), .val (.int p4), .val (.int p5), .val (.int p6), .val (.int (3 : Int32)), .val (.ref bS), .val (.ref bD), .val (.ref bP), .val (.ref bI), .val (.ref bJ), .val (.ref b1), .val (.ref r1), .val (.int (Int32.ofNat (g2 + 1)))] [(.ref r1)])) _
      refine XS.aload X306.here hx rfl (hb hby at_476) rfl rfl ?_
      show Steps p.tables e below (T306.setTop (mkF m 478 #[.val (.int p1), .val (.int p2), .val (.int p3), .val (.int p4), .val (.int p5), .val (.int p6), .val (.int (3 : Int32)), .val (.ref bS), .val (.ref bD), .val (.ref bP), .val (.ref bI), .val (.ref bJ), .val (.ref b1), .val (.ref r1), .val (.int (Int32.ofNat (g2 + 1)))] [(.ref bS), (.ref r1)])) _
      refine XS.iconst X306.here hx rfl (hb hby at_478) ?_
      show Steps p.tables e below (T306.setTop (mkF m 479 #[.val (.int p1), .val (.int p2), .val (.int p3), .val (.int p4), .val (.int p5), .val (.int p6), .val (.int (3 : Int32)), .val (.ref bS), .val (.ref bD), .val (.ref bP), .val (.ref bI), .val (.ref bJ), .val (.ref b1), .val (.ref r1), .val (.int (Int32.ofNat (g2 + 1)))] [(.int (1 : Int32)), (.ref bS), (.ref r1)])) _
      refine X306.baloadBooleans hx (j := (1 : Int32)) (v := (.int s1)) (by rw [ec3_1]; exact Ao309.1) (State.isArrayOf_alike hZ.alike Ao309.2.1) Ao309.2.2 (own_ld So309 Ho309 (j := (1 : Int32)) (i := 1) (by decide) rfl (by decide) (v := (.int s1)) rfl).1 (own_ld So309 Ho309 (j := (1 : Int32)) (i := 1) (by decide) rfl (by decide) (v := (.int s1)) rfl).2 (g := (mkF m 479 #[.val (.int p1), .val (.int p2), .val (.int p3), .val (.int p4), .val (.int p5), .val (.int p6), .val (.int (3 : Int32)), .val (.ref bS), .val (.ref bD), .val (.ref bP), .val (.ref bI), .val (.ref bJ), .val (.ref b1), .val (.ref r1), .val (.int (Int32.ofNat (g2 + 1)))] [(.int (1 : Int32)), (.ref bS), (.ref r1)])) rfl rfl (hb hby at_479) _ ?_
      by_cases hc480 : s1 = (0 : Int32)
      · show Steps p.tables e below (T306.setTop (mkF m 480 #[.val (.int p1), .val (.int p2), .val (.int p3), .val (.int p4), .val (.int p5), .val (.int p6), .val (.int (3 : Int32)), .val (.ref bS), .val (.ref bD), .val (.ref bP), .val (.ref bI), .val (.ref bJ), .val (.ref b1), .val (.ref r1), .val (.int (Int32.ofNat (g2 + 1)))] [(.int s1), (.ref r1)])) _
        refine XS.ifNo X306.here hx rfl (hb hby at_480) rfl ((if0 _ _).trans (teq hc480).2) ?_
        show Steps p.tables e below (T306.setTop (mkF m 483 #[.val (.int p1), .val (.int p2), .val (.int p3), .val (.int p4), .val (.int p5), .val (.int p6), .val (.int (3 : Int32)), .val (.ref bS), .val (.ref bD), .val (.ref bP), .val (.ref bI), .val (.ref bJ), .val (.ref b1), .val (.ref r1), .val (.int (Int32.ofNat (g2 + 1)))] [(.ref r1)])) _
        refine XS.iconst X306.here hx rfl (hb hby at_483) ?_
        show Steps p.tables e below (T306.setTop (mkF m 484 #[.val (.int p1), .val (.int p2), .val (.int p3), .val (.int p4), .val (.int p5), .val (.int p6), .val (.int (3 : Int32)), .val (.ref bS), .val (.ref bD), .val (.ref bP), .val (.ref bI), .val (.ref bJ), .val (.ref b1), .val (.ref r1), .val (.int (Int32.ofNat (g2 + 1)))] [(.int (1 : Int32)), (.ref r1)])) _
        refine XS.goto X306.here hx rfl (pc0 := 484) (pc' := 488) rfl (hb hby at_484) (by decide) (by decide) ?_
        show Steps p.tables e below (T306.setTop (mkF m 488 #[.val (.int p1), .val (.int p2), .val (.int p3), .val (.int p4), .val (.int p5), .val (.int p6), .val (.int (3 : Int32)), .val (.ref bS), .val (.ref bD), .val (.ref bP), .val (.ref bI), .val (.ref bJ), .val (.ref b1), .val (.ref r1), .val (.int (Int32.ofNat (g2 + 1)))] [(.int (1 : Int32)), (.ref r1)])) _
        exact castTop (by rw [show (own_sel s1 (0 : Int32) (1 : Int32)) = (1 : Int32) from by exact (if_pos hc480).trans (rfl)]) kT
      · show Steps p.tables e below (T306.setTop (mkF m 480 #[.val (.int p1), .val (.int p2), .val (.int p3), .val (.int p4), .val (.int p5), .val (.int p6), .val (.int (3 : Int32)), .val (.ref bS), .val (.ref bD), .val (.ref bP), .val (.ref bI), .val (.ref bJ), .val (.ref b1), .val (.ref r1), .val (.int (Int32.ofNat (g2 + 1)))] [(.int s1), (.ref r1)])) _
        refine XS.ifYes X306.here hx rfl (pc0 := 480) (pc' := 487) rfl (hb hby at_480) rfl ((if0 _ _).trans (feq hc480).2) (by decide) (by decide) ?_
        show Steps p.tables e below (T306.setTop (mkF m 487 #[.val (.int p1), .val (.int p2), .val (.int p3), .val (.int p4), .val (.int p5), .val (.int p6), .val (.int (3 : Int32)), .val (.ref bS), .val (.ref bD), .val (.ref bP), .val (.ref bI), .val (.ref bJ), .val (.ref b1), .val (.ref r1), .val (.int (Int32.ofNat (g2 + 1)))] [(.ref r1)])) _
        refine XS.iconst X306.here hx rfl (hb hby at_487) ?_
        show Steps p.tables e below (T306.setTop (mkF m 488 #[.val (.int p1), .val (.int p2), .val (.int p3), .val (.int p4), .val (.int p5), .val (.int p6), .val (.int (3 : Int32)), .val (.ref bS), .val (.ref bD), .val (.ref bP), .val (.ref bI), .val (.ref bJ), .val (.ref b1), .val (.ref r1), .val (.int (Int32.ofNat (g2 + 1)))] [(.int (0 : Int32)), (.ref r1)])) _
        exact castTop (by rw [show (own_sel s1 (0 : Int32) (1 : Int32)) = (0 : Int32) from by exact (if_neg hc480).trans (rfl)]) kT)
    have pre315 : ∀ t, Steps p.tables e below (T306.setTop (mkF m 506 #[.val (.int p1), .val (.int p2), .val (.int p3), .val (.int p4), .val (.int p5), .val (.int p6), .val (.int (3 : Int32)), .val (.ref bS), .val (.ref bD), .val (.ref bP), .val (.ref bI), .val (.ref bJ), .val (.ref b1), .val (.ref r1), .val (.int (Int32.ofNat (g2 + 1)))] [(.int (own_sel s2 (0 : Int32) (1 : Int32))), (.int (own_sel s1 (0 : Int32) (1 : Int32))), (.ref r1)])) t → Steps p.tables e below (s₁.setTop (entryFrame m #[(.int p1), (.int p2), (.int p3), (.int p4), (.int p5), (.int p6)] maxLocals)) t := fun t kT => pre314 t (by
      show Steps p.tables e below (T306.setTop (mkF m 488 #[.val (.int p1), .val (.int p2), .val (.int p3), .val (.int p4), .val (.int p5), .val (.int p6), .val (.int (3 : Int32)), .val (.ref bS), .val (.ref bD), .val (.ref bP), .val (.ref bI), .val (.ref bJ), .val (.ref b1), .val (.ref r1), .val (.int (Int32.ofNat (g2 + 1)))] [(.int (own_sel s1 (0 : Int32) (1 : Int32))), (.ref r1)])) _
      refine XS.iload X306.here hx rfl (hb hby at_488) rfl ?_
      show Steps p.tables e below (T306.setTop (mkF m 490 #[.val (.int p1), .val (.int p2), .val (.int p3), .val (.int p4), .val (.int p5), .val (.int p6), .val (.int (3 : Int32)), .val (.ref bS), .val (.ref bD), .val (.ref bP), .val (.ref bI), .val (.ref bJ), .val (.ref b1), .val (.ref r1), .val (.int (Int32.ofNat (g2 + 1)))] [(.int (3 : Int32)), (.int (own_sel s1 (0 : Int32) (1 : Int32))), (.ref r1)])) _
      refine XS.iconst X306.here hx rfl (hb hby at_490) ?_
      show Steps p.tables e below (T306.setTop (mkF m 491 #[.val (.int p1), .val (.int p2), .val (.int p3), .val (.int p4), .val (.int p5), .val (.int p6), .val (.int (3 : Int32)), .val (.ref bS), .val (.ref bD), .val (.ref bP), .val (.ref bI), .val (.ref bJ), .val (.ref b1), .val (.ref r1), .val (.int (Int32.ofNat (g2 + 1)))] [(.int (2 : Int32)), (.int (3 : Int32)), (.int (own_sel s1 (0 : Int32) (1 : Int32))), (.ref r1)])) _
      refine XS.icmpNo X306.here hx rfl (hb hby at_491) rfl (feq (by decide : ¬ ((3 : Int32) = (2 : Int32)))).1 ?_
      show Steps p.tables e below (T306.setTop (mkF m 494 #[.val (.int p1), .val (.int p2), .val (.int p3), .val (.int p4), .val (.int p5), .val (.int p6), .val (.int (3 : Int32)), .val (.ref bS), .val (.ref bD), .val (.ref bP), .val (.ref bI), .val (.ref bJ), .val (.ref b1), .val (.ref r1), .val (.int (Int32.ofNat (g2 + 1)))] [(.int (own_sel s1 (0 : Int32) (1 : Int32))), (.ref r1)])) _
      refine XS.aload X306.here hx rfl (hb hby at_494) rfl rfl ?_
      show Steps p.tables e below (T306.setTop (mkF m 496 #[.val (.int p1), .val (.int p2), .val (.int p3), .val (.int p4), .val (.int p5), .val (.int p6), .val (.int (3 : Int32)), .val (.ref bS), .val (.ref bD), .val (.ref bP), .val (.ref bI), .val (.ref bJ), .val (.ref b1), .val (.ref r1), .val (.int (Int32.ofNat (g2 + 1)))] [(.ref bS), (.int (own_sel s1 (0 : Int32) (1 : Int32))), (.ref r1)])) _
      refine XS.iconst X306.here hx rfl (hb hby at_496) ?_
      show Steps p.tables e below (T306.setTop (mkF m 497 #[.val (.int p1), .val (.int p2), .val (.int p3), .val (.int p4), .val (.int p5), .val (.int p6), .val (.int (3 : Int32)), .val (.ref bS), .val (.ref bD), .val (.ref bP), .val (.ref bI), .val (.ref bJ), .val (.ref b1), .val (.ref r1), .val (.int (Int32.ofNat (g2 + 1)))] [(.int (2 : Int32)), (.ref bS), (.int (own_sel s1 (0 : Int32) (1 : Int32))), (.ref r1)])) _
      refine X306.baloadBooleans hx (j := (2 : Int32)) (v := (.int s2)) (by rw [ec3_1]; exact Ao309.1) (State.isArrayOf_alike hZ.alike Ao309.2.1) Ao309.2.2 (own_ld So309 Ho309 (j := (2 : Int32)) (i := 2) (by decide) rfl (by decide) (v := (.int s2)) rfl).1 (own_ld So309 Ho309 (j := (2 : Int32)) (i := 2) (by decide) rfl (by decide) (v := (.int s2)) rfl).2 (g := (mkF m 497 #[.val (.int p1), .val (.int p2), .val (.int p3), .val (.int p4), .val (.int p5), .val (.int p6), .val (.int (3 : Int32)), .val (.ref bS), .val (.ref bD), .val (.ref bP), .val (.ref bI), .val (.ref bJ), .val (.ref b1), .val (.ref r1), .val (.int (Int32.ofNat (g2 + 1)))] [(.int (2 : Int32)), (.ref bS), (.int (own_sel s1 (0 : Int32) (1 : Int32))), (.ref r1)])) rfl rfl (hb hby at_497) _ ?_
      by_cases hc498 : s2 = (0 : Int32)
      · show Steps p.tables e below (T306.setTop (mkF m 498 #[.val (.int p1), .val (.int p2), .val (.int p3), .val (.int p4), .val (.int p5), .val (.int p6), .val (.int (3 : Int32)), .val (.ref bS), .val (.ref bD), .val (.ref bP), .val (.ref bI), .val (.ref bJ), .val (.ref b1), .val (.ref r1), .val (.int (Int32.ofNat (g2 + 1)))] [(.int s2), (.int (own_sel s1 (0 : Int32) (1 : Int32))), (.ref r1)])) _
        refine XS.ifNo X306.here hx rfl (hb hby at_498) rfl ((if0 _ _).trans (teq hc498).2) ?_
        show Steps p.tables e below (T306.setTop (mkF m 501 #[.val (.int p1), .val (.int p2), .val (.int p3), .val (.int p4), .val (.int p5), .val (.int p6), .val (.int (3 : Int32)), .val (.ref bS), .val (.ref bD), .val (.ref bP), .val (.ref bI), .val (.ref bJ), .val (.ref b1), .val (.ref r1), .val (.int (Int32.ofNat (g2 + 1)))] [(.int (own_sel s1 (0 : Int32) (1 : Int32))), (.ref r1)])) _
        refine XS.iconst X306.here hx rfl (hb hby at_501) ?_
        show Steps p.tables e below (T306.setTop (mkF m 502 #[.val (.int p1), .val (.int p2), .val (.int p3), .val (.int p4), .val (.int p5), .val (.int p6), .val (.int (3 : Int32)), .val (.ref bS), .val (.ref bD), .val (.ref bP), .val (.ref bI), .val (.ref bJ), .val (.ref b1), .val (.ref r1), .val (.int (Int32.ofNat (g2 + 1)))] [(.int (1 : Int32)), (.int (own_sel s1 (0 : Int32) (1 : Int32))), (.ref r1)])) _
        refine XS.goto X306.here hx rfl (pc0 := 502) (pc' := 506) rfl (hb hby at_502) (by decide) (by decide) ?_
        show Steps p.tables e below (T306.setTop (mkF m 506 #[.val (.int p1), .val (.int p2), .val (.int p3), .val (.int p4), .val (.int p5), .val (.int p6), .val (.int (3 : Int32)), .val (.ref bS), .val (.ref bD), .val (.ref bP), .val (.ref bI), .val (.ref bJ), .val (.ref b1), .val (.ref r1), .val (.int (Int32.ofNat (g2 + 1)))] [(.int (1 : Int32)), (.int (own_sel s1 (0 : Int32) (1 : Int32))), (.ref r1)])) _
        exact castTop (by rw [show (own_sel s2 (0 : Int32) (1 : Int32)) = (1 : Int32) from by exact (if_pos hc498).trans (rfl)]) kT
      · show Steps p.tables e below (T306.setTop (mkF m 498 #[.val (.int p1), .val (.int p2), .val (.int p3), .val (.int p4), .val (.int p5), .val (.int p6), .val (.int (3 : Int32)), .val (.ref bS), .val (.ref bD), .val (.ref bP), .val (.ref bI), .val (.ref bJ), .val (.ref b1), .val (.ref r1), .val (.int (Int32.ofNat (g2 + 1)))] [(.int s2), (.int (own_sel s1 (0 : Int32) (1 : Int32))), (.ref r1)])) _
        refine XS.ifYes X306.here hx rfl (pc0 := 498) (pc' := 505) rfl (hb hby at_498) rfl ((if0 _ _).trans (feq hc498).2) (by decide) (by decide) ?_
        show Steps p.tables e below (T306.setTop (mkF m 505 #[.val (.int p1), .val (.int p2), .val (.int p3), .val (.int p4), .val (.int p5), .val (.int p6), .val (.int (3 : Int32)), .val (.ref bS), .val (.ref bD), .val (.ref bP), .val (.ref bI), .val (.ref bJ), .val (.ref b1), .val (.ref r1), .val (.int (Int32.ofNat (g2 + 1)))] [(.int (own_sel s1 (0 : Int32) (1 : Int32))), (.ref r1)])) _
        refine XS.iconst X306.here hx rfl (hb hby at_505) ?_
        show Steps p.tables e below (T306.setTop (mkF m 506 #[.val (.int p1), .val (.int p2), .val (.int p3), .val (.int p4), .val (.int p5), .val (.int p6), .val (.int (3 : Int32)), .val (.ref bS), .val (.ref bD), .val (.ref bP), .val (.ref bI), .val (.ref bJ), .val (.ref b1), .val (.ref r1), .val (.int (Int32.ofNat (g2 + 1)))] [(.int (0 : Int32)), (.int (own_sel s1 (0 : Int32) (1 : Int32))), (.ref r1)])) _
        exact castTop (by rw [show (own_sel s2 (0 : Int32) (1 : Int32)) = (0 : Int32) from by exact (if_neg hc498).trans (rfl)]) kT)
    have pre316 : ∀ t, Steps p.tables e below (T306.setTop (mkF m 522 #[.val (.int p1), .val (.int p2), .val (.int p3), .val (.int p4), .val (.int p5), .val (.int p6), .val (.int (3 : Int32)), .val (.ref bS), .val (.ref bD), .val (.ref bP), .val (.ref bI), .val (.ref bJ), .val (.ref b1), .val (.ref r1), .val (.int (Int32.ofNat (g2 + 1)))] [(.int qB), (.int dB), (.int (Int32.ofNat j1)), (.int (Int32.ofNat g1)), (.int (own_sel s2 (0 : Int32) (1 : Int32))), (.int (own_sel s1 (0 : Int32) (1 : Int32))), (.ref r1)])) t → Steps p.tables e below (s₁.setTop (entryFrame m #[(.int p1), (.int p2), (.int p3), (.int p4), (.int p5), (.int p6)] maxLocals)) t := fun t kT => pre315 t (by
      show Steps p.tables e below (T306.setTop (mkF m 506 #[.val (.int p1), .val (.int p2), .val (.int p3), .val (.int p4), .val (.int p5), .val (.int p6), .val (.int (3 : Int32)), .val (.ref bS), .val (.ref bD), .val (.ref bP), .val (.ref bI), .val (.ref bJ), .val (.ref b1), .val (.ref r1), .val (.int (Int32.ofNat (g2 + 1)))] [(.int (own_sel s2 (0 : Int32) (1 : Int32))), (.int (own_sel s1 (0 : Int32) (1 : Int32))), (.ref r1)])) _
      refine XS.aload X306.here hx rfl (hb hby at_506) rfl rfl ?_
      show Steps p.tables e below (T306.setTop (mkF m 508 #[.val (.int p1), .val (.int p2), .val (.int p3), .val (.int p4), .val (.int p5), .val (.int p6), .val (.int (3 : Int32)), .val (.ref bS), .val (.ref bD), .val (.ref bP), .val (.ref bI), .val (.ref bJ), .val (.ref b1), .val (.ref r1), .val (.int (Int32.ofNat (g2 + 1)))] [(.ref bI), (.int (own_sel s2 (0 : Int32) (1 : Int32))), (.int (own_sel s1 (0 : Int32) (1 : Int32))), (.ref r1)])) _
      refine XS.iconst X306.here hx rfl (hb hby at_508) ?_
      show Steps p.tables e below (T306.setTop (mkF m 509 #[.val (.int p1), .val (.int p2), .val (.int p3), .val (.int p4), .val (.int p5), .val (.int p6), .val (.int (3 : Int32)), .val (.ref bS), .val (.ref bD), .val (.ref bP), .val (.ref bI), .val (.ref bJ), .val (.ref b1), .val (.ref r1), .val (.int (Int32.ofNat (g2 + 1)))] [(.int (1 : Int32)), (.ref bI), (.int (own_sel s2 (0 : Int32) (1 : Int32))), (.int (own_sel s1 (0 : Int32) (1 : Int32))), (.ref r1)])) _
      refine X306.iaload hx (j := (1 : Int32)) (v := (.int (Int32.ofNat g1))) (by rw [ec3_1]; exact Ao312.1) (State.isArrayOf_alike hZ.alike Ao312.2.1) Ao312.2.2 (own_ld So312 Ho312 (j := (1 : Int32)) (i := 1) (by decide) rfl (by decide) (v := (.int (Int32.ofNat g1))) rfl).1 (own_ld So312 Ho312 (j := (1 : Int32)) (i := 1) (by decide) rfl (by decide) (v := (.int (Int32.ofNat g1))) rfl).2 (g := (mkF m 509 #[.val (.int p1), .val (.int p2), .val (.int p3), .val (.int p4), .val (.int p5), .val (.int p6), .val (.int (3 : Int32)), .val (.ref bS), .val (.ref bD), .val (.ref bP), .val (.ref bI), .val (.ref bJ), .val (.ref b1), .val (.ref r1), .val (.int (Int32.ofNat (g2 + 1)))] [(.int (1 : Int32)), (.ref bI), (.int (own_sel s2 (0 : Int32) (1 : Int32))), (.int (own_sel s1 (0 : Int32) (1 : Int32))), (.ref r1)])) rfl rfl (hb hby at_509) _ ?_
      show Steps p.tables e below (T306.setTop (mkF m 510 #[.val (.int p1), .val (.int p2), .val (.int p3), .val (.int p4), .val (.int p5), .val (.int p6), .val (.int (3 : Int32)), .val (.ref bS), .val (.ref bD), .val (.ref bP), .val (.ref bI), .val (.ref bJ), .val (.ref b1), .val (.ref r1), .val (.int (Int32.ofNat (g2 + 1)))] [(.int (Int32.ofNat g1)), (.int (own_sel s2 (0 : Int32) (1 : Int32))), (.int (own_sel s1 (0 : Int32) (1 : Int32))), (.ref r1)])) _
      refine XS.aload X306.here hx rfl (hb hby at_510) rfl rfl ?_
      show Steps p.tables e below (T306.setTop (mkF m 512 #[.val (.int p1), .val (.int p2), .val (.int p3), .val (.int p4), .val (.int p5), .val (.int p6), .val (.int (3 : Int32)), .val (.ref bS), .val (.ref bD), .val (.ref bP), .val (.ref bI), .val (.ref bJ), .val (.ref b1), .val (.ref r1), .val (.int (Int32.ofNat (g2 + 1)))] [(.ref bJ), (.int (Int32.ofNat g1)), (.int (own_sel s2 (0 : Int32) (1 : Int32))), (.int (own_sel s1 (0 : Int32) (1 : Int32))), (.ref r1)])) _
      refine XS.iconst X306.here hx rfl (hb hby at_512) ?_
      show Steps p.tables e below (T306.setTop (mkF m 513 #[.val (.int p1), .val (.int p2), .val (.int p3), .val (.int p4), .val (.int p5), .val (.int p6), .val (.int (3 : Int32)), .val (.ref bS), .val (.ref bD), .val (.ref bP), .val (.ref bI), .val (.ref bJ), .val (.ref b1), .val (.ref r1), .val (.int (Int32.ofNat (g2 + 1)))] [(.int (1 : Int32)), (.ref bJ), (.int (Int32.ofNat g1)), (.int (own_sel s2 (0 : Int32) (1 : Int32))), (.int (own_sel s1 (0 : Int32) (1 : Int32))), (.ref r1)])) _
      refine X306.iaload hx (j := (1 : Int32)) (v := (.int (Int32.ofNat j1))) (by rw [ec3_1]; exact Ao313.1) (State.isArrayOf_alike hZ.alike Ao313.2.1) Ao313.2.2 (own_ld So313 Ho313 (j := (1 : Int32)) (i := 1) (by decide) rfl (by decide) (v := (.int (Int32.ofNat j1))) rfl).1 (own_ld So313 Ho313 (j := (1 : Int32)) (i := 1) (by decide) rfl (by decide) (v := (.int (Int32.ofNat j1))) rfl).2 (g := (mkF m 513 #[.val (.int p1), .val (.int p2), .val (.int p3), .val (.int p4), .val (.int p5), .val (.int p6), .val (.int (3 : Int32)), .val (.ref bS), .val (.ref bD), .val (.ref bP), .val (.ref bI), .val (.ref bJ), .val (.ref b1), .val (.ref r1), .val (.int (Int32.ofNat (g2 + 1)))] [(.int (1 : Int32)), (.ref bJ), (.int (Int32.ofNat g1)), (.int (own_sel s2 (0 : Int32) (1 : Int32))), (.int (own_sel s1 (0 : Int32) (1 : Int32))), (.ref r1)])) rfl rfl (hb hby at_513) _ ?_
      show Steps p.tables e below (T306.setTop (mkF m 514 #[.val (.int p1), .val (.int p2), .val (.int p3), .val (.int p4), .val (.int p5), .val (.int p6), .val (.int (3 : Int32)), .val (.ref bS), .val (.ref bD), .val (.ref bP), .val (.ref bI), .val (.ref bJ), .val (.ref b1), .val (.ref r1), .val (.int (Int32.ofNat (g2 + 1)))] [(.int (Int32.ofNat j1)), (.int (Int32.ofNat g1)), (.int (own_sel s2 (0 : Int32) (1 : Int32))), (.int (own_sel s1 (0 : Int32) (1 : Int32))), (.ref r1)])) _
      refine XS.aload X306.here hx rfl (hb hby at_514) rfl rfl ?_
      show Steps p.tables e below (T306.setTop (mkF m 516 #[.val (.int p1), .val (.int p2), .val (.int p3), .val (.int p4), .val (.int p5), .val (.int p6), .val (.int (3 : Int32)), .val (.ref bS), .val (.ref bD), .val (.ref bP), .val (.ref bI), .val (.ref bJ), .val (.ref b1), .val (.ref r1), .val (.int (Int32.ofNat (g2 + 1)))] [(.ref bD), (.int (Int32.ofNat j1)), (.int (Int32.ofNat g1)), (.int (own_sel s2 (0 : Int32) (1 : Int32))), (.int (own_sel s1 (0 : Int32) (1 : Int32))), (.ref r1)])) _
      refine XS.iconst X306.here hx rfl (hb hby at_516) ?_
      show Steps p.tables e below (T306.setTop (mkF m 517 #[.val (.int p1), .val (.int p2), .val (.int p3), .val (.int p4), .val (.int p5), .val (.int p6), .val (.int (3 : Int32)), .val (.ref bS), .val (.ref bD), .val (.ref bP), .val (.ref bI), .val (.ref bJ), .val (.ref b1), .val (.ref r1), .val (.int (Int32.ofNat (g2 + 1)))] [(.int (1 : Int32)), (.ref bD), (.int (Int32.ofNat j1)), (.int (Int32.ofNat g1)), (.int (own_sel s2 (0 : Int32) (1 : Int32))), (.int (own_sel s1 (0 : Int32) (1 : Int32))), (.ref r1)])) _
      refine X306.iaload hx (j := (1 : Int32)) (v := (.int dB)) (by rw [ec3_1]; exact Ao310.1) (State.isArrayOf_alike hZ.alike Ao310.2.1) Ao310.2.2 (own_ld So310 Ho310 (j := (1 : Int32)) (i := 1) (by decide) rfl (by decide) (v := (.int dB)) rfl).1 (own_ld So310 Ho310 (j := (1 : Int32)) (i := 1) (by decide) rfl (by decide) (v := (.int dB)) rfl).2 (g := (mkF m 517 #[.val (.int p1), .val (.int p2), .val (.int p3), .val (.int p4), .val (.int p5), .val (.int p6), .val (.int (3 : Int32)), .val (.ref bS), .val (.ref bD), .val (.ref bP), .val (.ref bI), .val (.ref bJ), .val (.ref b1), .val (.ref r1), .val (.int (Int32.ofNat (g2 + 1)))] [(.int (1 : Int32)), (.ref bD), (.int (Int32.ofNat j1)), (.int (Int32.ofNat g1)), (.int (own_sel s2 (0 : Int32) (1 : Int32))), (.int (own_sel s1 (0 : Int32) (1 : Int32))), (.ref r1)])) rfl rfl (hb hby at_517) _ ?_
      show Steps p.tables e below (T306.setTop (mkF m 518 #[.val (.int p1), .val (.int p2), .val (.int p3), .val (.int p4), .val (.int p5), .val (.int p6), .val (.int (3 : Int32)), .val (.ref bS), .val (.ref bD), .val (.ref bP), .val (.ref bI), .val (.ref bJ), .val (.ref b1), .val (.ref r1), .val (.int (Int32.ofNat (g2 + 1)))] [(.int dB), (.int (Int32.ofNat j1)), (.int (Int32.ofNat g1)), (.int (own_sel s2 (0 : Int32) (1 : Int32))), (.int (own_sel s1 (0 : Int32) (1 : Int32))), (.ref r1)])) _
      refine XS.aload X306.here hx rfl (hb hby at_518) rfl rfl ?_
      show Steps p.tables e below (T306.setTop (mkF m 520 #[.val (.int p1), .val (.int p2), .val (.int p3), .val (.int p4), .val (.int p5), .val (.int p6), .val (.int (3 : Int32)), .val (.ref bS), .val (.ref bD), .val (.ref bP), .val (.ref bI), .val (.ref bJ), .val (.ref b1), .val (.ref r1), .val (.int (Int32.ofNat (g2 + 1)))] [(.ref bP), (.int dB), (.int (Int32.ofNat j1)), (.int (Int32.ofNat g1)), (.int (own_sel s2 (0 : Int32) (1 : Int32))), (.int (own_sel s1 (0 : Int32) (1 : Int32))), (.ref r1)])) _
      refine XS.iconst X306.here hx rfl (hb hby at_520) ?_
      show Steps p.tables e below (T306.setTop (mkF m 521 #[.val (.int p1), .val (.int p2), .val (.int p3), .val (.int p4), .val (.int p5), .val (.int p6), .val (.int (3 : Int32)), .val (.ref bS), .val (.ref bD), .val (.ref bP), .val (.ref bI), .val (.ref bJ), .val (.ref b1), .val (.ref r1), .val (.int (Int32.ofNat (g2 + 1)))] [(.int (1 : Int32)), (.ref bP), (.int dB), (.int (Int32.ofNat j1)), (.int (Int32.ofNat g1)), (.int (own_sel s2 (0 : Int32) (1 : Int32))), (.int (own_sel s1 (0 : Int32) (1 : Int32))), (.ref r1)])) _
      refine X306.iaload hx (j := (1 : Int32)) (v := (.int qB)) (by rw [ec3_1]; exact Ao311.1) (State.isArrayOf_alike hZ.alike Ao311.2.1) Ao311.2.2 (own_ld So311 Ho311 (j := (1 : Int32)) (i := 1) (by decide) rfl (by decide) (v := (.int qB)) rfl).1 (own_ld So311 Ho311 (j := (1 : Int32)) (i := 1) (by decide) rfl (by decide) (v := (.int qB)) rfl).2 (g := (mkF m 521 #[.val (.int p1), .val (.int p2), .val (.int p3), .val (.int p4), .val (.int p5), .val (.int p6), .val (.int (3 : Int32)), .val (.ref bS), .val (.ref bD), .val (.ref bP), .val (.ref bI), .val (.ref bJ), .val (.ref b1), .val (.ref r1), .val (.int (Int32.ofNat (g2 + 1)))] [(.int (1 : Int32)), (.ref bP), (.int dB), (.int (Int32.ofNat j1)), (.int (Int32.ofNat g1)), (.int (own_sel s2 (0 : Int32) (1 : Int32))), (.int (own_sel s1 (0 : Int32) (1 : Int32))), (.ref r1)])) rfl rfl (hb hby at_521) _ ?_
      exact kT)
    obtain ⟨_, _, ⟨T317, L317, k317, n317⟩, -, X317, ⟨Lc317, hQ317, l317, y317, z317⟩, st317⟩ := Jvm.LawKit.callS X306 hx (y := (⟨"com/example/esteem/esteem/index/PostingsBuildPinLaw", "check", "(Lcom/example/esteem/esteem/index/Postings;ZZIIII)Z"⟩ : MethodName)) hown (mvT hZ (hw _ (List.mem_of_getElem? (i := 73) rfl))) (mvT hZ (hw _ (List.mem_of_getElem? (i := 74) rfl))) (mvT hZ (hw _ (List.mem_of_getElem? (i := 75) rfl))) (mvT hZ (hw _ (List.mem_of_getElem? (i := 76) rfl))) (by decide) (backOf (W := 0) (rmCK l Z a0 hw [] r1 (own_sel s1 (0 : Int32) (1 : Int32)) (own_sel s2 (0 : Int32) (1 : Int32)) dB qB g1 j1 1 xd xs xp dc3 (0 + 1 + 1 + 1) df3 sf3 pf3 T283.heap nB sz283 BP dc3' (by decide) HF.2.2.2.1 (by decide) HF.2.2.2.2.2.1 (fun _ => HF.2.2.2.2.1) p31 (fun z => HF.2.2.2.2.2.2.2.2.2.1 (own_s0 zs2 z))) hZ (hw _ (List.mem_of_getElem? (i := 76) rfl)) (hw _ (List.mem_of_getElem? (i := 75) rfl)) (by decide) (by decide)) (g := (mkF m 522 #[.val (.int p1), .val (.int p2), .val (.int p3), .val (.int p4), .val (.int p5), .val (.int p6), .val (.int (3 : Int32)), .val (.ref bS), .val (.ref bD), .val (.ref bP), .val (.ref bI), .val (.ref bJ), .val (.ref b1), .val (.ref r1), .val (.int (Int32.ofNat (g2 + 1)))] [(.int qB), (.int dB), (.int (Int32.ofNat j1)), (.int (Int32.ofNat g1)), (.int (own_sel s2 (0 : Int32) (1 : Int32))), (.int (own_sel s1 (0 : Int32) (1 : Int32))), (.ref r1)])) rfl (by rw [hml]; rfl) (argsL := [(.ref r1), (.int (own_sel s1 (0 : Int32) (1 : Int32))), (.int (own_sel s2 (0 : Int32) (1 : Int32))), (.int (Int32.ofNat g1)), (.int (Int32.ofNat j1)), (.int dB), (.int qB)]) (rest := []) (lenOf pd__Lcom_example_esteem_esteem_index_Postings_ZZIIII_Z rfl) rfl (by show 2 * 0 + _ ≤ _; exact Nat.le_of_eq rfl) (hb hby at_522) (fun _ _ => ⟨rfl, ec3_1, (by decide : 22 + 0 ≤ _), (by decide : 76 + 0 ≤ _)⟩)
    dsimp only [Pt.U, Pt.locs, Pt.cells, Pt.slots] at X317 l317 y317 z317 st317 hQ317
    have X317 := own_st X317 (y317.trans (show _ = 22 from rfl)) (z317.trans (show _ = 76 from rfl))
    obtain ⟨rfl, N317q, ec3_2⟩ := hQ317
    have N317 := own_fr l317 N306 (own_frm hn0B N317q)
    have pre318 : ∀ t, Steps p.tables e below (T317.setTop (mkF m 525 #[.val (.int p1), .val (.int p2), .val (.int p3), .val (.int p4), .val (.int p5), .val (.int p6), .val (.int (3 : Int32)), .val (.ref bS), .val (.ref bD), .val (.ref bP), .val (.ref bI), .val (.ref bJ), .val (.ref b1), .val (.ref r1), .val (.int (Int32.ofNat (g2 + 1)))] [(.int (1 : Int32))])) t → Steps p.tables e below (s₁.setTop (entryFrame m #[(.int p1), (.int p2), (.int p3), (.int p4), (.int p5), (.int p6)] maxLocals)) t := fun t kT => pre316 t (st317 t kT)
    have pre319 : ∀ t, Steps p.tables e below (T317.setTop (mkF m 530 #[.val (.int p1), .val (.int p2), .val (.int p3), .val (.int p4), .val (.int p5), .val (.int p6), .val (.int (3 : Int32)), .val (.ref bS), .val (.ref bD), .val (.ref bP), .val (.ref bI), .val (.ref bJ), .val (.ref b1), .val (.ref r1), .val (.int (Int32.ofNat (g2 + 1)))] [])) t → Steps p.tables e below (s₁.setTop (entryFrame m #[(.int p1), (.int p2), (.int p3), (.int p4), (.int p5), (.int p6)] maxLocals)) t := fun t kT => pre318 t (by
      show Steps p.tables e below (T317.setTop (mkF m 525 #[.val (.int p1), .val (.int p2), .val (.int p3), .val (.int p4), .val (.int p5), .val (.int p6), .val (.int (3 : Int32)), .val (.ref bS), .val (.ref bD), .val (.ref bP), .val (.ref bI), .val (.ref bJ), .val (.ref b1), .val (.ref r1), .val (.int (Int32.ofNat (g2 + 1)))] [(.int (1 : Int32))])) _
      refine XS.ifYes X317.here hx rfl (pc0 := 525) (pc' := 530) rfl (hb hby at_525) rfl ((if0 _ _).trans (feq (by decide : ¬ ((1 : Int32) = (0 : Int32)))).2) (by decide) (by decide) ?_
      exact kT)
    obtain ⟨co320, ⟨Ao320, Ko320⟩, So320, Ho320⟩ := id V_bS_e283
    obtain ⟨co321, ⟨Ao321, Ko321⟩, So321, Ho321⟩ := id V_bD_e283
    obtain ⟨co322, ⟨Ao322, Ko322⟩, So322, Ho322⟩ := id V_bP_e283
    obtain ⟨co323, ⟨Ao323, Ko323⟩, So323, Ho323⟩ := id V_bI_e283
    obtain ⟨co324, ⟨Ao324, Ko324⟩, So324, Ho324⟩ := id V_bJ_e283
    have pre325 : ∀ t, Steps p.tables e below (T317.setTop (mkF m 550 #[.val (.int p1), .val (.int p2), .val (.int p3), .val (.int p4), .val (.int p5), .val (.int p6), .val (.int (3 : Int32)), .val (.ref bS), .val (.ref bD), .val (.ref bP), .val (.ref bI), .val (.ref bJ), .val (.ref b1), .val (.ref r1), .val (.int (Int32.ofNat (g2 + 1)))] [(.int (own_sel s2 (0 : Int32) (1 : Int32))), (.ref r1)])) t → Steps p.tables e below (s₁.setTop (entryFrame m #[(.int p1), (.int p2), (.int p3), (.int p4), (.int p5), (.int p6)] maxLocals)) t := fun t kT => pre319 t (by
      show Steps p.tables e below (T317.setTop (mkF m 530 #[.val (.int p1), .val (.int p2), .val (.int p3), .val (.int p4), .val (.int p5), .val (.int p6), .val (.int (3 : Int32)), .val (.ref bS), .val (.ref bD), .val (.ref bP), .val (.ref bI), .val (.ref bJ), .val (.ref b1), .val (.ref r1), .val (.int (Int32.ofNat (g2 + 1)))] [])) _
      refine XS.iload X317.here hx rfl (hb hby at_530) rfl ?_
      show Steps p.tables e below (T317.setTop (mkF m 532 #[.val (.int p1), .val (.int p2), .val (.int p3), .val (.int p4), .val (.int p5), .val (.int p6), .val (.int (3 : Int32)), .val (.ref bS), .val (.ref bD), .val (.ref bP), .val (.ref bI), .val (.ref bJ), .val (.ref b1), .val (.ref r1), .val (.int (Int32.ofNat (g2 + 1)))] [(.int (3 : Int32))])) _
      refine XS.iconst X317.here hx rfl (hb hby at_532) ?_
      show Steps p.tables e below (T317.setTop (mkF m 533 #[.val (.int p1), .val (.int p2), .val (.int p3), .val (.int p4), .val (.int p5), .val (.int p6), .val (.int (3 : Int32)), .val (.ref bS), .val (.ref bD), .val (.ref bP), .val (.ref bI), .val (.ref bJ), .val (.ref b1), .val (.ref r1), .val (.int (Int32.ofNat (g2 + 1)))] [(.int (2 : Int32)), (.int (3 : Int32))])) _
      refine XS.icmpNo X317.here hx rfl (hb hby at_533) rfl (tlt (by decide : (2 : Int32) < (3 : Int32))).2.2.2 ?_
      show Steps p.tables e below (T317.setTop (mkF m 536 #[.val (.int p1), .val (.int p2), .val (.int p3), .val (.int p4), .val (.int p5), .val (.int p6), .val (.int (3 : Int32)), .val (.ref bS), .val (.ref bD), .val (.ref bP), .val (.ref bI), .val (.ref bJ), .val (.ref b1), .val (.ref r1), .val (.int (Int32.ofNat (g2 + 1)))] [])) _
      refine XS.aload X317.here hx rfl (hb hby at_536) rfl rfl ?_
      show Steps p.tables e below (T317.setTop (mkF m 538 #[.val (.int p1), .val (.int p2), .val (.int p3), .val (.int p4), .val (.int p5), .val (.int p6), .val (.int (3 : Int32)), .val (.ref bS), .val (.ref bD), .val (.ref bP), .val (.ref bI), .val (.ref bJ), .val (.ref b1), .val (.ref r1), .val (.int (Int32.ofNat (g2 + 1)))] [(.ref r1)])) _
      refine XS.aload X317.here hx rfl (hb hby at_538) rfl rfl ?_
      show Steps p.tables e below (T317.setTop (mkF m 540 #[.val (.int p1), .val (.int p2), .val (.int p3), .val (.int p4), .val (.int p5), .val (.int p6), .val (.int (3 : Int32)), .val (.ref bS), .val (.ref bD), .val (.ref bP), .val (.ref bI), .val (.ref bJ), .val (.ref b1), .val (.ref r1), .val (.int (Int32.ofNat (g2 + 1)))] [(.ref bS), (.ref r1)])) _
      refine XS.iconst X317.here hx rfl (hb hby at_540) ?_
      show Steps p.tables e below (T317.setTop (mkF m 541 #[.val (.int p1), .val (.int p2), .val (.int p3), .val (.int p4), .val (.int p5), .val (.int p6), .val (.int (3 : Int32)), .val (.ref bS), .val (.ref bD), .val (.ref bP), .val (.ref bI), .val (.ref bJ), .val (.ref b1), .val (.ref r1), .val (.int (Int32.ofNat (g2 + 1)))] [(.int (2 : Int32)), (.ref bS), (.ref r1)])) _
      refine X317.baloadBooleans hx (j := (2 : Int32)) (v := (.int s2)) (by rw [ec3_2]; exact Ao320.1) (State.isArrayOf_alike hZ.alike Ao320.2.1) Ao320.2.2 (own_ld So320 Ho320 (j := (2 : Int32)) (i := 2) (by decide) rfl (by decide) (v := (.int s2)) rfl).1 (own_ld So320 Ho320 (j := (2 : Int32)) (i := 2) (by decide) rfl (by decide) (v := (.int s2)) rfl).2 (g := (mkF m 541 #[.val (.int p1), .val (.int p2), .val (.int p3), .val (.int p4), .val (.int p5), .val (.int p6), .val (.int (3 : Int32)), .val (.ref bS), .val (.ref bD), .val (.ref bP), .val (.ref bI), .val (.ref bJ), .val (.ref b1), .val (.ref r1), .val (.int (Int32.ofNat (g2 + 1)))] [(.int (2 : Int32)), (.ref bS), (.ref r1)])) rfl rfl (hb hby at_541) _ ?_
      by_cases hc542 : s2 = (0 : Int32)
      · show Steps p.tables e below (T317.setTop (mkF m 542 #[.val (.int p1), .val (.int p2), .val (.int p3), .val (.int p4), .val (.int p5), .val (.int p6), .val (.int (3 : Int32)), .val (.ref bS), .val (.ref bD), .val (.ref bP), .val (.ref bI), .val (.ref bJ), .val (.ref b1), .val (.ref r1), .val (.int (Int32.ofNat (g2 + 1)))] [(.int s2), (.ref r1)])) _
        refine XS.ifNo X317.here hx rfl (hb hby at_542) rfl ((if0 _ _).trans (teq hc542).2) ?_
        show Steps p.tables e below (T317.setTop (mkF m 545 #[.val (.int p1), .val (.int p2), .val (.int p3), .val (.int p4), .val (.int p5), .val (.int p6), .val (.int (3 : Int32)), .val (.ref bS), .val (.ref bD), .val (.ref bP), .val (.ref bI), .val (.ref bJ), .val (.ref b1), .val (.ref r1), .val (.int (Int32.ofNat (g2 + 1)))] [(.ref r1)])) _
        refine XS.iconst X317.here hx rfl (hb hby at_545) ?_
        show Steps p.tables e below (T317.setTop (mkF m 546 #[.val (.int p1), .val (.int p2), .val (.int p3), .val (.int p4), .val (.int p5), .val (.int p6), .val (.int (3 : Int32)), .val (.ref bS), .val (.ref bD), .val (.ref bP), .val (.ref bI), .val (.ref bJ), .val (.ref b1), .val (.ref r1), .val (.int (Int32.ofNat (g2 + 1)))] [(.int (1 : Int32)), (.ref r1)])) _
        refine XS.goto X317.here hx rfl (pc0 := 546) (pc' := 550) rfl (hb hby at_546) (by decide) (by decide) ?_
        show Steps p.tables e below (T317.setTop (mkF m 550 #[.val (.int p1), .val (.int p2), .val (.int p3), .val (.int p4), .val (.int p5), .val (.int p6), .val (.int (3 : Int32)), .val (.ref bS), .val (.ref bD), .val (.ref bP), .val (.ref bI), .val (.ref bJ), .val (.ref b1), .val (.ref r1), .val (.int (Int32.ofNat (g2 + 1)))] [(.int (1 : Int32)), (.ref r1)])) _
        exact castTop (by rw [show (own_sel s2 (0 : Int32) (1 : Int32)) = (1 : Int32) from by exact (if_pos hc542).trans (rfl)]) kT
      · show Steps p.tables e below (T317.setTop (mkF m 542 #[.val (.int p1), .val (.int p2), .val (.int p3), .val (.int p4), .val (.int p5), .val (.int p6), .val (.int (3 : Int32)), .val (.ref bS), .val (.ref bD), .val (.ref bP), .val (.ref bI), .val (.ref bJ), .val (.ref b1), .val (.ref r1), .val (.int (Int32.ofNat (g2 + 1)))] [(.int s2), (.ref r1)])) _
        refine XS.ifYes X317.here hx rfl (pc0 := 542) (pc' := 549) rfl (hb hby at_542) rfl ((if0 _ _).trans (feq hc542).2) (by decide) (by decide) ?_
        show Steps p.tables e below (T317.setTop (mkF m 549 #[.val (.int p1), .val (.int p2), .val (.int p3), .val (.int p4), .val (.int p5), .val (.int p6), .val (.int (3 : Int32)), .val (.ref bS), .val (.ref bD), .val (.ref bP), .val (.ref bI), .val (.ref bJ), .val (.ref b1), .val (.ref r1), .val (.int (Int32.ofNat (g2 + 1)))] [(.ref r1)])) _
        refine XS.iconst X317.here hx rfl (hb hby at_549) ?_
        show Steps p.tables e below (T317.setTop (mkF m 550 #[.val (.int p1), .val (.int p2), .val (.int p3), .val (.int p4), .val (.int p5), .val (.int p6), .val (.int (3 : Int32)), .val (.ref bS), .val (.ref bD), .val (.ref bP), .val (.ref bI), .val (.ref bJ), .val (.ref b1), .val (.ref r1), .val (.int (Int32.ofNat (g2 + 1)))] [(.int (0 : Int32)), (.ref r1)])) _
        exact castTop (by rw [show (own_sel s2 (0 : Int32) (1 : Int32)) = (0 : Int32) from by exact (if_neg hc542).trans (rfl)]) kT)
    have pre326 : ∀ t, Steps p.tables e below (T317.setTop (mkF m 567 #[.val (.int p1), .val (.int p2), .val (.int p3), .val (.int p4), .val (.int p5), .val (.int p6), .val (.int (3 : Int32)), .val (.ref bS), .val (.ref bD), .val (.ref bP), .val (.ref bI), .val (.ref bJ), .val (.ref b1), .val (.ref r1), .val (.int (Int32.ofNat (g2 + 1)))] [(.int qC), (.int dC), (.int (Int32.ofNat j2)), (.int (Int32.ofNat g2)), (.int (1 : Int32)), (.int (own_sel s2 (0 : Int32) (1 : Int32))), (.ref r1)])) t → Steps p.tables e below (s₁.setTop (entryFrame m #[(.int p1), (.int p2), (.int p3), (.int p4), (.int p5), (.int p6)] maxLocals)) t := fun t kT => pre325 t (by
      show Steps p.tables e below (T317.setTop (mkF m 550 #[.val (.int p1), .val (.int p2), .val (.int p3), .val (.int p4), .val (.int p5), .val (.int p6), .val (.int (3 : Int32)), .val (.ref bS), .val (.ref bD), .val (.ref bP), .val (.ref bI), .val (.ref bJ), .val (.ref b1), .val (.ref r1), .val (.int (Int32.ofNat (g2 + 1)))] [(.int (own_sel s2 (0 : Int32) (1 : Int32))), (.ref r1)])) _
      refine XS.iconst X317.here hx rfl (hb hby at_550) ?_
      show Steps p.tables e below (T317.setTop (mkF m 551 #[.val (.int p1), .val (.int p2), .val (.int p3), .val (.int p4), .val (.int p5), .val (.int p6), .val (.int (3 : Int32)), .val (.ref bS), .val (.ref bD), .val (.ref bP), .val (.ref bI), .val (.ref bJ), .val (.ref b1), .val (.ref r1), .val (.int (Int32.ofNat (g2 + 1)))] [(.int (1 : Int32)), (.int (own_sel s2 (0 : Int32) (1 : Int32))), (.ref r1)])) _
      refine XS.aload X317.here hx rfl (hb hby at_551) rfl rfl ?_
      show Steps p.tables e below (T317.setTop (mkF m 553 #[.val (.int p1), .val (.int p2), .val (.int p3), .val (.int p4), .val (.int p5), .val (.int p6), .val (.int (3 : Int32)), .val (.ref bS), .val (.ref bD), .val (.ref bP), .val (.ref bI), .val (.ref bJ), .val (.ref b1), .val (.ref r1), .val (.int (Int32.ofNat (g2 + 1)))] [(.ref bI), (.int (1 : Int32)), (.int (own_sel s2 (0 : Int32) (1 : Int32))), (.ref r1)])) _
      refine XS.iconst X317.here hx rfl (hb hby at_553) ?_
      show Steps p.tables e below (T317.setTop (mkF m 554 #[.val (.int p1), .val (.int p2), .val (.int p3), .val (.int p4), .val (.int p5), .val (.int p6), .val (.int (3 : Int32)), .val (.ref bS), .val (.ref bD), .val (.ref bP), .val (.ref bI), .val (.ref bJ), .val (.ref b1), .val (.ref r1), .val (.int (Int32.ofNat (g2 + 1)))] [(.int (2 : Int32)), (.ref bI), (.int (1 : Int32)), (.int (own_sel s2 (0 : Int32) (1 : Int32))), (.ref r1)])) _
      refine X317.iaload hx (j := (2 : Int32)) (v := (.int (Int32.ofNat g2))) (by rw [ec3_2]; exact Ao323.1) (State.isArrayOf_alike hZ.alike Ao323.2.1) Ao323.2.2 (own_ld So323 Ho323 (j := (2 : Int32)) (i := 2) (by decide) rfl (by decide) (v := (.int (Int32.ofNat g2))) rfl).1 (own_ld So323 Ho323 (j := (2 : Int32)) (i := 2) (by decide) rfl (by decide) (v := (.int (Int32.ofNat g2))) rfl).2 (g := (mkF m 554 #[.val (.int p1), .val (.int p2), .val (.int p3), .val (.int p4), .val (.int p5), .val (.int p6), .val (.int (3 : Int32)), .val (.ref bS), .val (.ref bD), .val (.ref bP), .val (.ref bI), .val (.ref bJ), .val (.ref b1), .val (.ref r1), .val (.int (Int32.ofNat (g2 + 1)))] [(.int (2 : Int32)), (.ref bI), (.int (1 : Int32)), (.int (own_sel s2 (0 : Int32) (1 : Int32))), (.ref r1)])) rfl rfl (hb hby at_554) _ ?_
      show Steps p.tables e below (T317.setTop (mkF m 555 #[.val (.int p1), .val (.int p2), .val (.int p3), .val (.int p4), .val (.int p5), .val (.int p6), .val (.int (3 : Int32)), .val (.ref bS), .val (.ref bD), .val (.ref bP), .val (.ref bI), .val (.ref bJ), .val (.ref b1), .val (.ref r1), .val (.int (Int32.ofNat (g2 + 1)))] [(.int (Int32.ofNat g2)), (.int (1 : Int32)), (.int (own_sel s2 (0 : Int32) (1 : Int32))), (.ref r1)])) _
      refine XS.aload X317.here hx rfl (hb hby at_555) rfl rfl ?_
      show Steps p.tables e below (T317.setTop (mkF m 557 #[.val (.int p1), .val (.int p2), .val (.int p3), .val (.int p4), .val (.int p5), .val (.int p6), .val (.int (3 : Int32)), .val (.ref bS), .val (.ref bD), .val (.ref bP), .val (.ref bI), .val (.ref bJ), .val (.ref b1), .val (.ref r1), .val (.int (Int32.ofNat (g2 + 1)))] [(.ref bJ), (.int (Int32.ofNat g2)), (.int (1 : Int32)), (.int (own_sel s2 (0 : Int32) (1 : Int32))), (.ref r1)])) _
      refine XS.iconst X317.here hx rfl (hb hby at_557) ?_
      show Steps p.tables e below (T317.setTop (mkF m 558 #[.val (.int p1), .val (.int p2), .val (.int p3), .val (.int p4), .val (.int p5), .val (.int p6), .val (.int (3 : Int32)), .val (.ref bS), .val (.ref bD), .val (.ref bP), .val (.ref bI), .val (.ref bJ), .val (.ref b1), .val (.ref r1), .val (.int (Int32.ofNat (g2 + 1)))] [(.int (2 : Int32)), (.ref bJ), (.int (Int32.ofNat g2)), (.int (1 : Int32)), (.int (own_sel s2 (0 : Int32) (1 : Int32))), (.ref r1)])) _
      refine X317.iaload hx (j := (2 : Int32)) (v := (.int (Int32.ofNat j2))) (by rw [ec3_2]; exact Ao324.1) (State.isArrayOf_alike hZ.alike Ao324.2.1) Ao324.2.2 (own_ld So324 Ho324 (j := (2 : Int32)) (i := 2) (by decide) rfl (by decide) (v := (.int (Int32.ofNat j2))) rfl).1 (own_ld So324 Ho324 (j := (2 : Int32)) (i := 2) (by decide) rfl (by decide) (v := (.int (Int32.ofNat j2))) rfl).2 (g := (mkF m 558 #[.val (.int p1), .val (.int p2), .val (.int p3), .val (.int p4), .val (.int p5), .val (.int p6), .val (.int (3 : Int32)), .val (.ref bS), .val (.ref bD), .val (.ref bP), .val (.ref bI), .val (.ref bJ), .val (.ref b1), .val (.ref r1), .val (.int (Int32.ofNat (g2 + 1)))] [(.int (2 : Int32)), (.ref bJ), (.int (Int32.ofNat g2)), (.int (1 : Int32)), (.int (own_sel s2 (0 : Int32) (1 : Int32))), (.ref r1)])) rfl rfl (hb hby at_558) _ ?_
      show Steps p.tables e below (T317.setTop (mkF m 559 #[.val (.int p1), .val (.int p2), .val (.int p3), .val (.int p4), .val (.int p5), .val (.int p6), .val (.int (3 : Int32)), .val (.ref bS), .val (.ref bD), .val (.ref bP), .val (.ref bI), .val (.ref bJ), .val (.ref b1), .val (.ref r1), .val (.int (Int32.ofNat (g2 + 1)))] [(.int (Int32.ofNat j2)), (.int (Int32.ofNat g2)), (.int (1 : Int32)), (.int (own_sel s2 (0 : Int32) (1 : Int32))), (.ref r1)])) _
      refine XS.aload X317.here hx rfl (hb hby at_559) rfl rfl ?_
      show Steps p.tables e below (T317.setTop (mkF m 561 #[.val (.int p1), .val (.int p2), .val (.int p3), .val (.int p4), .val (.int p5), .val (.int p6), .val (.int (3 : Int32)), .val (.ref bS), .val (.ref bD), .val (.ref bP), .val (.ref bI), .val (.ref bJ), .val (.ref b1), .val (.ref r1), .val (.int (Int32.ofNat (g2 + 1)))] [(.ref bD), (.int (Int32.ofNat j2)), (.int (Int32.ofNat g2)), (.int (1 : Int32)), (.int (own_sel s2 (0 : Int32) (1 : Int32))), (.ref r1)])) _
      refine XS.iconst X317.here hx rfl (hb hby at_561) ?_
      show Steps p.tables e below (T317.setTop (mkF m 562 #[.val (.int p1), .val (.int p2), .val (.int p3), .val (.int p4), .val (.int p5), .val (.int p6), .val (.int (3 : Int32)), .val (.ref bS), .val (.ref bD), .val (.ref bP), .val (.ref bI), .val (.ref bJ), .val (.ref b1), .val (.ref r1), .val (.int (Int32.ofNat (g2 + 1)))] [(.int (2 : Int32)), (.ref bD), (.int (Int32.ofNat j2)), (.int (Int32.ofNat g2)), (.int (1 : Int32)), (.int (own_sel s2 (0 : Int32) (1 : Int32))), (.ref r1)])) _
      refine X317.iaload hx (j := (2 : Int32)) (v := (.int dC)) (by rw [ec3_2]; exact Ao321.1) (State.isArrayOf_alike hZ.alike Ao321.2.1) Ao321.2.2 (own_ld So321 Ho321 (j := (2 : Int32)) (i := 2) (by decide) rfl (by decide) (v := (.int dC)) rfl).1 (own_ld So321 Ho321 (j := (2 : Int32)) (i := 2) (by decide) rfl (by decide) (v := (.int dC)) rfl).2 (g := (mkF m 562 #[.val (.int p1), .val (.int p2), .val (.int p3), .val (.int p4), .val (.int p5), .val (.int p6), .val (.int (3 : Int32)), .val (.ref bS), .val (.ref bD), .val (.ref bP), .val (.ref bI), .val (.ref bJ), .val (.ref b1), .val (.ref r1), .val (.int (Int32.ofNat (g2 + 1)))] [(.int (2 : Int32)), (.ref bD), (.int (Int32.ofNat j2)), (.int (Int32.ofNat g2)), (.int (1 : Int32)), (.int (own_sel s2 (0 : Int32) (1 : Int32))), (.ref r1)])) rfl rfl (hb hby at_562) _ ?_
      show Steps p.tables e below (T317.setTop (mkF m 563 #[.val (.int p1), .val (.int p2), .val (.int p3), .val (.int p4), .val (.int p5), .val (.int p6), .val (.int (3 : Int32)), .val (.ref bS), .val (.ref bD), .val (.ref bP), .val (.ref bI), .val (.ref bJ), .val (.ref b1), .val (.ref r1), .val (.int (Int32.ofNat (g2 + 1)))] [(.int dC), (.int (Int32.ofNat j2)), (.int (Int32.ofNat g2)), (.int (1 : Int32)), (.int (own_sel s2 (0 : Int32) (1 : Int32))), (.ref r1)])) _
      refine XS.aload X317.here hx rfl (hb hby at_563) rfl rfl ?_
      show Steps p.tables e below (T317.setTop (mkF m 565 #[.val (.int p1), .val (.int p2), .val (.int p3), .val (.int p4), .val (.int p5), .val (.int p6), .val (.int (3 : Int32)), .val (.ref bS), .val (.ref bD), .val (.ref bP), .val (.ref bI), .val (.ref bJ), .val (.ref b1), .val (.ref r1), .val (.int (Int32.ofNat (g2 + 1)))] [(.ref bP), (.int dC), (.int (Int32.ofNat j2)), (.int (Int32.ofNat g2)), (.int (1 : Int32)), (.int (own_sel s2 (0 : Int32) (1 : Int32))), (.ref r1)])) _
      refine XS.iconst X317.here hx rfl (hb hby at_565) ?_
      show Steps p.tables e below (T317.setTop (mkF m 566 #[.val (.int p1), .val (.int p2), .val (.int p3), .val (.int p4), .val (.int p5), .val (.int p6), .val (.int (3 : Int32)), .val (.ref bS), .val (.ref bD), .val (.ref bP), .val (.ref bI), .val (.ref bJ), .val (.ref b1), .val (.ref r1), .val (.int (Int32.ofNat (g2 + 1)))] [(.int (2 : Int32)), (.ref bP), (.int dC), (.int (Int32.ofNat j2)), (.int (Int32.ofNat g2)), (.int (1 : Int32)), (.int (own_sel s2 (0 : Int32) (1 : Int32))), (.ref r1)])) _
      refine X317.iaload hx (j := (2 : Int32)) (v := (.int qC)) (by rw [ec3_2]; exact Ao322.1) (State.isArrayOf_alike hZ.alike Ao322.2.1) Ao322.2.2 (own_ld So322 Ho322 (j := (2 : Int32)) (i := 2) (by decide) rfl (by decide) (v := (.int qC)) rfl).1 (own_ld So322 Ho322 (j := (2 : Int32)) (i := 2) (by decide) rfl (by decide) (v := (.int qC)) rfl).2 (g := (mkF m 566 #[.val (.int p1), .val (.int p2), .val (.int p3), .val (.int p4), .val (.int p5), .val (.int p6), .val (.int (3 : Int32)), .val (.ref bS), .val (.ref bD), .val (.ref bP), .val (.ref bI), .val (.ref bJ), .val (.ref b1), .val (.ref r1), .val (.int (Int32.ofNat (g2 + 1)))] [(.int (2 : Int32)), (.ref bP), (.int dC), (.int (Int32.ofNat j2)), (.int (Int32.ofNat g2)), (.int (1 : Int32)), (.int (own_sel s2 (0 : Int32) (1 : Int32))), (.ref r1)])) rfl rfl (hb hby at_566) _ ?_
      exact kT)
    obtain ⟨_, _, ⟨T327, L327, k327, n327⟩, -, X327, ⟨Lc327, hQ327, l327, y327, z327⟩, st327⟩ := Jvm.LawKit.callS X317 hx (y := (⟨"com/example/esteem/esteem/index/PostingsBuildPinLaw", "check", "(Lcom/example/esteem/esteem/index/Postings;ZZIIII)Z"⟩ : MethodName)) hown (mvT hZ (hw _ (List.mem_of_getElem? (i := 73) rfl))) (mvT hZ (hw _ (List.mem_of_getElem? (i := 74) rfl))) (mvT hZ (hw _ (List.mem_of_getElem? (i := 75) rfl))) (mvT hZ (hw _ (List.mem_of_getElem? (i := 76) rfl))) (by decide) (backOf (W := 0) (rmCK l Z a0 hw [] r1 (own_sel s2 (0 : Int32) (1 : Int32)) (1 : Int32) dC qC g2 j2 2 xd xs xp dc3 (0 + 1 + 1 + 1) df3 sf3 pf3 T283.heap nB sz283 BP dc3' (by decide) (by omega) (by decide) HF.2.2.2.2.2.2.2.1 (fun _ => HF.2.2.2.2.2.2.1) p32 (fun _ => HF.2.2.2.2.2.2.2.2.2.2)) hZ (hw _ (List.mem_of_getElem? (i := 76) rfl)) (hw _ (List.mem_of_getElem? (i := 75) rfl)) (by decide) (by decide)) (g := (mkF m 567 #[.val (.int p1), .val (.int p2), .val (.int p3), .val (.int p4), .val (.int p5), .val (.int p6), .val (.int (3 : Int32)), .val (.ref bS), .val (.ref bD), .val (.ref bP), .val (.ref bI), .val (.ref bJ), .val (.ref b1), .val (.ref r1), .val (.int (Int32.ofNat (g2 + 1)))] [(.int qC), (.int dC), (.int (Int32.ofNat j2)), (.int (Int32.ofNat g2)), (.int (1 : Int32)), (.int (own_sel s2 (0 : Int32) (1 : Int32))), (.ref r1)])) rfl (by rw [hml]; rfl) (argsL := [(.ref r1), (.int (own_sel s2 (0 : Int32) (1 : Int32))), (.int (1 : Int32)), (.int (Int32.ofNat g2)), (.int (Int32.ofNat j2)), (.int dC), (.int qC)]) (rest := []) (lenOf pd__Lcom_example_esteem_esteem_index_Postings_ZZIIII_Z rfl) rfl (by show 2 * 0 + _ ≤ _; exact Nat.le_of_eq rfl) (hb hby at_567) (fun _ _ => ⟨rfl, ec3_2, (by decide : 22 + 0 ≤ _), (by decide : 76 + 0 ≤ _)⟩)
    dsimp only [Pt.U, Pt.locs, Pt.cells, Pt.slots] at X327 l327 y327 z327 st327 hQ327
    have X327 := own_st X327 (y327.trans (show _ = 22 from rfl)) (z327.trans (show _ = 76 from rfl))
    obtain ⟨rfl, N327q, ec3_3⟩ := hQ327
    have N327 := own_fr l327 N317 (own_frm hn0B N327q)
    have pre328 : ∀ t, Steps p.tables e below (T327.setTop (mkF m 570 #[.val (.int p1), .val (.int p2), .val (.int p3), .val (.int p4), .val (.int p5), .val (.int p6), .val (.int (3 : Int32)), .val (.ref bS), .val (.ref bD), .val (.ref bP), .val (.ref bI), .val (.ref bJ), .val (.ref b1), .val (.ref r1), .val (.int (Int32.ofNat (g2 + 1)))] [(.int (1 : Int32))])) t → Steps p.tables e below (s₁.setTop (entryFrame m #[(.int p1), (.int p2), (.int p3), (.int p4), (.int p5), (.int p6)] maxLocals)) t := fun t kT => pre326 t (st327 t kT)
    have pre329 : ∀ t, Steps p.tables e below (T327.setTop (mkF m 575 #[.val (.int p1), .val (.int p2), .val (.int p3), .val (.int p4), .val (.int p5), .val (.int p6), .val (.int (3 : Int32)), .val (.ref bS), .val (.ref bD), .val (.ref bP), .val (.ref bI), .val (.ref bJ), .val (.ref b1), .val (.ref r1), .val (.int (Int32.ofNat (g2 + 1)))] [])) t → Steps p.tables e below (s₁.setTop (entryFrame m #[(.int p1), (.int p2), (.int p3), (.int p4), (.int p5), (.int p6)] maxLocals)) t := fun t kT => pre328 t (by
      show Steps p.tables e below (T327.setTop (mkF m 570 #[.val (.int p1), .val (.int p2), .val (.int p3), .val (.int p4), .val (.int p5), .val (.int p6), .val (.int (3 : Int32)), .val (.ref bS), .val (.ref bD), .val (.ref bP), .val (.ref bI), .val (.ref bJ), .val (.ref b1), .val (.ref r1), .val (.int (Int32.ofNat (g2 + 1)))] [(.int (1 : Int32))])) _
      refine XS.ifYes X327.here hx rfl (pc0 := 570) (pc' := 575) rfl (hb hby at_570) rfl ((if0 _ _).trans (feq (by decide : ¬ ((1 : Int32) = (0 : Int32)))).2) (by decide) (by decide) ?_
      exact kT)
    obtain ⟨co330, ⟨Ao330, Ko330⟩, So330, Ho330⟩ := id V_bS_e283
    obtain ⟨co331, ⟨Ao331, Ko331⟩, So331, Ho331⟩ := id V_bD_e283
    obtain ⟨co332, ⟨Ao332, Ko332⟩, So332, Ho332⟩ := id V_bP_e283
    obtain ⟨co333, ⟨Ao333, Ko333⟩, So333, Ho333⟩ := id V_bI_e283
    obtain ⟨co334, ⟨Ao334, Ko334⟩, So334, Ho334⟩ := id V_bJ_e283
    have pre335 : ∀ t, Steps p.tables e below (T327.setTop (mkF m 576 #[.val (.int p1), .val (.int p2), .val (.int p3), .val (.int p4), .val (.int p5), .val (.int p6), .val (.int (3 : Int32)), .val (.ref bS), .val (.ref bD), .val (.ref bP), .val (.ref bI), .val (.ref bJ), .val (.ref b1), .val (.ref r1), .val (.int (Int32.ofNat (g2 + 1)))] [(.int (1 : Int32))])) t → Steps p.tables e below (s₁.setTop (entryFrame m #[(.int p1), (.int p2), (.int p3), (.int p4), (.int p5), (.int p6)] maxLocals)) t := fun t kT => pre329 t (by
      show Steps p.tables e below (T327.setTop (mkF m 575 #[.val (.int p1), .val (.int p2), .val (.int p3), .val (.int p4), .val (.int p5), .val (.int p6), .val (.int (3 : Int32)), .val (.ref bS), .val (.ref bD), .val (.ref bP), .val (.ref bI), .val (.ref bJ), .val (.ref b1), .val (.ref r1), .val (.int (Int32.ofNat (g2 + 1)))] [])) _
      refine XS.iconst X327.here hx rfl (hb hby at_575) ?_
      exact kT)
    obtain ⟨fs, hr, hrun, hended, hW, hsame⟩ := X327.leave (v := some (.int (1 : Int32))) (fun h => by rw [Bd.returns] at h; cases h)
    refine ⟨_, _, pre335 _ ?_, hrun, hended, _, _, rfl, ?_, ⟨_, rfl⟩, hW, hsame.mono (by decide) (by decide)⟩
    · exact retN X327 hx (t := .boolean) Bd.returns (by simp) (hb hby at_576) hr
    · exact ⟨rfl, N327⟩
set_option maxRecDepth 65536 in
set_option maxHeartbeats 40000000 in
theorem comes_1 {Post : Tables → Env → Array Value → State → Outcome → State → Prop} (hpost : ∀ tb e args s v u, (limb_1_1.after args s (.returned v) u = true ∧ limb_1_2.after args s (.returned v) u = true ∧ True) → FrameEnd s (.returned v) u (Jvm.fieldLocs frame_1_writes args s ++ Jvm.arrayLocs frame_1_arrays args s ++ Jvm.staticLocs frame_1_statics s) 48 192 → Post tb e args s (.returned v) u) :
    ArmFor flags0 classFile x code maxLocals ret World_1 tables_1 room_1 Calls_1 rest_1 Pre_1 Post := by
  intro l hfl _ _ p e ha hc hk s m args below hf hA hF happ hP
  obtain ⟨hcalls, hrest, hpre⟩ := hP
  obtain ⟨-, -, -, hnamed, -, -, -, hat⟩ := (Spec.applies_iff hf).mp happ
  obtain ⟨hg, hn⟩ := and_e (Cond.before_iff.mp (show (Jvm.Cond.and given_1 narrow_1).before args s = true from hpre))
  obtain ⟨gc, gr0⟩ := and_e hg
  obtain ⟨ga0, gr1⟩ := and_e gr0
  obtain ⟨ga1, gr2⟩ := and_e gr1
  obtain ⟨ga2, gr3⟩ := and_e gr2
  obtain ⟨ga3, gr4⟩ := and_e gr3
  obtain ⟨ga4, gr5⟩ := and_e gr4
  obtain ⟨w0, w1, w2, w3, w4, w5, rfl⟩ : ∃ w0 w1 w2 w3 w4 w5 : Value, args = #[w0, w1, w2, w3, w4, w5] := by
    have hs : args.size = 6 := by simpa [Cond.value, given_1] using gc
    obtain ⟨L⟩ := args
    match L, hs with
    | [w0, w1, w2, w3, w4, w5], _ => exact ⟨w0, w1, w2, w3, w4, w5, rfl⟩
  have hw := fun d (hd : d ∈ tables_1) => atoms_spec (ws := Jvm.Cond.code x code maxLocals ret :: tables_1) hat d (List.mem_cons_of_mem _ hd)
  obtain ⟨i0, ei0⟩ := is_v ga0
  obtain rfl : w0 = (.int i0) := Option.some.inj ei0
  obtain ⟨i1, ei1⟩ := is_v ga1
  obtain rfl : w1 = (.int i1) := Option.some.inj ei1
  obtain ⟨i2, ei2⟩ := is_v ga2
  obtain rfl : w2 = (.int i2) := Option.some.inj ei2
  obtain ⟨i3, ei3⟩ := is_v ga3
  obtain rfl : w3 = (.int i3) := Option.some.inj ei3
  obtain ⟨i4, ei4⟩ := is_v ga4
  obtain rfl : w4 = (.int i4) := Option.some.inj ei4
  obtain ⟨i5, ei5⟩ := is_v gr5
  obtain rfl : w5 = (.int i5) := Option.some.inj ei5
  obtain ⟨n, o, h1, h2, h3, _, L, rfl, ⟨rfl, N⟩, hq⟩ := rm0 l s _ hw tables_1 i0 i1 i2 i3 i4 i5 s.heap s.heap.size (Nat.le_refl _) p e ha hc hk s m _ below hf ((Spec.applies_iff_loose hf).mp happ).1 ⟨rfl, State.Warmed39.refl s, rfl⟩ trivial
  refine ⟨n, _, h1, h2, h3, hpost _ _ _ _ _ _ ⟨Cond.after_iff.mpr rfl, Cond.after_iff.mpr (eq_i res_at (Term.int_eval (1)) rfl), trivial⟩ ⟨hq.1, hq.2.1, (hq.2.2.sift fun y hy => Or.inr (N y hy)).mono (by decide) (by decide)⟩⟩
theorem main_1_1 : Claimed_1_1 := comes_1 fun _ _ _ _ _ _ h hF => ⟨h.1, hF⟩
theorem main_1_2 : Claimed_1_2 := comes_1 fun _ _ _ _ _ _ h hF => ⟨h.2.1, hF⟩
end Jvm.Pilot.@@N@@
namespace Jvm.Pilot.@@N@@
open Jvm Jvm.ClassFile Sem Op Lib Jvm.Free Jvm.Stand Jvm.Pilot.@@N@@.Jvm.D
/-! MADE BY PROGRAM (witnessworld.py) out of the Statement's table words and the real class files: 15 classes; the members and pool entries that the words name. The judged class is class 1, her method 1. -/
namespace start1
open Jvm.ClassFile
def u (s : String) : CpInfo := .utf8 (stringToUtf16 s)
/-- a pool by its gaps: so many unusable entries, then the entry; so many at the end -/
def gap : Nat → List CpInfo → List CpInfo
  | 0, r => r
  | n + 1, r => .unusable :: gap n r
def poolList (es : List (Nat × CpInfo)) (last : Nat) : List CpInfo := es.foldr (fun e r => gap e.1 (e.2 :: r)) (gap last [])
def pool (es : List (Nat × CpInfo)) (last : Nat) : Array CpInfo := ⟨poolList es last⟩
def fileOf (pool : Array CpInfo) (this : Nat) (attrs : Array Attribute := #[]) (ms : Array MethodInfo := #[]) (fl : Nat := 33) (sup : Nat := 0) (ifs : Array Nat := #[]) (fds : Array FieldInfo := #[]) : ClassFile where
  minorVersion := 0
  majorVersion := 65
  constantPool := pool
  accessFlags := fl
  thisClass := this
  superClass := sup
  interfaces := ifs
  fields := fds
  methods := ms
  attributes := attrs
def plain (name : String) (sup : Option ClassId) : Class where
  name := name
  kind := .ordinary
  loader := none
  accessFlags := 33
  super := sup
  interfaces := #[]
  cf := none
  fields := #[]
  methods := #[]
  instanceTypes := #[]
  staticTypes := #[]
  resolved := #[]
  callSites := []
  init := .initialized
  statics := none
  mirror := none

def pool0 : Array CpInfo := pool [(5, u "<init>"), (0, u "()V"), (1, .class_ 10), (1, u "java/lang/Object"), (85, u "clone"), (0, u "()Ljava/lang/Object;")] 26

def k0c0 : Code := { maxStack := 0, maxLocals := 1, code := object_method_1_code, exceptionTable := #[], attributes := #[] }
def k0m0 : Method := { name := "<init>", desc := "()V", sig := { parameters := [], returnType := none }, accessFlags := 1, code := some k0c0 }
def k0m1 : Method := { name := "clone", desc := "()Ljava/lang/Object;", sig := { parameters := [], returnType := some (.object "java/lang/Object") }, accessFlags := 260, code := none }
/-- java/lang/Object -/
def k0 : Class := { plain "java/lang/Object" none with
  accessFlags := 33
  interfaces := #[]
  cf := some (fileOf pool0 8 #[] #[{ accessFlags := 1, nameIndex := 5, descriptorIndex := 6, attributes := #[] }, { accessFlags := 260, nameIndex := 96, descriptorIndex := 97, attributes := #[] }] 33 0 #[] #[])
  fields := #[]
  methods := #[k0m0, k0m1]
  instanceTypes := #[]
  staticTypes := #[]
  resolved := Array.replicate 124 none
  statics := none }

def pool1 : Array CpInfo := pool [(2, .class_ 4), (0, .nameAndType 5 6), (0, u "java/lang/Object"), (0, u "<init>"), (0, u "()V"), (0, .integer 2147483647), (0, .integer 1073741823), (0, .integer 268435455), (0, .class_ 11), (0, u "com/example/esteem/esteem/index/Postings$Builder"), (0, .methodref 10 3), (0, .methodref 10 14), (0, .nameAndType 15 16), (0, u "add"), (0, u "(II)V"), (0, .methodref 10 18), (0, .nameAndType 19 20), (0, u "build"), (0, u "()Lcom/example/esteem/esteem/index/Postings;"), (0, .methodref 22 23), (0, .class_ 24), (0, .nameAndType 25 26), (0, u "com/example/esteem/esteem/index/Postings"), (0, u "docFreq"), (0, u "()I"), (0, .methodref 28 29), (0, .class_ 30), (0, .nameAndType 31 32), (0, u "com/example/esteem/esteem/index/PostingsBuildPinLaw"), (0, u "check"), (0, u "(Lcom/example/esteem/esteem/index/Postings;ZZIIII)Z"), (0, .methodref 22 34), (0, .nameAndType 35 36), (0, u "doc"), (0, u "(I)I"), (0, .methodref 22 38), (0, .nameAndType 39 40), (0, u "position"), (0, u "(II)I"), (0, .methodref 22 42), (0, .nameAndType 43 36), (0, u "freq"), (2, u "law"), (0, u "(IIIIII)Z")] 9

def k1m0 : Method := { name := "<init>", desc := "()V", sig := { parameters := [], returnType := none }, accessFlags := 1, code := none }
def k1c1 : Code := { maxStack := 8, maxLocals := 15, code := code, exceptionTable := #[], attributes := #[] }
def k1m1 : Method := { name := "law", desc := "(IIIIII)Z", sig := { parameters := [.int, .int, .int, .int, .int, .int], returnType := some .boolean }, accessFlags := 9, code := some k1c1 }
def k1c2 : Code := { maxStack := 3, maxLocals := 7, code := method_3_code, exceptionTable := #[], attributes := #[] }
def k1m2 : Method := { name := "check", desc := "(Lcom/example/esteem/esteem/index/Postings;ZZIIII)Z", sig := { parameters := [(.object "com/example/esteem/esteem/index/Postings"), .boolean, .boolean, .int, .int, .int, .int], returnType := some .boolean }, accessFlags := 10, code := some k1c2 }
/-- com/example/esteem/esteem/index/PostingsBuildPinLaw -/
def k1 : Class := { plain "com/example/esteem/esteem/index/PostingsBuildPinLaw" (some 0) with
  accessFlags := 49
  interfaces := #[]
  cf := some (fileOf pool1 28 #[] #[{ accessFlags := 1, nameIndex := 5, descriptorIndex := 6, attributes := #[] }, { accessFlags := 9, nameIndex := 46, descriptorIndex := 47, attributes := #[] }, { accessFlags := 10, nameIndex := 31, descriptorIndex := 32, attributes := #[] }] 49 2 #[] #[])
  fields := #[]
  methods := #[k1m0, k1m1, k1m2]
  instanceTypes := #[]
  staticTypes := #[]
  resolved := Array.replicate 57 none
  statics := none }

def pool2 : Array CpInfo := pool [(1, .methodref 2 3), (0, .class_ 4), (0, .nameAndType 5 6), (0, u "java/lang/Object"), (0, u "<init>"), (0, u "()V"), (0, .fieldref 8 9), (0, .class_ 10), (0, .nameAndType 11 12), (0, u "com/example/esteem/esteem/index/Postings$Builder"), (0, u "docs"), (0, u "[I"), (0, .fieldref 8 14), (0, .nameAndType 15 12), (0, u "starts"), (0, .fieldref 8 17), (0, .nameAndType 18 12), (0, u "positions"), (0, .fieldref 8 20), (0, .nameAndType 21 22), (0, u "docCount"), (0, u "I"), (0, .methodref 8 24), (0, .nameAndType 25 26), (0, u "lastPosition"), (0, u "()I"), (9, .methodref 37 38), (0, .class_ 39), (0, .nameAndType 40 41), (0, u "java/util/Arrays"), (0, u "copyOf"), (0, u "([II)[I"), (0, .fieldref 8 43), (0, .nameAndType 44 22), (0, u "positionCount"), (0, .class_ 46), (0, u "com/example/esteem/esteem/index/Postings"), (0, .methodref 45 48), (0, .nameAndType 5 49), (0, u "([I[I[I)V"), (2, u "add"), (0, u "(II)V"), (1, u "build"), (0, u "()Lcom/example/esteem/esteem/index/Postings;")] 19

def k2c0 : Code := { maxStack := 2, maxLocals := 1, code := prog_21_method_1_code, exceptionTable := #[], attributes := #[] }
def k2m0 : Method := { name := "<init>", desc := "()V", sig := { parameters := [], returnType := none }, accessFlags := 0, code := some k2c0 }
def k2c1 : Code := { maxStack := 4, maxLocals := 5, code := prog_21_method_2_code, exceptionTable := #[], attributes := #[] }
def k2m1 : Method := { name := "add", desc := "(II)V", sig := { parameters := [.int, .int], returnType := none }, accessFlags := 0, code := some k2c1 }
def k2c2 : Code := { maxStack := 6, maxLocals := 1, code := prog_21_method_3_code, exceptionTable := #[], attributes := #[] }
def k2m2 : Method := { name := "build", desc := "()Lcom/example/esteem/esteem/index/Postings;", sig := { parameters := [], returnType := some (.object "com/example/esteem/esteem/index/Postings") }, accessFlags := 0, code := some k2c2 }
def k2c3 : Code := { maxStack := 3, maxLocals := 1, code := prog_21_method_4_code, exceptionTable := #[], attributes := #[] }
def k2m3 : Method := { name := "lastPosition", desc := "()I", sig := { parameters := [], returnType := some .int }, accessFlags := 2, code := some k2c3 }
/-- com/example/esteem/esteem/index/Postings$Builder -/
def k2 : Class := { plain "com/example/esteem/esteem/index/Postings$Builder" (some 0) with
  accessFlags := 48
  interfaces := #[]
  cf := some (fileOf pool2 8 #[.nestHost 45] #[{ accessFlags := 0, nameIndex := 5, descriptorIndex := 6, attributes := #[] }, { accessFlags := 0, nameIndex := 52, descriptorIndex := 53, attributes := #[] }, { accessFlags := 0, nameIndex := 55, descriptorIndex := 56, attributes := #[] }, { accessFlags := 2, nameIndex := 25, descriptorIndex := 26, attributes := #[] }] 48 2 #[] #[{ accessFlags := 2, nameIndex := 11, descriptorIndex := 12, attributes := #[] }, { accessFlags := 2, nameIndex := 15, descriptorIndex := 12, attributes := #[] }, { accessFlags := 2, nameIndex := 18, descriptorIndex := 12, attributes := #[] }, { accessFlags := 2, nameIndex := 21, descriptorIndex := 22, attributes := #[] }, { accessFlags := 2, nameIndex := 44, descriptorIndex := 22, attributes := #[] }])
  fields := #[{ name := "docs", type := (.array .int), accessFlags := 2, slot := 0, constantValue := 0 }, { name := "starts", type := (.array .int), accessFlags := 2, slot := 1, constantValue := 0 }, { name := "positions", type := (.array .int), accessFlags := 2, slot := 2, constantValue := 0 }, { name := "docCount", type := .int, accessFlags := 2, slot := 3, constantValue := 0 }, { name := "positionCount", type := .int, accessFlags := 2, slot := 4, constantValue := 0 }]
  methods := #[k2m0, k2m1, k2m2, k2m3]
  instanceTypes := #[(.array .int), (.array .int), (.array .int), .int, .int]
  staticTypes := #[]
  resolved := Array.replicate 76 none
  statics := none }

def pool3 : Array CpInfo := pool [(1, .methodref 2 3), (0, .class_ 4), (0, .nameAndType 5 6), (0, u "java/lang/Object"), (0, u "<init>"), (0, u "()V"), (0, .fieldref 8 9), (0, .class_ 10), (0, .nameAndType 11 12), (0, u "com/example/esteem/esteem/index/Postings"), (0, u "docs"), (0, u "[I"), (0, .fieldref 8 14), (0, .nameAndType 15 12), (0, u "starts"), (0, .fieldref 8 17), (0, .nameAndType 18 12), (0, u "positions"), (3, u "(I)I"), (2, u "freq"), (38, u "docFreq"), (0, u "()I"), (3, .class_ 70), (0, u "com/example/esteem/esteem/index/Postings$Builder"), (3, u "doc"), (6, u "position"), (0, u "(II)I"), (21, u "EMPTY"), (0, u "Lcom/example/esteem/esteem/index/Postings;"), (0, u "([I[I[I)V")] 17

def k3c0 : Code := { maxStack := 2, maxLocals := 4, code := prog_20_method_1_code, exceptionTable := #[], attributes := #[] }
def k3m0 : Method := { name := "<init>", desc := "([I[I[I)V", sig := { parameters := [(.array .int), (.array .int), (.array .int)], returnType := none }, accessFlags := 2, code := some k3c0 }
def k3c1 : Code := { maxStack := 1, maxLocals := 1, code := prog_20_method_2_code, exceptionTable := #[], attributes := #[] }
def k3m1 : Method := { name := "docFreq", desc := "()I", sig := { parameters := [], returnType := some .int }, accessFlags := 1, code := some k3c1 }
def k3c2 : Code := { maxStack := 2, maxLocals := 2, code := prog_20_method_3_code, exceptionTable := #[], attributes := #[] }
def k3m2 : Method := { name := "doc", desc := "(I)I", sig := { parameters := [.int], returnType := some .int }, accessFlags := 1, code := some k3c2 }
def k3c3 : Code := { maxStack := 3, maxLocals := 2, code := prog_20_method_4_code, exceptionTable := #[], attributes := #[] }
def k3m3 : Method := { name := "freq", desc := "(I)I", sig := { parameters := [.int], returnType := some .int }, accessFlags := 1, code := some k3c3 }
def k3c4 : Code := { maxStack := 3, maxLocals := 3, code := prog_20_method_5_code, exceptionTable := #[], attributes := #[] }
def k3m4 : Method := { name := "position", desc := "(II)I", sig := { parameters := [.int, .int], returnType := some .int }, accessFlags := 1, code := some k3c4 }
/-- com/example/esteem/esteem/index/Postings -/
def k3 : Class := { plain "com/example/esteem/esteem/index/Postings" (some 0) with
  accessFlags := 49
  interfaces := #[]
  cf := some (fileOf pool3 8 #[.nestMembers #[69]] #[{ accessFlags := 2, nameIndex := 5, descriptorIndex := 106, attributes := #[] }, { accessFlags := 1, nameIndex := 64, descriptorIndex := 65, attributes := #[] }, { accessFlags := 1, nameIndex := 74, descriptorIndex := 22, attributes := #[] }, { accessFlags := 1, nameIndex := 25, descriptorIndex := 22, attributes := #[] }, { accessFlags := 1, nameIndex := 81, descriptorIndex := 82, attributes := #[] }] 49 2 #[] #[{ accessFlags := 25, nameIndex := 104, descriptorIndex := 105, attributes := #[] }, { accessFlags := 18, nameIndex := 11, descriptorIndex := 12, attributes := #[] }, { accessFlags := 18, nameIndex := 15, descriptorIndex := 12, attributes := #[] }, { accessFlags := 18, nameIndex := 18, descriptorIndex := 12, attributes := #[] }])
  fields := #[{ name := "EMPTY", type := (.object "com/example/esteem/esteem/index/Postings"), accessFlags := 25, slot := 0, constantValue := 0 }, { name := "docs", type := (.array .int), accessFlags := 18, slot := 0, constantValue := 0 }, { name := "starts", type := (.array .int), accessFlags := 18, slot := 1, constantValue := 0 }, { name := "positions", type := (.array .int), accessFlags := 18, slot := 2, constantValue := 0 }]
  methods := #[k3m0, k3m1, k3m2, k3m3, k3m4]
  instanceTypes := #[(.array .int), (.array .int), (.array .int)]
  staticTypes := #[(.object "com/example/esteem/esteem/index/Postings")]
  resolved := Array.replicate 124 none
  statics := none }

def pool4 : Array CpInfo := pool [(2, .class_ 4), (1, u "java/lang/Object"), (0, u "<init>"), (0, u "()V"), (7, .class_ 16), (1, u "java/util/Arrays"), (57, .class_ 76), (1, u "java/util/Arrays$NaturalOrder"), (32, u "()Ljava/lang/Object;"), (3, .class_ 115), (1, u "java/util/Arrays$LegacyMergeSort"), (1, u "Z"), (10, .nameAndType 129 109), (0, u "clone"), (20, .methodref 151 152), (0, .class_ 153), (0, .nameAndType 154 155), (0, u "java/lang/System"), (0, u "arraycopy"), (0, u "(Ljava/lang/Object;ILjava/lang/Object;II)V"), (146, u "copyOf"), (1, .methodref 305 306), (0, .class_ 307), (0, .nameAndType 308 309), (0, u "java/lang/Math"), (0, u "min"), (0, u "(II)I"), (6, .methodref 317 128), (0, .class_ 318), (0, u "[I"), (56, .class_ 376), (0, u "java/util/Arrays$ArrayList"), (68, u "$assertionsDisabled"), (269, u "MIN_ARRAY_SORT_GRAN"), (0, u "I"), (2, u "INSERTIONSORT_THRESHOLD"), (151, u "([II)[I"), (103, .class_ 976), (0, u "java/util/Arrays$ArrayItr")] 52

def k4m0 : Method := { name := "<init>", desc := "()V", sig := { parameters := [], returnType := none }, accessFlags := 2, code := none }
def k4c1 : Code := { maxStack := 6, maxLocals := 3, code := jdk_65_method_123_code, exceptionTable := #[], attributes := #[] }
def k4m1 : Method := { name := "copyOf", desc := "([II)[I", sig := { parameters := [(.array .int), .int], returnType := some (.array .int) }, accessFlags := 9, code := some k4c1 }
/-- java/util/Arrays -/
def k4 : Class := { plain "java/util/Arrays" (some 0) with
  accessFlags := 49
  interfaces := #[]
  cf := some (fileOf pool4 14 #[.nestMembers #[975, 375, 113, 74]] #[{ accessFlags := 2, nameIndex := 5, descriptorIndex := 6, attributes := #[] }, { accessFlags := 9, nameIndex := 302, descriptorIndex := 871, attributes := #[] }] 49 2 #[] #[{ accessFlags := 26, nameIndex := 715, descriptorIndex := 716, attributes := #[] }, { accessFlags := 26, nameIndex := 719, descriptorIndex := 716, attributes := #[] }, { accessFlags := 4120, nameIndex := 445, descriptorIndex := 117, attributes := #[] }])
  fields := #[{ name := "MIN_ARRAY_SORT_GRAN", type := .int, accessFlags := 26, slot := 0, constantValue := 0 }, { name := "INSERTIONSORT_THRESHOLD", type := .int, accessFlags := 26, slot := 1, constantValue := 0 }, { name := "$assertionsDisabled", type := .boolean, accessFlags := 4120, slot := 2, constantValue := 0 }]
  methods := #[k4m0, k4m1]
  instanceTypes := #[]
  staticTypes := #[.int, .int, .boolean]
  resolved := Array.replicate 1029 none
  statics := none }

def pool5 : Array CpInfo := pool [(1, .class_ 2), (0, u "java/lang/Math"), (1, .class_ 6), (1, u "java/lang/Object"), (0, u "<init>"), (0, u "()V"), (89, .class_ 100), (1, u "java/lang/Math$RandomNumberGeneratorHolder"), (71, u "negativeZeroFloatBits"), (0, u "J"), (2, u "negativeZeroDoubleBits"), (24, u "min"), (43, u "$assertionsDisabled"), (0, u "Z"), (88, u "(II)I"), (2, u "twoToTheDoubleScaleDown"), (0, u "D"), (4, u "twoToTheDoubleScaleUp"), (9, u "E"), (3, u "PI"), (2, u "TAU"), (2, u "DEGREES_TO_RADIANS"), (0, u "RADIANS_TO_DEGREES")] 94

def k5m0 : Method := { name := "<init>", desc := "()V", sig := { parameters := [], returnType := none }, accessFlags := 2, code := none }
def k5c1 : Code := { maxStack := 2, maxLocals := 2, code := jdk_29_method_69_code, exceptionTable := #[], attributes := #[] }
def k5m1 : Method := { name := "min", desc := "(II)I", sig := { parameters := [.int, .int], returnType := some .int }, accessFlags := 9, code := some k5c1 }
/-- java/lang/Math -/
def k5 : Class := { plain "java/lang/Math" (some 0) with
  accessFlags := 49
  interfaces := #[]
  cf := some (fileOf pool5 1 #[.nestMembers #[98]] #[{ accessFlags := 2, nameIndex := 7, descriptorIndex := 8, attributes := #[] }, { accessFlags := 9, nameIndex := 201, descriptorIndex := 335, attributes := #[] }] 49 4 #[] #[{ accessFlags := 25, nameIndex := 354, descriptorIndex := 339, attributes := #[] }, { accessFlags := 25, nameIndex := 358, descriptorIndex := 339, attributes := #[] }, { accessFlags := 25, nameIndex := 361, descriptorIndex := 339, attributes := #[] }, { accessFlags := 26, nameIndex := 364, descriptorIndex := 339, attributes := #[] }, { accessFlags := 26, nameIndex := 365, descriptorIndex := 339, attributes := #[] }, { accessFlags := 26, nameIndex := 172, descriptorIndex := 173, attributes := #[] }, { accessFlags := 26, nameIndex := 176, descriptorIndex := 173, attributes := #[] }, { accessFlags := 8, nameIndex := 344, descriptorIndex := 339, attributes := #[] }, { accessFlags := 8, nameIndex := 338, descriptorIndex := 339, attributes := #[] }, { accessFlags := 4120, nameIndex := 245, descriptorIndex := 246, attributes := #[] }])
  fields := #[{ name := "E", type := .double, accessFlags := 25, slot := 0, constantValue := 0 }, { name := "PI", type := .double, accessFlags := 25, slot := 1, constantValue := 0 }, { name := "TAU", type := .double, accessFlags := 25, slot := 2, constantValue := 0 }, { name := "DEGREES_TO_RADIANS", type := .double, accessFlags := 26, slot := 3, constantValue := 0 }, { name := "RADIANS_TO_DEGREES", type := .double, accessFlags := 26, slot := 4, constantValue := 0 }, { name := "negativeZeroFloatBits", type := .long, accessFlags := 26, slot := 5, constantValue := 0 }, { name := "negativeZeroDoubleBits", type := .long, accessFlags := 26, slot := 6, constantValue := 0 }, { name := "twoToTheDoubleScaleUp", type := .double, accessFlags := 8, slot := 7, constantValue := 0 }, { name := "twoToTheDoubleScaleDown", type := .double, accessFlags := 8, slot := 8, constantValue := 0 }, { name := "$assertionsDisabled", type := .boolean, accessFlags := 4120, slot := 9, constantValue := 0 }]
  methods := #[k5m0, k5m1]
  instanceTypes := #[]
  staticTypes := #[.double, .double, .double, .double, .double, .long, .long, .double, .double, .boolean]
  resolved := Array.replicate 460 none
  statics := none }

def pool6 : Array CpInfo := pool [(2, .class_ 4), (1, u "java/lang/Object"), (0, u "<init>"), (0, u "()V"), (1, .class_ 10), (1, u "java/lang/System"), (0, u "allowSecurityManager"), (0, u "I"), (16, u "cons"), (0, u "Ljava/io/Console;"), (77, .class_ 110), (1, u "java/lang/System$CallersHolder"), (43, u "initialErrStream"), (0, u "Ljava/io/PrintStream;"), (19, u "security"), (0, u "Ljava/lang/SecurityManager;"), (31, .class_ 209), (0, u "java/lang/System$1"), (7, u "props"), (0, u "Ljava/util/Properties;"), (2, u "lineSeparator"), (0, u "Ljava/lang/String;"), (96, .class_ 321), (1, u "java/lang/System$LoggerFinder"), (5, .class_ 328), (0, u "java/lang/System$Logger"), (67, u "err"), (2, u "out"), (91, u "notSupportedJnuEncoding"), (15, u "in"), (17, u "initialIn"), (0, u "Ljava/io/InputStream;"), (35, u "bootLayer"), (0, u "Ljava/lang/ModuleLayer;"), (99, .class_ 664), (0, u "java/lang/System$2"), (9, u "NEVER"), (2, u "MAYBE"), (49, u "arraycopy"), (0, u "(Ljava/lang/Object;ILjava/lang/Object;II)V"), (72, .class_ 802), (0, u "java/lang/System$Logger$Level")] 31

def k6m0 : Method := { name := "<init>", desc := "()V", sig := { parameters := [], returnType := none }, accessFlags := 2, code := none }
def k6m1 : Method := { name := "arraycopy", desc := "(Ljava/lang/Object;ILjava/lang/Object;II)V", sig := { parameters := [(.object "java/lang/Object"), .int, (.object "java/lang/Object"), .int, .int], returnType := none }, accessFlags := 265, code := none }
/-- java/lang/System -/
def k6 : Class := { plain "java/lang/System" (some 0) with
  accessFlags := 49
  interfaces := #[]
  cf := some (fileOf pool6 8 #[.nestMembers #[319, 327, 801, 108, 663, 208]] #[{ accessFlags := 2, nameIndex := 5, descriptorIndex := 6, attributes := #[] }, { accessFlags := 265, nameIndex := 727, descriptorIndex := 728, attributes := #[] }] 49 2 #[] #[{ accessFlags := 25, nameIndex := 507, descriptorIndex := 526, attributes := #[] }, { accessFlags := 25, nameIndex := 399, descriptorIndex := 155, attributes := #[] }, { accessFlags := 25, nameIndex := 396, descriptorIndex := 155, attributes := #[] }, { accessFlags := 10, nameIndex := 525, descriptorIndex := 526, attributes := #[] }, { accessFlags := 26, nameIndex := 674, descriptorIndex := 12, attributes := #[] }, { accessFlags := 26, nameIndex := 677, descriptorIndex := 12, attributes := #[] }, { accessFlags := 10, nameIndex := 11, descriptorIndex := 12, attributes := #[] }, { accessFlags := 74, nameIndex := 175, descriptorIndex := 176, attributes := #[] }, { accessFlags := 10, nameIndex := 491, descriptorIndex := 222, attributes := #[] }, { accessFlags := 74, nameIndex := 29, descriptorIndex := 30, attributes := #[] }, { accessFlags := 74, nameIndex := 154, descriptorIndex := 155, attributes := #[] }, { accessFlags := 10, nameIndex := 217, descriptorIndex := 218, attributes := #[] }, { accessFlags := 10, nameIndex := 221, descriptorIndex := 222, attributes := #[] }, { accessFlags := 8, nameIndex := 562, descriptorIndex := 563, attributes := #[] }])
  fields := #[{ name := "in", type := (.object "java/io/InputStream"), accessFlags := 25, slot := 0, constantValue := 0 }, { name := "out", type := (.object "java/io/PrintStream"), accessFlags := 25, slot := 1, constantValue := 0 }, { name := "err", type := (.object "java/io/PrintStream"), accessFlags := 25, slot := 2, constantValue := 0 }, { name := "initialIn", type := (.object "java/io/InputStream"), accessFlags := 10, slot := 3, constantValue := 0 }, { name := "NEVER", type := .int, accessFlags := 26, slot := 4, constantValue := 0 }, { name := "MAYBE", type := .int, accessFlags := 26, slot := 5, constantValue := 0 }, { name := "allowSecurityManager", type := .int, accessFlags := 10, slot := 6, constantValue := 0 }, { name := "security", type := (.object "java/lang/SecurityManager"), accessFlags := 74, slot := 7, constantValue := 0 }, { name := "notSupportedJnuEncoding", type := (.object "java/lang/String"), accessFlags := 10, slot := 8, constantValue := 0 }, { name := "cons", type := (.object "java/io/Console"), accessFlags := 74, slot := 9, constantValue := 0 }, { name := "initialErrStream", type := (.object "java/io/PrintStream"), accessFlags := 74, slot := 10, constantValue := 0 }, { name := "props", type := (.object "java/util/Properties"), accessFlags := 10, slot := 11, constantValue := 0 }, { name := "lineSeparator", type := (.object "java/lang/String"), accessFlags := 10, slot := 12, constantValue := 0 }, { name := "bootLayer", type := (.object "java/lang/ModuleLayer"), accessFlags := 8, slot := 13, constantValue := 0 }]
  methods := #[k6m0, k6m1]
  instanceTypes := #[]
  staticTypes := #[(.object "java/io/InputStream"), (.object "java/io/PrintStream"), (.object "java/io/PrintStream"), (.object "java/io/InputStream"), .int, .int, .int, (.object "java/lang/SecurityManager"), (.object "java/lang/String"), (.object "java/io/Console"), (.object "java/io/PrintStream"), (.object "java/util/Properties"), (.object "java/lang/String"), (.object "java/lang/ModuleLayer")]
  resolved := Array.replicate 834 none
  statics := none }

def pool7 : Array CpInfo := pool [(1, .class_ 2), (0, u "java/lang/Cloneable"), (0, .class_ 4), (0, u "java/lang/Object")] 2

/-- java/lang/Cloneable -/
def k7 : Class := { plain "java/lang/Cloneable" (some 0) with
  accessFlags := 1537
  interfaces := #[]
  cf := some (fileOf pool7 1 #[] #[] 1537 3 #[] #[])
  fields := #[]
  methods := #[]
  instanceTypes := #[]
  staticTypes := #[]
  resolved := Array.replicate 7 none
  statics := none }

def pool8 : Array CpInfo := pool [(1, u "java/io/Serializable"), (0, .class_ 1), (0, u "java/lang/Object"), (0, .class_ 3)] 3

/-- java/io/Serializable -/
def k8 : Class := { plain "java/io/Serializable" (some 0) with
  accessFlags := 1537
  interfaces := #[]
  cf := some (fileOf pool8 2 #[] #[] 1537 4 #[] #[])
  fields := #[]
  methods := #[]
  instanceTypes := #[]
  staticTypes := #[]
  resolved := Array.replicate 8 none
  statics := none }

/-- the primitive boolean -/
def k9 : Class := { plain "boolean" none with kind := .primitive 'Z', accessFlags := 0x411 }
/-- [Z -/
def k10 : Class := { plain "[Z" (some 0) with kind := .array 9 .boolean, interfaces := #[7, 8], accessFlags := 1041 }

/-- the primitive byte -/
def k11 : Class := { plain "byte" none with kind := .primitive 'B', accessFlags := 0x411 }
/-- [B -/
def k12 : Class := { plain "[B" (some 0) with kind := .array 11 .byte, interfaces := #[7, 8], accessFlags := 1041 }

/-- the primitive int -/
def k13 : Class := { plain "int" none with kind := .primitive 'I', accessFlags := 0x411 }
/-- [I -/
def k14 : Class := { plain "[I" (some 0) with kind := .array 13 .int, interfaces := #[7, 8], accessFlags := 1041 }

def heap : Heap := #[]
def classes : Array Class := #[k0, k1, k2, k3, k4, k5, k6, k7, k8, k9, k10, k11, k12, k13, k14]
def interned : List (Array UInt16 × Addr) := []
def slotsUsed : Nat := 0
def theMethod : MethodId := ⟨1, 1⟩
def args0 : Array Value := #[.int 3, .int 5, .int 7, .int 3, .int 9, .int 1]
def aboutOver (below : List Frame) : State where
  vm := { classes := classes, interned := interned.toArray }
  heap := heap
  slotsUsed := slotsUsed
  threads := #[{ frames := .invoking theMethod args0 :: below }]
def below0 : List Frame := [.native { method := ⟨0, 0⟩, args := #[] }]
def about1 : State := aboutOver below0
def p0 : Program := .bare "" "" ""
def e0 : Env := launch0.env 0 0 0
theorem w_frames : about1.frames = Frame.invoking theMethod args0 :: below0 := rfl
set_option maxRecDepth 65536 in
theorem w_args : argsFit about1.vm theMethod args0 = true := by decide +kernel
set_option maxRecDepth 65536 in
theorem w_heap : heapFits about1 = true := by decide +kernel
set_option maxRecDepth 65536 in
theorem w_runnable : about1.curStatus? = some .runnable := by decide +kernel
set_option maxRecDepth 65536 in
theorem w_alone : about1.alone = true := by decide +kernel
set_option maxRecDepth 65536 in
theorem w_named : about1.methodNamed? x = some theMethod := by decide +kernel
set_option maxRecDepth 65536 in
theorem w_hears : about1.hears theMethod below0 = true := by decide +kernel
set_option maxRecDepth 65536 in
theorem w_ripe : about1.ripe theMethod args0 below0 = true := by decide +kernel
theorem w_running : about1.status = .running := rfl
set_option maxRecDepth 65536 in
theorem w_room : about1.hasRoom e0.platform room_1 = true :=
  launch0.hasRoom_least _ room_1 (by decide +kernel) (by decide +kernel) (by decide +kernel) (by decide +kernel) (by decide +kernel) (by decide +kernel)
theorem allAtoms_all (ts : List Jvm.Cond) (a : Array Jvm.Value) (st : Jvm.State) : (allAtoms ts).before a st = ts.all (fun c => c.before a st) := by
  induction ts with
  | nil => rfl
  | cons c t ih =>
    show (Jvm.Cond.and c (allAtoms t)).before a st = _
    rw [Jvm.Cond.before_and, ih, List.all_cons]
def words1 : List Jvm.Cond := Jvm.Cond.code x code maxLocals ret :: tables_1
/-- a 'code' word, met by the world's own term for the bytes: nothing is compared byte by byte -/
theorem code_word {y : MethodName} {bytes : ByteArray} {mx : Nat} {rt : Option FieldType} {a : Array Value} {s : State} {m : MethodId} {meth : Method} {c : Code} (h1 : s.methodNamed? y = some m) (h2 : s.vm.method? m = some meth) (h3 : meth.code = some c) (h4 : c.code = bytes)
    (h5 : (c.maxLocals == mx && c.exceptionTable.isEmpty && decide (c.maxStack ≤ mostOperands) && decide (meth.sig.returnType = rt) && !meth.locks && decide (parseMethodDescriptor y.desc = some meth.sig)) = true) : (Jvm.Cond.code y bytes mx rt).before a s = true := by
  simp only [Bool.and_eq_true, beq_iff_eq, Bool.not_eq_true', decide_eq_true_eq] at h5
  obtain ⟨⟨⟨⟨⟨g1, g2⟩, g3⟩, g4⟩, g5⟩, g6⟩ := h5
  simp [Cond.before, Cond.holds, Cond.value, h1, h2, h3, h4, g1, g2, g3, g4, g5, g6]
def isCode : Jvm.Cond → Bool
  | .code _ _ _ _ => true
  | _ => false
theorem all_split {L : List Jvm.Cond} {P : Jvm.Cond → Bool} (h1 : L.all (fun c => isCode c || P c) = true) (h2 : ∀ c ∈ L.filter isCode, P c = true) : L.all P = true := by
  refine List.all_eq_true.mpr fun c hc => ?_
  have h := List.all_eq_true.mp h1 c hc
  rcases Bool.eq_false_or_eq_true (isCode c) with hi | hi
  · exact h2 c (List.mem_filter.mpr ⟨hc, hi⟩)
  · simpa [hi] using h
set_option maxRecDepth 65536 in
theorem w_c0 : (Jvm.Cond.code x code maxLocals ret).before args0 about1 = true := code_word (m := ⟨1, 1⟩) (meth := k1m1) (c := k1c1) (by decide +kernel) rfl rfl rfl (by decide +kernel)
set_option maxRecDepth 65536 in
theorem w_c1 : (Jvm.Cond.code ({ cls := "com/example/esteem/esteem/index/Postings$Builder", name := "<init>", desc := "()V" } : Jvm.MethodName) prog_21_method_1_code (1 : Nat) (Option.none : Option Jvm.ClassFile.FieldType)).before args0 about1 = true := code_word (m := ⟨2, 0⟩) (meth := k2m0) (c := k2c0) (by decide +kernel) rfl rfl rfl (by decide +kernel)
set_option maxRecDepth 65536 in
theorem w_c2 : (Jvm.Cond.code ({ cls := "java/lang/Object", name := "<init>", desc := "()V" } : Jvm.MethodName) object_method_1_code (1 : Nat) (Option.none : Option Jvm.ClassFile.FieldType)).before args0 about1 = true := code_word (m := ⟨0, 0⟩) (meth := k0m0) (c := k0c0) (by decide +kernel) rfl rfl rfl (by decide +kernel)
set_option maxRecDepth 65536 in
theorem w_c3 : (Jvm.Cond.code ({ cls := "com/example/esteem/esteem/index/Postings$Builder", name := "build", desc := "()Lcom/example/esteem/esteem/index/Postings;" } : Jvm.MethodName) prog_21_method_3_code (1 : Nat) (Option.some (Jvm.ClassFile.FieldType.object "com/example/esteem/esteem/index/Postings"))).before args0 about1 = true := code_word (m := ⟨2, 2⟩) (meth := k2m2) (c := k2c2) (by decide +kernel) rfl rfl rfl (by decide +kernel)
set_option maxRecDepth 65536 in
theorem w_c4 : (Jvm.Cond.code ({ cls := "java/util/Arrays", name := "copyOf", desc := "([II)[I" } : Jvm.MethodName) jdk_65_method_123_code (3 : Nat) (Option.some (Jvm.ClassFile.FieldType.array Jvm.ClassFile.FieldType.int))).before args0 about1 = true := code_word (m := ⟨4, 1⟩) (meth := k4m1) (c := k4c1) (by decide +kernel) rfl rfl rfl (by decide +kernel)
set_option maxRecDepth 65536 in
theorem w_c5 : (Jvm.Cond.code ({ cls := "java/lang/Math", name := "min", desc := "(II)I" } : Jvm.MethodName) jdk_29_method_69_code (2 : Nat) (Option.some Jvm.ClassFile.FieldType.int)).before args0 about1 = true := code_word (m := ⟨5, 1⟩) (meth := k5m1) (c := k5c1) (by decide +kernel) rfl rfl rfl (by decide +kernel)
set_option maxRecDepth 65536 in
theorem w_c6 : (Jvm.Cond.code ({ cls := "com/example/esteem/esteem/index/Postings", name := "<init>", desc := "([I[I[I)V" } : Jvm.MethodName) prog_20_method_1_code (4 : Nat) (Option.none : Option Jvm.ClassFile.FieldType)).before args0 about1 = true := code_word (m := ⟨3, 0⟩) (meth := k3m0) (c := k3c0) (by decide +kernel) rfl rfl rfl (by decide +kernel)
set_option maxRecDepth 65536 in
theorem w_c7 : (Jvm.Cond.code ({ cls := "com/example/esteem/esteem/index/Postings", name := "docFreq", desc := "()I" } : Jvm.MethodName) prog_20_method_2_code (1 : Nat) (Option.some Jvm.ClassFile.FieldType.int)).before args0 about1 = true := code_word (m := ⟨3, 1⟩) (meth := k3m1) (c := k3c1) (by decide +kernel) rfl rfl rfl (by decide +kernel)
set_option maxRecDepth 65536 in
theorem w_c8 : (Jvm.Cond.code ({ cls := "com/example/esteem/esteem/index/Postings$Builder", name := "add", desc := "(II)V" } : Jvm.MethodName) prog_21_method_2_code (5 : Nat) (Option.none : Option Jvm.ClassFile.FieldType)).before args0 about1 = true := code_word (m := ⟨2, 1⟩) (meth := k2m1) (c := k2c1) (by decide +kernel) rfl rfl rfl (by decide +kernel)
set_option maxRecDepth 65536 in
theorem w_c9 : (Jvm.Cond.code ({ cls := "com/example/esteem/esteem/index/PostingsBuildPinLaw", name := "check", desc := "(Lcom/example/esteem/esteem/index/Postings;ZZIIII)Z" } : Jvm.MethodName) method_3_code (7 : Nat) (Option.some Jvm.ClassFile.FieldType.boolean)).before args0 about1 = true := code_word (m := ⟨1, 2⟩) (meth := k1m2) (c := k1c2) (by decide +kernel) rfl rfl rfl (by decide +kernel)
set_option maxRecDepth 65536 in
theorem w_c10 : (Jvm.Cond.code ({ cls := "com/example/esteem/esteem/index/Postings", name := "doc", desc := "(I)I" } : Jvm.MethodName) prog_20_method_3_code (2 : Nat) (Option.some Jvm.ClassFile.FieldType.int)).before args0 about1 = true := code_word (m := ⟨3, 2⟩) (meth := k3m2) (c := k3c2) (by decide +kernel) rfl rfl rfl (by decide +kernel)
set_option maxRecDepth 65536 in
theorem w_c11 : (Jvm.Cond.code ({ cls := "com/example/esteem/esteem/index/Postings", name := "position", desc := "(II)I" } : Jvm.MethodName) prog_20_method_5_code (3 : Nat) (Option.some Jvm.ClassFile.FieldType.int)).before args0 about1 = true := code_word (m := ⟨3, 4⟩) (meth := k3m4) (c := k3c4) (by decide +kernel) rfl rfl rfl (by decide +kernel)
set_option maxRecDepth 65536 in
theorem w_c12 : (Jvm.Cond.code ({ cls := "com/example/esteem/esteem/index/Postings", name := "freq", desc := "(I)I" } : Jvm.MethodName) prog_20_method_4_code (2 : Nat) (Option.some Jvm.ClassFile.FieldType.int)).before args0 about1 = true := code_word (m := ⟨3, 3⟩) (meth := k3m3) (c := k3c3) (by decide +kernel) rfl rfl rfl (by decide +kernel)
set_option maxRecDepth 65536 in
theorem w_c13 : (Jvm.Cond.code ({ cls := "com/example/esteem/esteem/index/Postings$Builder", name := "lastPosition", desc := "()I" } : Jvm.MethodName) prog_21_method_4_code (1 : Nat) (Option.some Jvm.ClassFile.FieldType.int)).before args0 about1 = true := code_word (m := ⟨2, 3⟩) (meth := k2m3) (c := k2c3) (by decide +kernel) rfl rfl rfl (by decide +kernel)
def codes1 : List Jvm.Cond := [Jvm.Cond.code x code maxLocals ret, Jvm.Cond.code ({ cls := "com/example/esteem/esteem/index/Postings$Builder", name := "<init>", desc := "()V" } : Jvm.MethodName) prog_21_method_1_code (1 : Nat) (Option.none : Option Jvm.ClassFile.FieldType), Jvm.Cond.code ({ cls := "java/lang/Object", name := "<init>", desc := "()V" } : Jvm.MethodName) object_method_1_code (1 : Nat) (Option.none : Option Jvm.ClassFile.FieldType), Jvm.Cond.code ({ cls := "com/example/esteem/esteem/index/Postings$Builder", name := "build", desc := "()Lcom/example/esteem/esteem/index/Postings;" } : Jvm.MethodName) prog_21_method_3_code (1 : Nat) (Option.some (Jvm.ClassFile.FieldType.object "com/example/esteem/esteem/index/Postings")), Jvm.Cond.code ({ cls := "java/util/Arrays", name := "copyOf", desc := "([II)[I" } : Jvm.MethodName) jdk_65_method_123_code (3 : Nat) (Option.some (Jvm.ClassFile.FieldType.array Jvm.ClassFile.FieldType.int)), Jvm.Cond.code ({ cls := "java/lang/Math", name := "min", desc := "(II)I" } : Jvm.MethodName) jdk_29_method_69_code (2 : Nat) (Option.some Jvm.ClassFile.FieldType.int), Jvm.Cond.code ({ cls := "com/example/esteem/esteem/index/Postings", name := "<init>", desc := "([I[I[I)V" } : Jvm.MethodName) prog_20_method_1_code (4 : Nat) (Option.none : Option Jvm.ClassFile.FieldType), Jvm.Cond.code ({ cls := "com/example/esteem/esteem/index/Postings", name := "docFreq", desc := "()I" } : Jvm.MethodName) prog_20_method_2_code (1 : Nat) (Option.some Jvm.ClassFile.FieldType.int), Jvm.Cond.code ({ cls := "com/example/esteem/esteem/index/Postings$Builder", name := "add", desc := "(II)V" } : Jvm.MethodName) prog_21_method_2_code (5 : Nat) (Option.none : Option Jvm.ClassFile.FieldType), Jvm.Cond.code ({ cls := "com/example/esteem/esteem/index/PostingsBuildPinLaw", name := "check", desc := "(Lcom/example/esteem/esteem/index/Postings;ZZIIII)Z" } : Jvm.MethodName) method_3_code (7 : Nat) (Option.some Jvm.ClassFile.FieldType.boolean), Jvm.Cond.code ({ cls := "com/example/esteem/esteem/index/Postings", name := "doc", desc := "(I)I" } : Jvm.MethodName) prog_20_method_3_code (2 : Nat) (Option.some Jvm.ClassFile.FieldType.int), Jvm.Cond.code ({ cls := "com/example/esteem/esteem/index/Postings", name := "position", desc := "(II)I" } : Jvm.MethodName) prog_20_method_5_code (3 : Nat) (Option.some Jvm.ClassFile.FieldType.int), Jvm.Cond.code ({ cls := "com/example/esteem/esteem/index/Postings", name := "freq", desc := "(I)I" } : Jvm.MethodName) prog_20_method_4_code (2 : Nat) (Option.some Jvm.ClassFile.FieldType.int), Jvm.Cond.code ({ cls := "com/example/esteem/esteem/index/Postings$Builder", name := "lastPosition", desc := "()I" } : Jvm.MethodName) prog_21_method_4_code (1 : Nat) (Option.some Jvm.ClassFile.FieldType.int)]
set_option maxRecDepth 65536 in
theorem codes_eq : words1.filter isCode = codes1 := rfl
theorem w_codes : ∀ c ∈ words1.filter isCode, c.before args0 about1 = true := by
  rw [codes_eq]
  intro c hc
  simp only [codes1, List.mem_cons, List.not_mem_nil, or_false] at hc
  rcases hc with rfl | rfl | rfl | rfl | rfl | rfl | rfl | rfl | rfl | rfl | rfl | rfl | rfl | rfl
  · exact w_c0
  · exact w_c1
  · exact w_c2
  · exact w_c3
  · exact w_c4
  · exact w_c5
  · exact w_c6
  · exact w_c7
  · exact w_c8
  · exact w_c9
  · exact w_c10
  · exact w_c11
  · exact w_c12
  · exact w_c13
set_option maxRecDepth 65536 in
theorem w_t1 : (words1.take 24).all (fun c => isCode c || c.before args0 about1) = true := by decide +kernel
set_option maxRecDepth 65536 in
theorem w_t2 : ((words1.drop 24).take 24).all (fun c => isCode c || c.before args0 about1) = true := by decide +kernel
set_option maxRecDepth 65536 in
theorem w_t3 : (((words1.drop 24).drop 24).take 24).all (fun c => isCode c || c.before args0 about1) = true := by decide +kernel
set_option maxRecDepth 65536 in
theorem w_t4 : ((((words1.drop 24).drop 24).drop 24).take 24).all (fun c => isCode c || c.before args0 about1) = true := by decide +kernel
set_option maxRecDepth 65536 in
theorem w_t5 : ((((words1.drop 24).drop 24).drop 24).drop 24).all (fun c => isCode c || c.before args0 about1) = true := by decide +kernel
theorem w_tables : (allAtoms (Jvm.Cond.code x code maxLocals ret :: tables_1)).before args0 about1 = true := by
  rw [allAtoms_all]
  show words1.all (fun c => c.before args0 about1) = true
  refine all_split ?_ w_codes
  rw [← List.take_append_drop 24 words1, List.all_append, w_t1, ← List.take_append_drop 24 (words1.drop 24), List.all_append, w_t2, ← List.take_append_drop 24 ((words1.drop 24).drop 24), List.all_append, w_t3, ← List.take_append_drop 24 (((words1.drop 24).drop 24).drop 24), List.all_append, w_t4, w_t5]
  rfl
set_option maxRecDepth 65536 in
theorem w_case : (Jvm.Cond.and given_1 narrow_1).before args0 about1 = true := by decide +kernel
theorem w_applies : (headSpec (Jvm.Cond.code x code maxLocals ret :: tables_1) room_1).applies x e0.platform about1 = true :=
  (Spec.applies_iff w_frames).mpr ⟨w_running, w_runnable, w_alone, w_named, w_hears, w_ripe, w_room, w_tables⟩
theorem atStart : AtStart classFile x code maxLocals ret World_1 tables_1 room_1 Calls_1 rest_1 Pre_1 launch0 p0 e0 about1 theMethod args0 below0 :=
  ⟨lists_1, trivial, launch0.admits_env _ _ _, launch0.least_env, fairChoices_fair.cas, fairChoices_fair.clock, w_frames, w_args, w_heap, w_applies, trivial, trivial, w_case⟩
end start1
theorem witness_1 : WitnessClaimed_1 := ⟨start1.p0, start1.e0, start1.about1, start1.theMethod, start1.args0, start1.below0, start1.atStart⟩
end Jvm.Pilot.@@N@@
