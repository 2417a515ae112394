import JvmDerived
import JvmDerived.Pilot.@@N@@Statement
import JvmDerived.Pilot.@@N@@Code
set_option linter.unusedVariables false
set_option linter.unusedSimpArgs false
namespace Jvm.RoadKit
open Sem ClassFile Op Lib Jvm.Stand Jvm.Free Jvm.LawKit
section New
variable {p : Program} {l : Launch} {e : Env} {R : Room} {s : State} {m : MethodId} {args : Array Value} {below : List Frame} {meth : Method} {c : Code} {T : State} {locs : List Loc} {cells slots : Nat}
theorem retI (X : Stand p l e R s m args below meth c T locs cells slots) (hx : p.tables.exec = Jvm.exec) {pc : Nat} {Ls : Array Slot} {z : Int32} {rest : List Value} (hret : meth.sig.returnType = some .int) (hd : decode c.code pc = .ok (.ireturn, 1)) {fs : List Frame}
    (hl : ∀ (f : JFrame) (acts : List Action), f.method = m → f.locked = none → f.entered = [] → (doReturn e (T.setTop f) acts (some (.int z))).1 = T.setFrames fs) : Steps p.tables e below (T.setTop (mkF m pc Ls (.int z :: rest))) (T.setFrames fs) := by
  have hm' : T.vm.method? m = some meth := X.method'
  have hn : narrow .int (.int z) = .int z := rfl
  show Steps p.tables e below (T.setTop { method := m, pc := pc, locals := Ls, stack := _ :: rest, locked := none }) _
  jvm_step X.here [X.here.top, hx, hd, hm', hret, hn]
  first | (intro acts; rw [hl _ acts rfl rfl rfl]) | rw [hl _ _ rfl rfl rfl]
  exact Steps.refl _
end New
end Jvm.RoadKit
namespace Jvm.Pilot.@@N@@
open Jvm Jvm.ClassFile Sem Op Lib Jvm.Free Jvm.Stand Jvm.LawKit Jvm.RoadKit Bundle Jvm.Pilot.@@N@@.Jvm.D
section OwnKit
variable {p : Program} {l : Launch} {e : Env} {R : Room} {s : State} {m : MethodId} {args : Array Value} {below : List Frame} {meth : Method} {c : Code} {T : State} {locs : List Loc} {cells slots : Nat}
/-- from S the run comes to a return of which F holds -/
def Goes (tb : Tables) (e : Env) (below : List Frame) (s : State) (F : Option Value → Heap → List Loc → Prop) (k n : Nat) (S : State) : Prop :=
  ∃ s₂ o, Steps tb e below S s₂ ∧ s₂.status = .running ∧ Ended s₂ below o ∧ ∃ v L, o = .returned v ∧ F v s₂.heap L ∧ FrameEnd s o s₂ L k n
theorem Goes.of {tb : Tables} {F : Option Value → Heap → List Loc → Prop} {k n : Nat} {S S' : State} (h : ∀ t, Steps tb e below S' t → Steps tb e below S t) (g : Goes tb e below s F k n S') : Goes tb e below s F k n S := by
  obtain ⟨s₂, o, h1, r⟩ := g
  exact ⟨s₂, o, h _ h1, r⟩
theorem Goes.mono {tb : Tables} {F G : Option Value → Heap → List Loc → Prop} {k n : Nat} {S : State} (h : ∀ v h L, F v h L → G v h L) (g : Goes tb e below s F k n S) : Goes tb e below s G k n S := by
  obtain ⟨s₂, o, h1, h2, h3, v, L, h4, h5, h6⟩ := g
  exact ⟨s₂, o, h1, h2, h3, v, L, h4, h _ _ _ h5, h6⟩
theorem Goes.fin (X : Stand p l e R s m args below meth c T locs cells slots) (hlk : meth.locks = false) {v : Option Value} {F : Option Value → Heap → List Loc → Prop} {k n : Nat} {S : State} (hv : meth.sig.returnType = none → v = none)
    (step : ∀ fs, (∀ (f : JFrame) (acts : List Action), f.method = m → f.locked = none → f.entered = [] → (doReturn e (T.setTop f) acts v).1 = T.setFrames fs) → Steps p.tables e below S (T.setFrames fs)) (hF : F v T.heap locs) (hk : cells ≤ k) (hn : slots ≤ n) : Goes p.tables e below s F k n S := by
  obtain ⟨fs, hr, hrun, hended, hW, hsame⟩ := X.leave hv hlk
  exact ⟨_, _, step fs hr, hrun, hended, v, locs, rfl, hF, ⟨_, rfl⟩, hW, hsame.mono hk hn⟩
end OwnKit
section OwnArr
variable {p : Program} {l : Launch} {e : Env} {R : Room} {s : State} {m : MethodId} {args : Array Value} {below : List Frame} {meth : Method} {c : Code} {T : State} {locs : List Loc} {cells slots : Nat} {Z : State} {h h' : Heap} {a b : Addr} {ty : FieldType} {n i : Nat} {f : Nat → Int32} {ws : List Addr} {sl : Nat} {w : Value}
/-- at a stands an array of n places; place j holds f j -/
def AI (Z : State) (h : Heap) (a : Addr) (ty : FieldType) (n : Nat) (f : Nat → Int32) : Prop :=
  ∃ c : Cell, Arr Z h a c ty ∧ c.slots.size = n ∧ n < 2147483648 ∧ ∀ j, j < n → c.slots[j]? = some (.int (f j)) ∧ fits ty (.int (f j)) = true
def upd (f : Nat → Int32) (i : Nat) (v : Int32) : Nat → Int32 := fun j => if j = i then v else f j
theorem AI.lt (F : AI Z h a ty n f) : a < h.size := by obtain ⟨c, A, -⟩ := F; exact A.lt
theorem AI.ext (F : AI Z h a ty n f) (E : Ext h h') : AI Z h' a ty n f := by obtain ⟨c, A, r⟩ := F; exact ⟨c, A.ext E, r⟩
theorem AI.other (F : AI Z h a ty n f) (W : Wr h h' b sl w) (q : a ≠ b) : AI Z h' a ty n f := by obtain ⟨c, A, r⟩ := F; exact ⟨c, A.other W q, r⟩
theorem AI.keep (F : AI Z h a ty n f) (K : Keep h h' ws) (q : a ∉ ws) : AI Z h' a ty n f := by obtain ⟨c, A, r⟩ := F; exact ⟨c, ⟨K.2.1 a c A.1 q, A.2⟩, r⟩
theorem AI.congr {f' : Nat → Int32} (F : AI Z h a ty n f) (q : ∀ j, j < n → f j = f' j) : AI Z h a ty n f' := by
  obtain ⟨c, A, S, M, H⟩ := F
  exact ⟨c, A, S, M, fun j hj => by rw [← q j hj]; exact H j hj⟩
theorem AI.fits (F : AI Z h a ty n f) {j : Nat} (hj : j < n) : Jvm.fits ty (.int (f j)) = true := by
  obtain ⟨c, A, S, M, H⟩ := F
  exact (H j hj).2
theorem AI.new {cA : ClassId} {z : Int32} (hd : defaultValue ty = .int 0) (hf : Jvm.fits ty (.int 0) = true) (A : Arr Z h a (newA cA ty z) ty) (q : ¬ z < 0) (hn : z.toNatClampNeg = n) : AI Z h a ty n (fun _ => 0) := by
  subst hn
  refine ⟨_, A, sz_new _ _ _, (back32 q).2, fun j hj => ⟨?_, hf⟩⟩
  show (Array.replicate z.toNatClampNeg (defaultValue ty))[j]? = _
  rw [hd, Array.getElem?_replicate, if_pos hj]
theorem AI.set {v : Int32} (F : AI Z h a ty n f) (W : Wr h h' a i (.int v)) (hv : Jvm.fits ty (.int v) = true) : AI Z h' a ty n (upd f i v) := by
  obtain ⟨c, A, S, M, H⟩ := F
  refine ⟨c.setSlot i (.int v), A.same W, by rw [sz_set]; exact S, M, fun j hj => ?_⟩
  show (c.slots.setIfInBounds i (.int v))[j]? = _ ∧ _
  by_cases q : j = i
  · subst q
    rw [Array.getElem?_setIfInBounds_self_of_lt (by omega)]
    have e : upd f j v j = v := if_pos rfl
    rw [e]; exact ⟨rfl, hv⟩
  · rw [Array.getElem?_setIfInBounds_ne (Ne.symm q)]
    have e : upd f i v j = f j := if_neg q
    rw [e]; exact H j hj
theorem own_nn {j : Int32} (h : 0 ≤ j.toInt) : ¬ j < 0 := by
  rw [Int32.lt_iff_toInt_lt, show (0 : Int32).toInt = 0 from rfl]; omega
theorem own_ltn {j : Int32} {n : Nat} (h0 : 0 ≤ j.toInt) (h : j.toInt < n) : j.toNatClampNeg < n := by
  simp only [Int32.toNatClampNeg]; omega
theorem own_tn {z : Int32} {n : Nat} (h : z.toInt = n) : z.toNatClampNeg = n := by
  simp only [Int32.toNatClampNeg]; omega
theorem own_inc {i : Int32} (h : i.toInt < 2147483647) : (i + (1 : Int32)).toInt = i.toInt + 1 := by
  have a := c_iadd i 1
  have r := rng32 (i + 1)
  have r2 := rng32 i
  rw [show (1 : Int32).toInt = 1 from rfl] at a
  omega
theorem own_ilt {a b : Int32} (h : a.toInt < b.toInt) : a < b := by rw [Int32.lt_iff_toInt_lt]; exact h
theorem own_nlt {a b : Int32} (h : b.toInt ≤ a.toInt) : ¬ a < b := by rw [Int32.lt_iff_toInt_lt]; omega
theorem own_ltI {a b : Int32} (h : a < b) : a.toInt < b.toInt := Int32.lt_iff_toInt_lt.mp h
theorem own_geI {a b : Int32} (h : ¬ a < b) : b.toInt ≤ a.toInt := by rw [Int32.lt_iff_toInt_lt] at h; omega
theorem own_neI {a b : Int32} (h : ¬ a = b) : a.toInt ≠ b.toInt := fun q => h (Int32.toInt_inj.mp q)
theorem own_turn {G : Nat → Int32} {n k i : Nat} {w : Int32} (hi : i + (k + 1) = n) (hw : w = G i) : ∀ j, j < n → upd (fun j => if j + (k + 1) < n then G j else 0) i w j = if j + k < n then G j else 0 := by
  intro j hj
  by_cases q : j = i
  · subst q
    rw [if_pos (by omega)]
    exact (if_pos rfl).trans hw
  · refine (if_neg q).trans ?_
    by_cases r : j + (k + 1) < n
    · show (if _ then _ else _) = _
      rw [if_pos r, if_pos (by omega)]
    · show (if _ then _ else _) = _
      rw [if_neg r, if_neg (by omega)]
theorem own_turn2 {D : Nat → Int32} {n k i : Nat} {w : Int32} (hi : i + (k + 1) = n) : ∀ j, j < n → upd (fun j => if j + (k + 1) < n then w else D j) i w j = if j + k < n then w else D j := by
  intro j hj
  by_cases q : j = i
  · subst q
    rw [if_pos (by omega)]
    exact if_pos rfl
  · refine (if_neg q).trans ?_
    by_cases r : j + (k + 1) < n
    · show (if _ then _ else _) = _
      rw [if_pos r, if_pos (by omega)]
    · show (if _ then _ else _) = _
      rw [if_neg r, if_neg (by omega)]
theorem own_in {cl : Cell} {j : Int32} (S : cl.slots.size = n) (h0 : ¬ j < 0) (hi : j.toNatClampNeg = i) (hn : i < n) : ¬ (j < 0 ∨ cl.slots.size ≤ j.toNatClampNeg) := by
  rintro (q | q)
  · exact h0 q
  · omega
theorem ldI (X : Stand p l e R s m args below meth c T locs cells slots) (hx : p.tables.exec = Jvm.exec) (hZ : Z.Warmed39 s.vm) (eT : T.heap = h) (F : AI Z h a .int n f) {j v : Int32} (h0 : ¬ j < 0) (hi : j.toNatClampNeg = i) (hn : i < n) (hv : f i = v) {g : JFrame} (hg : g.method = m) {rest : List Value} (hs : g.stack = .int j :: .ref a :: rest) (hd : decode c.code g.pc = .ok (.iaload, 1)) (t : State)
    (k : Steps p.tables e below (T.setTop { g with pc := g.pc + 1, stack := .int v :: rest }) t) : Steps p.tables e below (T.setTop g) t := by
  obtain ⟨cl, A, S, M, H⟩ := F
  exact X.iaload hx (j := j) (v := .int v) (by rw [eT]; exact A.1) (State.isArrayOf_alike hZ.alike A.2.1) A.2.2 (own_in S h0 hi hn) (by rw [hi, (H i hn).1, hv]) hg hs hd t k
theorem ldB (X : Stand p l e R s m args below meth c T locs cells slots) (hx : p.tables.exec = Jvm.exec) (hZ : Z.Warmed39 s.vm) (eT : T.heap = h) (F : AI Z h a .byte n f) {j v : Int32} (h0 : ¬ j < 0) (hi : j.toNatClampNeg = i) (hn : i < n) (hv : f i = v) {g : JFrame} (hg : g.method = m) {rest : List Value} (hs : g.stack = .int j :: .ref a :: rest) (hd : decode c.code g.pc = .ok (.baload, 1)) (t : State)
    (k : Steps p.tables e below (T.setTop { g with pc := g.pc + 1, stack := .int v :: rest }) t) : Steps p.tables e below (T.setTop g) t := by
  obtain ⟨cl, A, S, M, H⟩ := F
  exact X.baloadBytes hx (j := j) (v := .int v) (by rw [eT]; exact A.1) (State.isArrayOf_alike hZ.alike A.2.1) A.2.2 (own_in S h0 hi hn) (by rw [hi, (H i hn).1, hv]) hg hs hd t k
theorem ldZ (X : Stand p l e R s m args below meth c T locs cells slots) (hx : p.tables.exec = Jvm.exec) (hZ : Z.Warmed39 s.vm) (eT : T.heap = h) (F : AI Z h a .boolean n f) {j v : Int32} (h0 : ¬ j < 0) (hi : j.toNatClampNeg = i) (hn : i < n) (hv : f i = v) {g : JFrame} (hg : g.method = m) {rest : List Value} (hs : g.stack = .int j :: .ref a :: rest) (hd : decode c.code g.pc = .ok (.baload, 1)) (t : State)
    (k : Steps p.tables e below (T.setTop { g with pc := g.pc + 1, stack := .int v :: rest }) t) : Steps p.tables e below (T.setTop g) t := by
  obtain ⟨cl, A, S, M, H⟩ := F
  exact X.baloadBooleans hx (j := j) (v := .int v) (by rw [eT]; exact A.1) (State.isArrayOf_alike hZ.alike A.2.1) A.2.2 (own_in S h0 hi hn) (by rw [hi, (H i hn).1, hv]) hg hs hd t k
theorem putI (X : Stand p l e R s m args below meth c T locs cells slots) (hx : p.tables.exec = Jvm.exec) (hZ : Z.Warmed39 s.vm) (eT : T.heap = h) (F : AI Z h a .int n f) {j x : Int32} (h0 : ¬ j < 0) (hi : j.toNatClampNeg = i) (hn : i < n) {g : JFrame} (hg : g.method = m) {rest : List Value} (hs : g.stack = .int x :: .int j :: .ref a :: rest) (hd : decode c.code g.pc = .ok (.iastore, 1)) :
    ∃ T' h', Stand p l e R s m args below meth c T' (locs ++ [⟨a, i⟩]) cells slots ∧ T'.heap = h' ∧ Wr h h' a i (.int x) ∧ AI Z h' a .int n (upd f i x) ∧ ∀ t, Steps p.tables e below (T'.setTop { g with pc := g.pc + 1, stack := rest }) t → Steps p.tables e below (T.setTop g) t := by
  have F0 := F
  obtain ⟨cl, A, S, M, H⟩ := F
  subst hi
  obtain ⟨T', h', X', e', W, st⟩ := stI X hx hZ eT A (own_in S h0 rfl hn) hg hs hd
  exact ⟨T', h', X', e', W, F0.set W rfl, st⟩
theorem putB (X : Stand p l e R s m args below meth c T locs cells slots) (hx : p.tables.exec = Jvm.exec) (hZ : Z.Warmed39 s.vm) (eT : T.heap = h) (F : AI Z h a .byte n f) {j x : Int32} (h0 : ¬ j < 0) (hi : j.toNatClampNeg = i) (hn : i < n) {g : JFrame} (hg : g.method = m) {rest : List Value} (hs : g.stack = .int x :: .int j :: .ref a :: rest) (hd : decode c.code g.pc = .ok (.bastore, 1)) :
    ∃ T' h', Stand p l e R s m args below meth c T' (locs ++ [⟨a, i⟩]) cells slots ∧ T'.heap = h' ∧ Wr h h' a i (.int x.toInt8.toInt32) ∧ AI Z h' a .byte n (upd f i x.toInt8.toInt32) ∧ ∀ t, Steps p.tables e below (T'.setTop { g with pc := g.pc + 1, stack := rest }) t → Steps p.tables e below (T.setTop g) t := by
  have F0 := F
  obtain ⟨cl, A, S, M, H⟩ := F
  subst hi
  obtain ⟨T', h', X', e', W, st⟩ := stB X hx hZ eT A (own_in S h0 rfl hn) hg hs hd
  exact ⟨T', h', X', e', W, F0.set W (fits_nar_byte x), st⟩
theorem putZ (X : Stand p l e R s m args below meth c T locs cells slots) (hx : p.tables.exec = Jvm.exec) (hZ : Z.Warmed39 s.vm) (eT : T.heap = h) (F : AI Z h a .boolean n f) {j x : Int32} (h0 : ¬ j < 0) (hi : j.toNatClampNeg = i) (hn : i < n) {g : JFrame} (hg : g.method = m) {rest : List Value} (hs : g.stack = .int x :: .int j :: .ref a :: rest) (hd : decode c.code g.pc = .ok (.bastore, 1)) :
    ∃ T' h', Stand p l e R s m args below meth c T' (locs ++ [⟨a, i⟩]) cells slots ∧ T'.heap = h' ∧ Wr h h' a i (.int (x &&& 1)) ∧ AI Z h' a .boolean n (upd f i (x &&& 1)) ∧ ∀ t, Steps p.tables e below (T'.setTop { g with pc := g.pc + 1, stack := rest }) t → Steps p.tables e below (T.setTop g) t := by
  have F0 := F
  obtain ⟨cl, A, S, M, H⟩ := F
  subst hi
  obtain ⟨T', h', X', e', W, st⟩ := stZ X hx hZ eT A (own_in S h0 rfl hn) hg hs hd
  exact ⟨T', h', X', e', W, F0.set W (fits_nar_bool x), st⟩
theorem lenA (X : Stand p l e R s m args below meth c T locs cells slots) (hx : p.tables.exec = Jvm.exec) (hZ : Z.Warmed39 s.vm) (eT : T.heap = h) (F : AI Z h a ty n f) {z : Int32} (hz : z.toInt = n) {g : JFrame} (hg : g.method = m) {rest : List Value} (hs : g.stack = .ref a :: rest) (hd : decode c.code g.pc = .ok (.arraylength, 1)) (t : State)
    (k : Steps p.tables e below (T.setTop { g with pc := g.pc + 1, stack := .int z :: rest }) t) : Steps p.tables e below (T.setTop g) t := by
  obtain ⟨cl, A, S, M, H⟩ := F
  have e1 : cl.slots.size.toInt32 = z := by rw [S]; exact Int32.toInt_inj.mp (by rw [len_toInt M, hz])
  exact X.arraylength hx (by rw [eT]; exact A.1) (State.isArrayOf_alike hZ.alike A.2.1) hg hs hd t (by rw [e1]; exact k)
end OwnArr
theorem own_clone {p : Program} {l : Launch} {e : Env} {R : Room} {s : State} {m : MethodId} {args : Array Value} {below : List Frame} {meth : Method} {c : Code} {T : State} {locs : List Loc} {cells slots : Nat} {Z : State} {a0 : Array Value} {h : Heap} {a : Addr} {n : Nat} {f : Nat → Int32}
    (X : Stand p l e R s m args below meth c T locs cells slots) (hx : p.tables.exec = Jvm.exec) (hZ : Z.Warmed39 s.vm) {own : String} {index : Nat} (hown : s.vm.findClass own = some m.cls)
    (w1 : (Jvm.Cond.methodLink own index ⟨"[I", "clone", "()Ljava/lang/Object;"⟩).before a0 Z = true) (w2 : (Jvm.Cond.sameMethod "[I" "java/lang/Object" "clone" "()Ljava/lang/Object;").before a0 Z = true) (w3 : (Jvm.Cond.native ⟨"java/lang/Object", "clone", "()Ljava/lang/Object;"⟩).before a0 Z = true)
    (w4 : (Jvm.Cond.instanceMethod ⟨"java/lang/Object", "clone", "()Ljava/lang/Object;"⟩).before a0 Z = true) (w5 : (Jvm.Cond.selects "[I" ⟨"[I", "clone", "()Ljava/lang/Object;"⟩ ⟨"java/lang/Object", "clone", "()Ljava/lang/Object;"⟩).before a0 Z = true) (w6 : (Jvm.Cond.castable "[I" "java/lang/Cloneable").before a0 Z = true)
    (eT : T.heap = h) (F : AI Z h a .int n f) (E : Exa Z h a "[I") {g : JFrame} (hg : g.method = m) (hsize : g.locals.size = c.maxLocals) {rest : List Value} (hst : g.stack = .ref a :: rest) (hd : decode c.code g.pc = .ok (.invokevirtual index, 3))
    (hf : 1 ≤ R.frames) {W cap : Nat} (hW : 2 * g.monitorRoom + (rest.map fun v => v.category).sum ≤ W) (hl : W + 14 ≤ R.locals) (hcap : n ≤ cap) (hc : cells + 1 ≤ R.cells) (hsl : slots + cap ≤ R.slots) :
    ∃ T' h', Stand p l e R s m args below meth c T' locs (cells + 1) (slots + cap) ∧ T'.heap = h' ∧ Ext h h' ∧ AI Z h' h.size .int n f ∧ Exa Z h' h.size "[I" ∧
      ∀ target, Steps p.tables e below (T'.setTop { g with pc := g.pc + 3, stack := .ref h.size :: rest }) target → Steps p.tables e below (T.setTop g) target := by
  obtain ⟨cl, A, S, M, H⟩ := F
  have FC : FitC Z cl := fitC_of A fun i hi v hv => by
    rw [(H i (by omega)).1] at hv
    cases hv
    exact (H i (by omega)).2
  obtain ⟨T', h', X', e', ex, A', E', st⟩ := cloneA X hx hZ hown w1 w2 w3 w4 w5 w6 eT A E FC hg hsize hst hd hf hW hl (by rw [S]; exact hcap) hc hsl
  exact ⟨T', h', X', e', ex, ⟨cloneOf cl, A', S, M, H⟩, E', st⟩
theorem d4_0 : decode method_3_code 0 = .ok (.iload_n 0, 1) := by decide +kernel
theorem d4_1 : decode method_3_code 1 = .ok (.iconst (-1), 1) := by decide +kernel
theorem d4_2 : decode method_3_code 2 = .ok (.if_icmp .ne 5, 3) := by decide +kernel
theorem d4_5 : decode method_3_code 5 = .ok (.iconst (-1), 1) := by decide +kernel
theorem d4_6 : decode method_3_code 6 = .ok (.ireturn, 1) := by decide +kernel
theorem d4_7 : decode method_3_code 7 = .ok (.iload_n 1, 1) := by decide +kernel
theorem d4_8 : decode method_3_code 8 = .ok (.ldc 22, 2) := by decide +kernel
theorem d4_10 : decode method_3_code 10 = .ok (.iand, 1) := by decide +kernel
theorem d4_11 : decode method_3_code 11 = .ok (.ireturn, 1) := by decide +kernel
theorem pn_0 : plainName "com/example/slotwright/slotwright/problems/postenrolment/TimetableIsCompletePinLaw" = true := by first | (simp [plainName, overriddenIn]; done) | decide +kernel
theorem ef_4 (m : MethodId) (q0 : Int32) (q1 : Int32) : entryFrame m #[(.int q0), (.int q1)] 2 = mkF m 0 #[.val (.int q0), .val (.int q1)] [] := by first | (simp [entryFrame, mkF, argsToLocals, Value.category]; done) | rfl
def f4 (q0 : Int32) (q1 : Int32) : Int32 :=
  (if q0 = (-1 : Int32) then (-1 : Int32)
  else (q1 &&& (2147483647 : Int32)))
def Q4 (q0 : Int32) (q1 : Int32) (h0 : Heap) (n0 : Nat) (v : Option Value) (h : Heap) (L : List Loc) : Prop := v = some (.int (f4 q0 q1)) ∧ Fr n0 L ∧ h = h0
set_option maxRecDepth 65536 in
set_option maxHeartbeats 40000000 in
theorem rm4 (l : Launch) (Z : State) (a0 : Array Value) (hw : ∀ d ∈ tables_1, d.before a0 Z = true) (ws : List Jvm.Cond) (q0 : Int32) (q1 : Int32) (h0 : Heap) (n0 : Nat) :
    MetFree l (⟨"com/example/slotwright/slotwright/problems/postenrolment/TimetableIsCompletePinLaw", "room", "(II)I"⟩ : MethodName) (head1 (Jvm.Cond.code (⟨"com/example/slotwright/slotwright/problems/postenrolment/TimetableIsCompletePinLaw", "room", "(II)I"⟩ : MethodName) method_3_code 2 (some .int) :: ws) ({ frames := 0, cells := 0, slots := 0, locals := 0 } : Room)) (fun ar' Ur => ar' = #[(.int q0), (.int q1)] ∧ Z.Warmed39 Ur.vm ∧ Ur.heap = h0) (fun _ _ _ _ _ => True) (fun _ Ur or' Us => ∃ v L, or' = .returned v ∧ Q4 q0 q1 h0 n0 v Us.heap L ∧ FrameEnd Ur or' Us L 0 0) := by
  refine MetFree.of_bodySF (plainFor_of_name pn_0) hisR ?_
  intro p e s m args below meth c s₁ Bd hml0 hP hK
  obtain ⟨rfl, hZ, hh⟩ := hP
  have hx := Bd.exec
  have hby := Bd.bytes
  have hlk : meth.locks = false := BodyLoose.notSynchronized Bd
  have hml : c.maxLocals = 2 := hml0
  have hown : s.vm.findClass "com/example/slotwright/slotwright/problems/postenrolment/TimetableIsCompletePinLaw" = some m.cls := findClass_of_methodNamed Bd.named
  have X0 : Stand p l e ({ frames := 0, cells := 0, slots := 0, locals := 0 } : Room) s m #[(.int q0), (.int q1)] below meth c s₁ [] 0 0 := Stand.of_body Bd
  have e0 : s₁.heap = h0 := by rw [← hh, Bd.state]; rfl
  have N0 := Fr.nil n0
  show Goes p.tables e below s (Q4 q0 q1 h0 n0) 0 0 (s₁.setTop (entryFrame m #[(.int q0), (.int q1)] 2))
  refine Goes.of (fun t k => castTop (ef_4 m q0 q1) k) ?_
  show Goes _ _ _ _ _ _ _ (s₁.setTop (mkF m 0 #[.val (.int q0), .val (.int q1)] []))
  refine Goes.of (fun t k => XS.iloadN X0.here hx rfl (hb hby d4_0) rfl k) ?_
  show Goes _ _ _ _ _ _ _ (s₁.setTop (mkF m 1 #[.val (.int q0), .val (.int q1)] [(.int q0)]))
  refine Goes.of (fun t k => XS.iconst X0.here hx rfl (hb hby d4_1) k) ?_
  show Goes _ _ _ _ _ _ _ (s₁.setTop (mkF m 2 #[.val (.int q0), .val (.int q1)] [(.int (-1 : Int32)), (.int q0)]))
  by_cases hc1 : q0 = (-1 : Int32)
  · refine Goes.of (fun t k => XS.icmpNo X0.here hx rfl (hb hby d4_2) rfl (teq hc1).2 k) ?_
    show Goes _ _ _ _ _ _ _ (s₁.setTop (mkF m 5 #[.val (.int q0), .val (.int q1)] []))
    refine Goes.of (fun t k => XS.iconst X0.here hx rfl (hb hby d4_5) k) ?_
    show Goes _ _ _ _ _ _ _ (s₁.setTop (mkF m 6 #[.val (.int q0), .val (.int q1)] [(.int (-1 : Int32))]))
    exact Goes.fin X0 hlk (v := some (.int (-1 : Int32))) (fun h => by rw [Bd.returns] at h; cases h) (fun fs hr => retI X0 hx Bd.returns (hb hby d4_6) hr) ⟨congrArg (fun z => some (Value.int z)) (by rw [f4, if_pos hc1] : (-1 : Int32) = f4 q0 q1), N0, e0⟩ (by decide) (by decide)
  · refine Goes.of (fun t k => XS.icmpYes X0.here hx rfl (pc0 := 2) (pc' := 7) rfl (hb hby d4_2) rfl (feq hc1).2 (by decide) (by decide) k) ?_
    show Goes _ _ _ _ _ _ _ (s₁.setTop (mkF m 7 #[.val (.int q0), .val (.int q1)] []))
    refine Goes.of (fun t k => XS.iloadN X0.here hx rfl (hb hby d4_7) rfl k) ?_
    show Goes _ _ _ _ _ _ _ (s₁.setTop (mkF m 8 #[.val (.int q0), .val (.int q1)] [(.int q1)]))
    refine Goes.of (fun t k => X0.ldcInt hx hown (mvT hZ (hw _ (List.mem_of_getElem? (i := 32) rfl))) (g := (mkF m 8 #[.val (.int q0), .val (.int q1)] [(.int q1)])) rfl (hb hby d4_8) t k) ?_
    show Goes _ _ _ _ _ _ _ (s₁.setTop (mkF m 10 #[.val (.int q0), .val (.int q1)] [(.int (2147483647 : Int32)), (.int q1)]))
    refine Goes.of (fun t k => XS.iand X0.here hx rfl (hb hby d4_10) rfl k) ?_
    show Goes _ _ _ _ _ _ _ (s₁.setTop (mkF m 11 #[.val (.int q0), .val (.int q1)] [(.int (q1 &&& (2147483647 : Int32)))]))
    exact Goes.fin X0 hlk (v := some (.int (q1 &&& (2147483647 : Int32)))) (fun h => by rw [Bd.returns] at h; cases h) (fun fs hr => retI X0 hx Bd.returns (hb hby d4_11) hr) ⟨congrArg (fun z => some (Value.int z)) (by rw [f4, if_neg hc1] : (q1 &&& (2147483647 : Int32)) = f4 q0 q1), N0, e0⟩ (by decide) (by decide)
theorem d1_0 : decode prog_40_method_1_code 0 = .ok (.aload_n 0, 1) := by decide +kernel
theorem d1_1 : decode prog_40_method_1_code 1 = .ok (.invokespecial 1, 3) := by decide +kernel
theorem d1_4 : decode prog_40_method_1_code 4 = .ok (.aload_n 1, 1) := by decide +kernel
theorem d1_5 : decode prog_40_method_1_code 5 = .ok (.arraylength, 1) := by decide +kernel
theorem d1_6 : decode prog_40_method_1_code 6 = .ok (.aload_n 2, 1) := by decide +kernel
theorem d1_7 : decode prog_40_method_1_code 7 = .ok (.arraylength, 1) := by decide +kernel
theorem d1_8 : decode prog_40_method_1_code 8 = .ok (.if_icmp .eq 20, 3) := by decide +kernel
theorem d1_11 : decode prog_40_method_1_code 11 = .ok (.new 7, 3) := by decide +kernel
theorem d1_14 : decode prog_40_method_1_code 14 = .ok (.dup, 1) := by decide +kernel
theorem d1_15 : decode prog_40_method_1_code 15 = .ok (.aload_n 1, 1) := by decide +kernel
theorem d1_16 : decode prog_40_method_1_code 16 = .ok (.arraylength, 1) := by decide +kernel
theorem d1_17 : decode prog_40_method_1_code 17 = .ok (.aload_n 2, 1) := by decide +kernel
theorem d1_18 : decode prog_40_method_1_code 18 = .ok (.arraylength, 1) := by decide +kernel
theorem d1_19 : decode prog_40_method_1_code 19 = .ok (.invokedynamic 9, 5) := by decide +kernel
theorem d1_24 : decode prog_40_method_1_code 24 = .ok (.invokespecial 13, 3) := by decide +kernel
theorem d1_27 : decode prog_40_method_1_code 27 = .ok (.athrow, 1) := by decide +kernel
theorem d1_28 : decode prog_40_method_1_code 28 = .ok (.aload_n 0, 1) := by decide +kernel
theorem d1_29 : decode prog_40_method_1_code 29 = .ok (.aload_n 1, 1) := by decide +kernel
theorem d1_30 : decode prog_40_method_1_code 30 = .ok (.invokevirtual 16, 3) := by decide +kernel
theorem d1_33 : decode prog_40_method_1_code 33 = .ok (.checkcast 17, 3) := by decide +kernel
theorem d1_36 : decode prog_40_method_1_code 36 = .ok (.putfield 22, 3) := by decide +kernel
theorem d1_39 : decode prog_40_method_1_code 39 = .ok (.aload_n 0, 1) := by decide +kernel
theorem d1_40 : decode prog_40_method_1_code 40 = .ok (.aload_n 2, 1) := by decide +kernel
theorem d1_41 : decode prog_40_method_1_code 41 = .ok (.invokevirtual 16, 3) := by decide +kernel
theorem d1_44 : decode prog_40_method_1_code 44 = .ok (.checkcast 17, 3) := by decide +kernel
theorem d1_47 : decode prog_40_method_1_code 47 = .ok (.putfield 27, 3) := by decide +kernel
theorem d1_50 : decode prog_40_method_1_code 50 = .ok (.return_, 1) := by decide +kernel
theorem pn_1 : plainName "com/example/slotwright/slotwright/problems/postenrolment/Timetable" = true := by first | (simp [plainName, overriddenIn]; done) | decide +kernel
theorem pd_0 : parseMethodDescriptor "()V" = some ⟨[], none⟩ := by decide +kernel
theorem pd_1 : parseMethodDescriptor "()Ljava/lang/Object;" = some ⟨[], some (.object "java/lang/Object")⟩ := by decide +kernel
theorem ef_1 (m : MethodId) (o : Addr) (a : Addr) (b : Addr) : entryFrame m #[(.ref o), (.ref a), (.ref b)] 3 = mkF m 0 #[.val (.ref o), .val (.ref a), .val (.ref b)] [] := by first | (simp [entryFrame, mkF, argsToLocals, Value.category]; done) | rfl
def Q1 (Z : State) (o : Addr) (n : Nat) (f : Nat → Int32) (h0 : Heap) (n0 : Nat) (v : Option Value) (h : Heap) (L : List Loc) : Prop := v = none ∧ Fr n0 L ∧ ∃ ta : Addr, Keep h0 h [o] ∧ h0.size ≤ ta ∧ Exa Z h o "com/example/slotwright/slotwright/problems/postenrolment/Timetable" ∧ Fld Z h o "com/example/slotwright/slotwright/problems/postenrolment/Timetable" "timeslots" "[I" (.ref ta) ∧ AI Z h ta .int n f
set_option maxRecDepth 65536 in
set_option maxHeartbeats 40000000 in
theorem rm1 (l : Launch) (Z : State) (a0 : Array Value) (hw : ∀ d ∈ tables_1, d.before a0 Z = true) (ws : List Jvm.Cond) (o : Addr) (a : Addr) (b : Addr) (n : Nat) (z : Int32) (f g : Nat → Int32) (h0 : Heap) (n0 : Nat) (Z0 : n0 ≤ h0.size) (E_o : Exa Z h0 o "com/example/slotwright/slotwright/problems/postenrolment/Timetable") (F_timeslots : Fld Z h0 o "com/example/slotwright/slotwright/problems/postenrolment/Timetable" "timeslots" "[I" .null) (F_rooms : Fld Z h0 o "com/example/slotwright/slotwright/problems/postenrolment/Timetable" "rooms" "[I" .null) (g_o : n0 ≤ o) (V_a : AI Z h0 a .int n f) (V_b : AI Z h0 b .int n g) (E_a : Exa Z h0 a "[I") (E_b : Exa Z h0 b "[I") (ne_oa : o ≠ a) (ne_ob : o ≠ b) (hz : z.toInt = n) (hcap : n ≤ 3) :
    MetFree l (⟨"com/example/slotwright/slotwright/problems/postenrolment/Timetable", "<init>", "([I[I)V"⟩ : MethodName) (head1 (Jvm.Cond.code (⟨"com/example/slotwright/slotwright/problems/postenrolment/Timetable", "<init>", "([I[I)V"⟩ : MethodName) prog_40_method_1_code 3 none :: ws) ({ frames := 1, cells := 2, slots := 6, locals := 15 } : Room)) (fun ar' Ur => ar' = #[(.ref o), (.ref a), (.ref b)] ∧ Z.Warmed39 Ur.vm ∧ Ur.heap = h0) (fun _ _ _ _ _ => True) (fun _ Ur or' Us => ∃ v L, or' = .returned v ∧ Q1 Z o n f h0 n0 v Us.heap L ∧ FrameEnd Ur or' Us L 2 6) := by
  refine MetFree.of_bodySF (plainFor_of_name pn_1) hisR ?_
  intro p e s m args below meth c s₁ Bd hml0 hP hK
  obtain ⟨rfl, hZ, hh⟩ := hP
  have hx := Bd.exec
  have hby := Bd.bytes
  have hlk : meth.locks = false := BodyLoose.notSynchronized Bd
  have hml : c.maxLocals = 3 := hml0
  have hown : s.vm.findClass "com/example/slotwright/slotwright/problems/postenrolment/Timetable" = some m.cls := findClass_of_methodNamed Bd.named
  have hnm := (name_of_methodNamed Bd.named Bd.method).1
  have X0 : Stand p l e ({ frames := 1, cells := 2, slots := 6, locals := 15 } : Room) s m #[(.ref o), (.ref a), (.ref b)] below meth c s₁ [] 0 0 := Stand.of_body Bd
  have e0 : s₁.heap = h0 := by rw [← hh, Bd.state]; rfl
  have N0 := Fr.nil n0
  show Goes p.tables e below s (Q1 Z o n f h0 n0) 2 6 (s₁.setTop (entryFrame m #[(.ref o), (.ref a), (.ref b)] 3))
  refine Goes.of (fun t k => castTop (ef_1 m o a b) k) ?_
  show Goes _ _ _ _ _ _ _ (s₁.setTop (mkF m 0 #[.val (.ref o), .val (.ref a), .val (.ref b)] []))
  refine Goes.of (fun t k => XS.aloadN X0.here hx rfl (hb hby d1_0) rfl rfl k) ?_
  show Goes _ _ _ _ _ _ _ (s₁.setTop (mkF m 1 #[.val (.ref o), .val (.ref a), .val (.ref b)] [(.ref o)]))
  obtain ⟨T2, X2, e2, st2⟩ := initO X0 hx hZ hown (hw _ (List.mem_of_getElem? (i := 7) rfl)) (hw _ (List.mem_of_getElem? (i := 8) rfl)) (hw _ (List.mem_of_getElem? (i := 9) rfl)) e0 (g := (mkF m 1 #[.val (.ref o), .val (.ref a), .val (.ref b)] [(.ref o)])) rfl (by rw [hml]; rfl) rfl (hb hby d1_1) (by decide) (W := 0) (by show 2 * 0 + _ ≤ _; exact Nat.le_of_eq rfl) (by decide)
  refine Goes.of st2 ?_
  show Goes _ _ _ _ _ _ _ (T2.setTop (mkF m 4 #[.val (.ref o), .val (.ref a), .val (.ref b)] []))
  refine Goes.of (fun t k => XS.aloadN X2.here hx rfl (hb hby d1_4) rfl rfl k) ?_
  show Goes _ _ _ _ _ _ _ (T2.setTop (mkF m 5 #[.val (.ref o), .val (.ref a), .val (.ref b)] [(.ref a)]))
  refine Goes.of (fun t k => lenA X2 hx hZ e2 V_a (z := z) hz (g := (mkF m 5 #[.val (.ref o), .val (.ref a), .val (.ref b)] [(.ref a)])) rfl rfl (hb hby d1_5) t k) ?_
  show Goes _ _ _ _ _ _ _ (T2.setTop (mkF m 6 #[.val (.ref o), .val (.ref a), .val (.ref b)] [(.int z)]))
  refine Goes.of (fun t k => XS.aloadN X2.here hx rfl (hb hby d1_6) rfl rfl k) ?_
  show Goes _ _ _ _ _ _ _ (T2.setTop (mkF m 7 #[.val (.ref o), .val (.ref a), .val (.ref b)] [(.ref b), (.int z)]))
  refine Goes.of (fun t k => lenA X2 hx hZ e2 V_b (z := z) hz (g := (mkF m 7 #[.val (.ref o), .val (.ref a), .val (.ref b)] [(.ref b), (.int z)])) rfl rfl (hb hby d1_7) t k) ?_
  show Goes _ _ _ _ _ _ _ (T2.setTop (mkF m 8 #[.val (.ref o), .val (.ref a), .val (.ref b)] [(.int z), (.int z)]))
  refine Goes.of (fun t k => XS.icmpYes X2.here hx rfl (pc0 := 8) (pc' := 28) rfl (hb hby d1_8) rfl (teq (rfl : z = z)).1 (by decide) (by decide) k) ?_
  show Goes _ _ _ _ _ _ _ (T2.setTop (mkF m 28 #[.val (.ref o), .val (.ref a), .val (.ref b)] []))
  refine Goes.of (fun t k => XS.aloadN X2.here hx rfl (hb hby d1_28) rfl rfl k) ?_
  show Goes _ _ _ _ _ _ _ (T2.setTop (mkF m 29 #[.val (.ref o), .val (.ref a), .val (.ref b)] [(.ref o)]))
  refine Goes.of (fun t k => XS.aloadN X2.here hx rfl (hb hby d1_29) rfl rfl k) ?_
  show Goes _ _ _ _ _ _ _ (T2.setTop (mkF m 30 #[.val (.ref o), .val (.ref a), .val (.ref b)] [(.ref a), (.ref o)]))
  obtain ⟨T3, h3, X3, e3, E3, V3, Ea3, st3⟩ := own_clone X2 hx hZ hown (hw _ (List.mem_of_getElem? (i := 10) rfl)) (hw _ (List.mem_of_getElem? (i := 11) rfl)) (hw _ (List.mem_of_getElem? (i := 15) rfl)) (hw _ (List.mem_of_getElem? (i := 13) rfl)) (hw _ (List.mem_of_getElem? (i := 14) rfl)) (hw _ (List.mem_of_getElem? (i := 16) rfl)) e2 V_a E_a (g := (mkF m 30 #[.val (.ref o), .val (.ref a), .val (.ref b)] [(.ref a), (.ref o)])) rfl (by rw [hml]; rfl) rfl (hb hby d1_30) (by decide) (W := 1) (cap := 3) (by show 2 * 0 + _ ≤ _; exact Nat.le_of_eq rfl) (by decide) hcap (by decide) (by decide)
  obtain ⟨b3, g3⟩ : ∃ z, z = h0.size := ⟨_, rfl⟩
  rw [← g3] at V3 Ea3 st3
  have ne_o_b3 : o ≠ b3 := Nat.ne_of_lt (Nat.lt_of_lt_of_le E_o.lt (Nat.le_of_eq g3.symm))
  have ne_a_b3 : a ≠ b3 := Nat.ne_of_lt (Nat.lt_of_lt_of_le V_a.lt (Nat.le_of_eq g3.symm))
  have ne_b_b3 : b ≠ b3 := Nat.ne_of_lt (Nat.lt_of_lt_of_le V_b.lt (Nat.le_of_eq g3.symm))
  have g_b3 : n0 ≤ b3 := Nat.le_trans Z0 (Nat.le_of_eq g3.symm)
  have sz_b3 : h0.size ≤ b3 := Nat.le_trans (Keep.refl h0 [o]).1 (Nat.le_of_eq g3.symm)
  have F4 := Exa.ext E3 E_o
  have F5 := Fld.ext E3 F_timeslots
  have F6 := Fld.ext E3 F_rooms
  have F7 := V_a.ext E3
  have F8 := Exa.ext E3 E_a
  have F9 := V_b.ext E3
  have F10 := Exa.ext E3 E_b
  have Z3 : n0 ≤ h3.size := Nat.le_trans Z0 E3.1
  have K3 : Keep h0 h3 [o] := (Keep.refl h0 [o]).ext E3
  refine Goes.of st3 ?_
  show Goes _ _ _ _ _ _ _ (T3.setTop (mkF m 33 #[.val (.ref o), .val (.ref a), .val (.ref b)] [(.ref b3), (.ref o)]))
  obtain ⟨T11, X11, e11, st11⟩ := castY X3 hx hZ hown (hw _ (List.mem_of_getElem? (i := 17) rfl)) e3 (Ins.self Ea3) (g := (mkF m 33 #[.val (.ref o), .val (.ref a), .val (.ref b)] [(.ref b3), (.ref o)])) rfl rfl (hb hby d1_33)
  refine Goes.of st11 ?_
  show Goes _ _ _ _ _ _ _ (T11.setTop (mkF m 36 #[.val (.ref o), .val (.ref a), .val (.ref b)] [(.ref b3), (.ref o)]))
  obtain ⟨T12, h12, X12, e12, W12, st12⟩ := putF X11 hx hZ hown (host := "") (Or.inl (hw _ (List.mem_of_getElem? (i := 19) rfl))) Via.refl e11 F5 F4 (Or.inr ⟨(hw _ (List.mem_of_getElem? (i := 20) rfl)), rfl, hnm⟩) (hw _ (List.mem_of_getElem? (i := 2) rfl)) (ty := (.array .int)) (by decide) rfl rfl (g := (mkF m 36 #[.val (.ref o), .val (.ref a), .val (.ref b)] [(.ref b3), (.ref o)])) rfl rfl (hb hby d1_36)
  have Fw12 := Fld.same W12 F5
  have F13 := Exa.wr W12 F4
  have F14 := Fld.other W12 F6 (Or.inr (slot_ne (Or.inr (hw _ (List.mem_of_getElem? (i := 22) rfl))) (Or.inr (hw _ (List.mem_of_getElem? (i := 20) rfl))) (by decide) (t := (.array .int)) (t' := (.array .int)) (by decide) (by decide)))
  have F15 := F7.other W12 (Ne.symm ne_oa)
  have F16 := Exa.wr W12 F8
  have F17 := F9.other W12 (Ne.symm ne_ob)
  have F18 := Exa.wr W12 F10
  have F19 := V3.other W12 (Ne.symm ne_o_b3)
  have F20 := Exa.wr W12 Ea3
  have Z12 : n0 ≤ h12.size := Nat.le_trans Z3 (Keep.of_wr W12).1
  have K12 : Keep h0 h12 [o] := K3.wr W12 (Or.inl (List.mem_of_getElem? (i := 0) rfl))
  have N12 := Fr.snoc X12 N0 g_o
  refine Goes.of st12 ?_
  show Goes _ _ _ _ _ _ _ (T12.setTop (mkF m 39 #[.val (.ref o), .val (.ref a), .val (.ref b)] []))
  refine Goes.of (fun t k => XS.aloadN X12.here hx rfl (hb hby d1_39) rfl rfl k) ?_
  show Goes _ _ _ _ _ _ _ (T12.setTop (mkF m 40 #[.val (.ref o), .val (.ref a), .val (.ref b)] [(.ref o)]))
  refine Goes.of (fun t k => XS.aloadN X12.here hx rfl (hb hby d1_40) rfl rfl k) ?_
  show Goes _ _ _ _ _ _ _ (T12.setTop (mkF m 41 #[.val (.ref o), .val (.ref a), .val (.ref b)] [(.ref b), (.ref o)]))
  obtain ⟨T21, h21, X21, e21, E21, V21, Ea21, st21⟩ := own_clone X12 hx hZ hown (hw _ (List.mem_of_getElem? (i := 10) rfl)) (hw _ (List.mem_of_getElem? (i := 11) rfl)) (hw _ (List.mem_of_getElem? (i := 15) rfl)) (hw _ (List.mem_of_getElem? (i := 13) rfl)) (hw _ (List.mem_of_getElem? (i := 14) rfl)) (hw _ (List.mem_of_getElem? (i := 16) rfl)) e12 F17 F18 (g := (mkF m 41 #[.val (.ref o), .val (.ref a), .val (.ref b)] [(.ref b), (.ref o)])) rfl (by rw [hml]; rfl) rfl (hb hby d1_41) (by decide) (W := 1) (cap := 3) (by show 2 * 0 + _ ≤ _; exact Nat.le_of_eq rfl) (by decide) hcap (by decide) (by decide)
  obtain ⟨b21, g21⟩ : ∃ z, z = h12.size := ⟨_, rfl⟩
  rw [← g21] at V21 Ea21 st21
  have ne_o_b21 : o ≠ b21 := Nat.ne_of_lt (Nat.lt_of_lt_of_le F13.lt (Nat.le_of_eq g21.symm))
  have ne_a_b21 : a ≠ b21 := Nat.ne_of_lt (Nat.lt_of_lt_of_le F15.lt (Nat.le_of_eq g21.symm))
  have ne_b_b21 : b ≠ b21 := Nat.ne_of_lt (Nat.lt_of_lt_of_le F17.lt (Nat.le_of_eq g21.symm))
  have ne_b3_b21 : b3 ≠ b21 := Nat.ne_of_lt (Nat.lt_of_lt_of_le F19.lt (Nat.le_of_eq g21.symm))
  have g_b21 : n0 ≤ b21 := Nat.le_trans Z12 (Nat.le_of_eq g21.symm)
  have sz_b21 : h0.size ≤ b21 := Nat.le_trans K12.1 (Nat.le_of_eq g21.symm)
  have F22 := Exa.ext E21 F13
  have F23 := Fld.ext E21 Fw12
  have F24 := Fld.ext E21 F14
  have F25 := F15.ext E21
  have F26 := Exa.ext E21 F16
  have F27 := F17.ext E21
  have F28 := Exa.ext E21 F18
  have F29 := F19.ext E21
  have F30 := Exa.ext E21 F20
  have Z21 : n0 ≤ h21.size := Nat.le_trans Z12 E21.1
  have K21 : Keep h0 h21 [o] := K12.ext E21
  refine Goes.of st21 ?_
  show Goes _ _ _ _ _ _ _ (T21.setTop (mkF m 44 #[.val (.ref o), .val (.ref a), .val (.ref b)] [(.ref b21), (.ref o)]))
  obtain ⟨T31, X31, e31, st31⟩ := castY X21 hx hZ hown (hw _ (List.mem_of_getElem? (i := 17) rfl)) e21 (Ins.self Ea21) (g := (mkF m 44 #[.val (.ref o), .val (.ref a), .val (.ref b)] [(.ref b21), (.ref o)])) rfl rfl (hb hby d1_44)
  refine Goes.of st31 ?_
  show Goes _ _ _ _ _ _ _ (T31.setTop (mkF m 47 #[.val (.ref o), .val (.ref a), .val (.ref b)] [(.ref b21), (.ref o)]))
  obtain ⟨T32, h32, X32, e32, W32, st32⟩ := putF X31 hx hZ hown (host := "") (Or.inl (hw _ (List.mem_of_getElem? (i := 21) rfl))) Via.refl e31 F24 F22 (Or.inr ⟨(hw _ (List.mem_of_getElem? (i := 22) rfl)), rfl, hnm⟩) (hw _ (List.mem_of_getElem? (i := 2) rfl)) (ty := (.array .int)) (by decide) rfl rfl (g := (mkF m 47 #[.val (.ref o), .val (.ref a), .val (.ref b)] [(.ref b21), (.ref o)])) rfl rfl (hb hby d1_47)
  have Fw32 := Fld.same W32 F24
  have F33 := Exa.wr W32 F22
  have F34 := Fld.other W32 F23 (Or.inr (slot_ne (Or.inr (hw _ (List.mem_of_getElem? (i := 20) rfl))) (Or.inr (hw _ (List.mem_of_getElem? (i := 22) rfl))) (by decide) (t := (.array .int)) (t' := (.array .int)) (by decide) (by decide)))
  have F35 := F25.other W32 (Ne.symm ne_oa)
  have F36 := Exa.wr W32 F26
  have F37 := F27.other W32 (Ne.symm ne_ob)
  have F38 := Exa.wr W32 F28
  have F39 := F29.other W32 (Ne.symm ne_o_b3)
  have F40 := Exa.wr W32 F30
  have F41 := V21.other W32 (Ne.symm ne_o_b21)
  have F42 := Exa.wr W32 Ea21
  have Z32 : n0 ≤ h32.size := Nat.le_trans Z21 (Keep.of_wr W32).1
  have K32 : Keep h0 h32 [o] := K21.wr W32 (Or.inl (List.mem_of_getElem? (i := 0) rfl))
  have N32 := Fr.snoc X32 N12 g_o
  refine Goes.of st32 ?_
  show Goes _ _ _ _ _ _ _ (T32.setTop (mkF m 50 #[.val (.ref o), .val (.ref a), .val (.ref b)] []))
  exact Goes.fin X32 hlk (v := none) (fun _ => rfl) (fun fs hr => X32.returnOut hx Bd.returns (hb hby d1_50) hr) (by rw [e32]; exact ⟨rfl, N32, b3, K32, sz_b3, F33, F34, F39⟩) (by decide) (by decide)
def own_cmp (f : Nat → Int32) : Nat → Nat → Int32
  | 0, _ => 1
  | k + 1, i => if f i = (-1 : Int32) then 0 else own_cmp f k (i + 1)
theorem d3_0 : decode prog_40_method_4_code 0 = .ok (.aload_n 0, 1) := by decide +kernel
theorem d3_1 : decode prog_40_method_4_code 1 = .ok (.getfield 22, 3) := by decide +kernel
theorem d3_4 : decode prog_40_method_4_code 4 = .ok (.astore_n 1, 1) := by decide +kernel
theorem d3_5 : decode prog_40_method_4_code 5 = .ok (.aload_n 1, 1) := by decide +kernel
theorem d3_6 : decode prog_40_method_4_code 6 = .ok (.arraylength, 1) := by decide +kernel
theorem d3_7 : decode prog_40_method_4_code 7 = .ok (.istore_n 2, 1) := by decide +kernel
theorem d3_8 : decode prog_40_method_4_code 8 = .ok (.iconst 0, 1) := by decide +kernel
theorem d3_9 : decode prog_40_method_4_code 9 = .ok (.istore_n 3, 1) := by decide +kernel
theorem d3_10 : decode prog_40_method_4_code 10 = .ok (.iload_n 3, 1) := by decide +kernel
theorem d3_11 : decode prog_40_method_4_code 11 = .ok (.iload_n 2, 1) := by decide +kernel
theorem d3_12 : decode prog_40_method_4_code 12 = .ok (.if_icmp .ge 22, 3) := by decide +kernel
theorem d3_15 : decode prog_40_method_4_code 15 = .ok (.aload_n 1, 1) := by decide +kernel
theorem d3_16 : decode prog_40_method_4_code 16 = .ok (.iload_n 3, 1) := by decide +kernel
theorem d3_17 : decode prog_40_method_4_code 17 = .ok (.iaload, 1) := by decide +kernel
theorem d3_18 : decode prog_40_method_4_code 18 = .ok (.istore 4, 2) := by decide +kernel
theorem d3_20 : decode prog_40_method_4_code 20 = .ok (.iload 4, 2) := by decide +kernel
theorem d3_22 : decode prog_40_method_4_code 22 = .ok (.iconst (-1), 1) := by decide +kernel
theorem d3_23 : decode prog_40_method_4_code 23 = .ok (.if_icmp .ne 5, 3) := by decide +kernel
theorem d3_26 : decode prog_40_method_4_code 26 = .ok (.iconst 0, 1) := by decide +kernel
theorem d3_27 : decode prog_40_method_4_code 27 = .ok (.ireturn, 1) := by decide +kernel
theorem d3_28 : decode prog_40_method_4_code 28 = .ok (.iinc 3 1, 3) := by decide +kernel
theorem d3_31 : decode prog_40_method_4_code 31 = .ok (.goto (-21), 3) := by decide +kernel
theorem d3_34 : decode prog_40_method_4_code 34 = .ok (.iconst 1, 1) := by decide +kernel
theorem d3_35 : decode prog_40_method_4_code 35 = .ok (.ireturn, 1) := by decide +kernel
theorem ef_3 (m : MethodId) (o : Addr) : entryFrame m #[(.ref o)] 5 = mkF m 0 #[.val (.ref o), .unset, .unset, .unset, .unset] [] := by first | (simp [entryFrame, mkF, argsToLocals, Value.category]; done) | rfl
def Q3 (n : Nat) (f : Nat → Int32) (h0 : Heap) (n0 : Nat) (v : Option Value) (h : Heap) (L : List Loc) : Prop := v = some (.int (own_cmp f n 0)) ∧ Fr n0 L ∧ h = h0
set_option maxRecDepth 65536 in
set_option maxHeartbeats 40000000 in
theorem rm3 (l : Launch) (Z : State) (a0 : Array Value) (hw : ∀ d ∈ tables_1, d.before a0 Z = true) (ws : List Jvm.Cond) (o : Addr) (a : Addr) (n : Nat) (z : Int32) (f : Nat → Int32) (h0 : Heap) (n0 : Nat) (Z0 : n0 ≤ h0.size) (F_t : Fld Z h0 o "com/example/slotwright/slotwright/problems/postenrolment/Timetable" "timeslots" "[I" (.ref a)) (V_a : AI Z h0 a .int n f) (hz : z.toInt = n) :
    MetFree l (⟨"com/example/slotwright/slotwright/problems/postenrolment/Timetable", "isComplete", "()Z"⟩ : MethodName) (head1 (Jvm.Cond.code (⟨"com/example/slotwright/slotwright/problems/postenrolment/Timetable", "isComplete", "()Z"⟩ : MethodName) prog_40_method_4_code 5 (some .boolean) :: ws) ({ frames := 0, cells := 0, slots := 0, locals := 0 } : Room)) (fun ar' Ur => ar' = #[(.ref o)] ∧ Z.Warmed39 Ur.vm ∧ Ur.heap = h0) (fun _ _ _ _ _ => True) (fun _ Ur or' Us => ∃ v L, or' = .returned v ∧ Q3 n f h0 n0 v Us.heap L ∧ FrameEnd Ur or' Us L 0 0) := by
  refine MetFree.of_bodySF (plainFor_of_name pn_1) hisR ?_
  intro p e s m args below meth c s₁ Bd hml0 hP hK
  obtain ⟨rfl, hZ, hh⟩ := hP
  have hx := Bd.exec
  have hby := Bd.bytes
  have hlk : meth.locks = false := BodyLoose.notSynchronized Bd
  have hml : c.maxLocals = 5 := hml0
  have hown : s.vm.findClass "com/example/slotwright/slotwright/problems/postenrolment/Timetable" = some m.cls := findClass_of_methodNamed Bd.named
  have hnm := (name_of_methodNamed Bd.named Bd.method).1
  have X0 : Stand p l e ({ frames := 0, cells := 0, slots := 0, locals := 0 } : Room) s m #[(.ref o)] below meth c s₁ [] 0 0 := Stand.of_body Bd
  have e0 : s₁.heap = h0 := by rw [← hh, Bd.state]; rfl
  have N0 := Fr.nil n0
  show Goes p.tables e below s (Q3 n f h0 n0) 0 0 (s₁.setTop (entryFrame m #[(.ref o)] 5))
  refine Goes.of (fun t k => castTop (ef_3 m o) k) ?_
  show Goes _ _ _ _ _ _ _ (s₁.setTop (mkF m 0 #[.val (.ref o), .unset, .unset, .unset, .unset] []))
  refine Goes.of (fun t k => XS.aloadN X0.here hx rfl (hb hby d3_0) rfl rfl k) ?_
  show Goes _ _ _ _ _ _ _ (s₁.setTop (mkF m 1 #[.val (.ref o), .unset, .unset, .unset, .unset] [(.ref o)]))
  obtain ⟨T43, X43, e43, st43⟩ := getF X0 hx hZ hown (host := "") (Or.inl (hw _ (List.mem_of_getElem? (i := 19) rfl))) Via.refl e0 F_t (g := (mkF m 1 #[.val (.ref o), .unset, .unset, .unset, .unset] [(.ref o)])) rfl rfl (hb hby d3_1)
  refine Goes.of st43 ?_
  show Goes _ _ _ _ _ _ _ (T43.setTop (mkF m 4 #[.val (.ref o), .unset, .unset, .unset, .unset] [(.ref a)]))
  refine Goes.of (fun t k => XS.astoreN X43.here hx rfl (hb hby d3_4) rfl rfl (l' := #[.val (.ref o), .val (.ref a), .unset, .unset, .unset]) rfl k) ?_
  show Goes _ _ _ _ _ _ _ (T43.setTop (mkF m 5 #[.val (.ref o), .val (.ref a), .unset, .unset, .unset] []))
  refine Goes.of (fun t k => XS.aloadN X43.here hx rfl (hb hby d3_5) rfl rfl k) ?_
  show Goes _ _ _ _ _ _ _ (T43.setTop (mkF m 6 #[.val (.ref o), .val (.ref a), .unset, .unset, .unset] [(.ref a)]))
  refine Goes.of (fun t k => lenA X43 hx hZ e43 V_a (z := z) hz (g := (mkF m 6 #[.val (.ref o), .val (.ref a), .unset, .unset, .unset] [(.ref a)])) rfl rfl (hb hby d3_6) t k) ?_
  show Goes _ _ _ _ _ _ _ (T43.setTop (mkF m 7 #[.val (.ref o), .val (.ref a), .unset, .unset, .unset] [(.int z)]))
  refine Goes.of (fun t k => XS.istoreN X43.here hx rfl (hb hby d3_7) rfl (l' := #[.val (.ref o), .val (.ref a), .val (.int z), .unset, .unset]) rfl k) ?_
  show Goes _ _ _ _ _ _ _ (T43.setTop (mkF m 8 #[.val (.ref o), .val (.ref a), .val (.int z), .unset, .unset] []))
  refine Goes.of (fun t k => XS.iconst X43.here hx rfl (hb hby d3_8) k) ?_
  show Goes _ _ _ _ _ _ _ (T43.setTop (mkF m 9 #[.val (.ref o), .val (.ref a), .val (.int z), .unset, .unset] [(.int (0 : Int32))]))
  refine Goes.of (fun t k => XS.istoreN X43.here hx rfl (hb hby d3_9) rfl (l' := #[.val (.ref o), .val (.ref a), .val (.int z), .val (.int (0 : Int32)), .unset]) rfl k) ?_
  show Goes _ _ _ _ _ _ _ (T43.setTop (mkF m 10 #[.val (.ref o), .val (.ref a), .val (.int z), .val (.int (0 : Int32)), .unset] []))
  have hn31 : n < 2147483648 := by obtain ⟨_, _, _, M, _⟩ := V_a; exact M
  have loop : ∀ (k : Nat), ∀ (i : Int32) (s4 : Slot) (Tloop : State) (lcloop : List Loc), Stand p l e ({ frames := 0, cells := 0, slots := 0, locals := 0 } : Room) s m #[(.ref o)] below meth c Tloop lcloop 0 0 → Tloop.heap = h0 → Fr n0 lcloop → One s4 → (i.toInt + (k : Nat) = n) → (0 ≤ i.toInt) → (own_cmp f n 0 = own_cmp f k i.toNatClampNeg) → Goes p.tables e below s (Q3 n f h0 n0) 0 0 (Tloop.setTop (mkF m 10 #[.val (.ref o), .val (.ref a), .val (.int z), .val (.int i), s4] [])) := by
    intro k
    induction k with
    | zero =>
      intro i s4 Tloop lcloop Xloop eloop Nloop hS_s4 hi hnn hh'
      have hlt : ¬ i < z := own_nlt (by omega)
      show Goes _ _ _ _ _ _ _ (Tloop.setTop (mkF m 10 #[.val (.ref o), .val (.ref a), .val (.int z), .val (.int i), s4] []))
      refine Goes.of (fun t k => XS.iloadN Xloop.here hx rfl (hb hby d3_10) rfl k) ?_
      show Goes _ _ _ _ _ _ _ (Tloop.setTop (mkF m 11 #[.val (.ref o), .val (.ref a), .val (.int z), .val (.int i), s4] [(.int i)]))
      refine Goes.of (fun t k => XS.iloadN Xloop.here hx rfl (hb hby d3_11) rfl k) ?_
      show Goes _ _ _ _ _ _ _ (Tloop.setTop (mkF m 12 #[.val (.ref o), .val (.ref a), .val (.int z), .val (.int i), s4] [(.int z), (.int i)]))
      refine Goes.of (fun t k => XS.icmpYes Xloop.here hx rfl (pc0 := 12) (pc' := 34) rfl (hb hby d3_12) rfl (flt hlt).2.1 (by decide) (by decide) k) ?_
      show Goes _ _ _ _ _ _ _ (Tloop.setTop (mkF m 34 #[.val (.ref o), .val (.ref a), .val (.int z), .val (.int i), s4] []))
      refine Goes.of (fun t k => XS.iconst Xloop.here hx rfl (hb hby d3_34) k) ?_
      show Goes _ _ _ _ _ _ _ (Tloop.setTop (mkF m 35 #[.val (.ref o), .val (.ref a), .val (.int z), .val (.int i), s4] [(.int (1 : Int32))]))
      exact Goes.fin Xloop hlk (v := some (.int (1 : Int32))) (fun h => by rw [Bd.returns] at h; cases h) (fun fs hr => retN Xloop hx (t := .boolean) Bd.returns (by simp) (hb hby d3_35) hr) ⟨congrArg (fun z => some (Value.int z)) (by rw [hh']; rfl), Nloop, eloop⟩ (by decide) (by decide)
    | succ k ih =>
      intro i s4 Tloop lcloop Xloop eloop Nloop hS_s4 hi hnn hh'
      have hlt : i < z := own_ilt (by omega)
      show Goes _ _ _ _ _ _ _ (Tloop.setTop (mkF m 10 #[.val (.ref o), .val (.ref a), .val (.int z), .val (.int i), s4] []))
      refine Goes.of (fun t k => XS.iloadN Xloop.here hx rfl (hb hby d3_10) rfl k) ?_
      show Goes _ _ _ _ _ _ _ (Tloop.setTop (mkF m 11 #[.val (.ref o), .val (.ref a), .val (.int z), .val (.int i), s4] [(.int i)]))
      refine Goes.of (fun t k => XS.iloadN Xloop.here hx rfl (hb hby d3_11) rfl k) ?_
      show Goes _ _ _ _ _ _ _ (Tloop.setTop (mkF m 12 #[.val (.ref o), .val (.ref a), .val (.int z), .val (.int i), s4] [(.int z), (.int i)]))
      refine Goes.of (fun t k => XS.icmpNo Xloop.here hx rfl (hb hby d3_12) rfl (tlt hlt).2.1 k) ?_
      show Goes _ _ _ _ _ _ _ (Tloop.setTop (mkF m 15 #[.val (.ref o), .val (.ref a), .val (.int z), .val (.int i), s4] []))
      refine Goes.of (fun t k => XS.aloadN Xloop.here hx rfl (hb hby d3_15) rfl rfl k) ?_
      show Goes _ _ _ _ _ _ _ (Tloop.setTop (mkF m 16 #[.val (.ref o), .val (.ref a), .val (.int z), .val (.int i), s4] [(.ref a)]))
      refine Goes.of (fun t k => XS.iloadN Xloop.here hx rfl (hb hby d3_16) rfl k) ?_
      show Goes _ _ _ _ _ _ _ (Tloop.setTop (mkF m 17 #[.val (.ref o), .val (.ref a), .val (.int z), .val (.int i), s4] [(.int i), (.ref a)]))
      refine Goes.of (fun t k => ldI Xloop hx hZ eloop V_a (j := i) (i := i.toNatClampNeg) (v := (f i.toNatClampNeg)) (own_nn (by omega)) rfl (own_ltn (by omega) (by omega)) rfl (g := (mkF m 17 #[.val (.ref o), .val (.ref a), .val (.int z), .val (.int i), s4] [(.int i), (.ref a)])) rfl rfl (hb hby d3_17) t k) ?_
      show Goes _ _ _ _ _ _ _ (Tloop.setTop (mkF m 18 #[.val (.ref o), .val (.ref a), .val (.int z), .val (.int i), s4] [(.int (f i.toNatClampNeg))]))
      refine Goes.of (fun t k => XS.istoreS Xloop.here hx rfl (hb hby d3_18) rfl rfl hS_s4 k) ?_
      show Goes _ _ _ _ _ _ _ (Tloop.setTop (mkF m 20 #[.val (.ref o), .val (.ref a), .val (.int z), .val (.int i), .val (.int (f i.toNatClampNeg))] []))
      refine Goes.of (fun t k => XS.iload Xloop.here hx rfl (hb hby d3_20) rfl k) ?_
      show Goes _ _ _ _ _ _ _ (Tloop.setTop (mkF m 22 #[.val (.ref o), .val (.ref a), .val (.int z), .val (.int i), .val (.int (f i.toNatClampNeg))] [(.int (f i.toNatClampNeg))]))
      refine Goes.of (fun t k => XS.iconst Xloop.here hx rfl (hb hby d3_22) k) ?_
      show Goes _ _ _ _ _ _ _ (Tloop.setTop (mkF m 23 #[.val (.ref o), .val (.ref a), .val (.int z), .val (.int i), .val (.int (f i.toNatClampNeg))] [(.int (-1 : Int32)), (.int (f i.toNatClampNeg))]))
      by_cases hc44 : (f i.toNatClampNeg) = (-1 : Int32)
      · refine Goes.of (fun t k => XS.icmpNo Xloop.here hx rfl (hb hby d3_23) rfl (teq hc44).2 k) ?_
        show Goes _ _ _ _ _ _ _ (Tloop.setTop (mkF m 26 #[.val (.ref o), .val (.ref a), .val (.int z), .val (.int i), .val (.int (f i.toNatClampNeg))] []))
        refine Goes.of (fun t k => XS.iconst Xloop.here hx rfl (hb hby d3_26) k) ?_
        show Goes _ _ _ _ _ _ _ (Tloop.setTop (mkF m 27 #[.val (.ref o), .val (.ref a), .val (.int z), .val (.int i), .val (.int (f i.toNatClampNeg))] [(.int (0 : Int32))]))
        exact Goes.fin Xloop hlk (v := some (.int (0 : Int32))) (fun h => by rw [Bd.returns] at h; cases h) (fun fs hr => retN Xloop hx (t := .boolean) Bd.returns (by simp) (hb hby d3_27) hr) ⟨congrArg (fun z => some (Value.int z)) (by rw [hh', own_cmp, if_pos hc44]), Nloop, eloop⟩ (by decide) (by decide)
      · refine Goes.of (fun t k => XS.icmpYes Xloop.here hx rfl (pc0 := 23) (pc' := 28) rfl (hb hby d3_23) rfl (feq hc44).2 (by decide) (by decide) k) ?_
        show Goes _ _ _ _ _ _ _ (Tloop.setTop (mkF m 28 #[.val (.ref o), .val (.ref a), .val (.int z), .val (.int i), .val (.int (f i.toNatClampNeg))] []))
        refine Goes.of (fun t k => XS.iinc Xloop.here hx rfl (hb hby d3_28) rfl (l' := #[.val (.ref o), .val (.ref a), .val (.int z), .val (.int (i + (1 : Int32))), .val (.int (f i.toNatClampNeg))]) rfl k) ?_
        show Goes _ _ _ _ _ _ _ (Tloop.setTop (mkF m 31 #[.val (.ref o), .val (.ref a), .val (.int z), .val (.int (i + (1 : Int32))), .val (.int (f i.toNatClampNeg))] []))
        refine Goes.of (fun t k => XS.goto Xloop.here hx rfl (pc0 := 31) (pc' := 10) rfl (hb hby d3_31) (by decide) (by decide) k) ?_
        show Goes _ _ _ _ _ _ _ (Tloop.setTop (mkF m 10 #[.val (.ref o), .val (.ref a), .val (.int z), .val (.int (i + (1 : Int32))), .val (.int (f i.toNatClampNeg))] []))
        exact ih (i + (1 : Int32)) (.val (.int (f i.toNatClampNeg))) _ _ Xloop eloop Nloop (One.val rfl) (by rw [own_inc (by omega)]; omega) (by rw [own_inc (by omega)]; omega) (by rw [own_tn (z := i + 1) (n := i.toNatClampNeg + 1) (by rw [own_inc (by omega)]; have := nat_of (own_nn hnn); omega), hh', own_cmp, if_neg hc44])
  exact loop n (0 : Int32) (.unset) _ _ X43 e43 N0 One.u (by rw [show (0 : Int32).toInt = 0 from rfl]; omega) (by decide) rfl
theorem own_3 (u : Int32) : (u &&& (3 : Int32)) = 0 ∨ (u &&& (3 : Int32)) = 1 ∨ (u &&& (3 : Int32)) = 2 ∨ (u &&& (3 : Int32)) = 3 := by
  have m := c_and u 3 (by decide)
  rw [show (3 : Int32).toInt = 3 from rfl] at m
  simp only [← Int32.toInt_inj, Int32.reduceToInt]
  omega
theorem pd_2 : parseMethodDescriptor "(II)I" = some ⟨[.int, .int], some .int⟩ := by decide +kernel
theorem pd_3 : parseMethodDescriptor "([I[I)V" = some ⟨[(.array .int), (.array .int)], none⟩ := by decide +kernel
theorem pd_4 : parseMethodDescriptor "()Z" = some ⟨[], some .boolean⟩ := by decide +kernel
theorem ef_0 (m : MethodId) (u0 : Int32) (u1 : Int32) (u2 : Int32) (u3 : Int32) (u4 : Int32) : entryFrame m #[(.int u0), (.int u1), (.int u2), (.int u3), (.int u4)] maxLocals = mkF m 0 #[.val (.int u0), .val (.int u1), .val (.int u2), .val (.int u3), .val (.int u4), .unset, .unset, .unset, .unset, .unset, .unset, .unset, .unset] [] := by first | (simp [entryFrame, mkF, argsToLocals, Value.category, maxLocals]; done) | rfl
def Q0 (n0 : Nat) (v : Option Value) (h : Heap) (L : List Loc) : Prop := v = some (.int 1) ∧ Fr n0 L
set_option maxRecDepth 65536 in
set_option maxHeartbeats 40000000 in
theorem rm0 (l : Launch) (Z : State) (a0 : Array Value) (hw : ∀ d ∈ tables_1, d.before a0 Z = true) (ws : List Jvm.Cond) (u0 : Int32) (u1 : Int32) (u2 : Int32) (u3 : Int32) (u4 : Int32) (h0 : Heap) (n0 : Nat) (Z0 : n0 ≤ h0.size) :
    MetFree l x (head1 (Jvm.Cond.code x code maxLocals ret :: ws) room_1) (fun ar' Ur => ar' = #[(.int u0), (.int u1), (.int u2), (.int u3), (.int u4)] ∧ Z.Warmed39 Ur.vm ∧ Ur.heap = h0) (fun _ _ _ _ _ => True) (fun _ Ur or' Us => ∃ v L, or' = .returned v ∧ Q0 n0 v Us.heap L ∧ FrameEnd Ur or' Us L room_1.cells room_1.slots) := by
  refine MetFree.of_bodySF (plainFor_of_name pn_0) hisR ?_
  intro p e s m args below meth c s₁ Bd hml0 hP hK
  obtain ⟨rfl, hZ, hh⟩ := hP
  have hx := Bd.exec
  have hby := Bd.bytes
  have hlk : meth.locks = false := BodyLoose.notSynchronized Bd
  have hml : c.maxLocals = 13 := hml0
  have hown : s.vm.findClass "com/example/slotwright/slotwright/problems/postenrolment/TimetableIsCompletePinLaw" = some m.cls := findClass_of_methodNamed Bd.named
  have hnm := (name_of_methodNamed Bd.named Bd.method).1
  have X0 : Stand p l e room_1 s m #[(.int u0), (.int u1), (.int u2), (.int u3), (.int u4)] below meth c s₁ [] 0 0 := Stand.of_body Bd
  have e0 : s₁.heap = h0 := by rw [← hh, Bd.state]; rfl
  have N0 := Fr.nil n0
  show Goes p.tables e below s (Q0 n0) room_1.cells room_1.slots (s₁.setTop (entryFrame m #[(.int u0), (.int u1), (.int u2), (.int u3), (.int u4)] maxLocals))
  refine Goes.of (fun t k => castTop (ef_0 m u0 u1 u2 u3 u4) k) ?_
  show Goes _ _ _ _ _ _ _ (s₁.setTop (mkF m 0 #[.val (.int u0), .val (.int u1), .val (.int u2), .val (.int u3), .val (.int u4), .unset, .unset, .unset, .unset, .unset, .unset, .unset, .unset] []))
  refine Goes.of (fun t k => XS.iloadN X0.here hx rfl (hb hby at_0) rfl k) ?_
  show Goes _ _ _ _ _ _ _ (s₁.setTop (mkF m 1 #[.val (.int u0), .val (.int u1), .val (.int u2), .val (.int u3), .val (.int u4), .unset, .unset, .unset, .unset, .unset, .unset, .unset, .unset] [(.int u0)]))
  refine Goes.of (fun t k => XS.iconst X0.here hx rfl (hb hby at_1) k) ?_
  show Goes _ _ _ _ _ _ _ (s₁.setTop (mkF m 2 #[.val (.int u0), .val (.int u1), .val (.int u2), .val (.int u3), .val (.int u4), .unset, .unset, .unset, .unset, .unset, .unset, .unset, .unset] [(.int (3 : Int32)), (.int u0)]))
  refine Goes.of (fun t k => XS.iand X0.here hx rfl (hb hby at_2) rfl k) ?_
  show Goes _ _ _ _ _ _ _ (s₁.setTop (mkF m 3 #[.val (.int u0), .val (.int u1), .val (.int u2), .val (.int u3), .val (.int u4), .unset, .unset, .unset, .unset, .unset, .unset, .unset, .unset] [(.int (u0 &&& (3 : Int32)))]))
  refine Goes.of (fun t k => XS.istore X0.here hx rfl (hb hby at_3) rfl (l' := #[.val (.int u0), .val (.int u1), .val (.int u2), .val (.int u3), .val (.int u4), .val (.int (u0 &&& (3 : Int32))), .unset, .unset, .unset, .unset, .unset, .unset, .unset]) rfl k) ?_
  show Goes _ _ _ _ _ _ _ (s₁.setTop (mkF m 5 #[.val (.int u0), .val (.int u1), .val (.int u2), .val (.int u3), .val (.int u4), .val (.int (u0 &&& (3 : Int32))), .unset, .unset, .unset, .unset, .unset, .unset, .unset] []))
  obtain ⟨zz, hy_zz⟩ : ∃ z, z = (u0 &&& (3 : Int32)) := ⟨_, rfl⟩
  rw [← hy_zz]
  show Goes _ _ _ _ _ _ _ (s₁.setTop (mkF m 5 #[.val (.int u0), .val (.int u1), .val (.int u2), .val (.int u3), .val (.int u4), .val (.int zz), .unset, .unset, .unset, .unset, .unset, .unset, .unset] []))
  have j45 : ∀ (T45 : State) (lc45 : List Loc) (t0 : Int32), Stand p l e room_1 s m #[(.int u0), (.int u1), (.int u2), (.int u3), (.int u4)] below meth c T45 lc45 0 0 → T45.heap = h0 → Fr n0 lc45 → Goes p.tables e below s (Q0 n0) room_1.cells room_1.slots (T45.setTop (mkF m 20 #[.val (.int u0), .val (.int u1), .val (.int u2), .val (.int u3), .val (.int u4), .val (.int zz), .val (.int t0), .unset, .unset, .unset, .unset, .unset, .unset] [])) := by
    intro T45 lc45 t0 X45 e45 N45 
    show Goes _ _ _ _ _ _ _ (T45.setTop (mkF m 20 #[.val (.int u0), .val (.int u1), .val (.int u2), .val (.int u3), .val (.int u4), .val (.int zz), .val (.int t0), .unset, .unset, .unset, .unset, .unset, .unset] []))
    have j46 : ∀ (T46 : State) (lc46 : List Loc) (t1 : Int32), Stand p l e room_1 s m #[(.int u0), (.int u1), (.int u2), (.int u3), (.int u4)] below meth c T46 lc46 0 0 → T46.heap = h0 → Fr n0 lc46 → Goes p.tables e below s (Q0 n0) room_1.cells room_1.slots (T46.setTop (mkF m 35 #[.val (.int u0), .val (.int u1), .val (.int u2), .val (.int u3), .val (.int u4), .val (.int zz), .val (.int t0), .val (.int t1), .unset, .unset, .unset, .unset, .unset] [])) := by
      intro T46 lc46 t1 X46 e46 N46 
      show Goes _ _ _ _ _ _ _ (T46.setTop (mkF m 35 #[.val (.int u0), .val (.int u1), .val (.int u2), .val (.int u3), .val (.int u4), .val (.int zz), .val (.int t0), .val (.int t1), .unset, .unset, .unset, .unset, .unset] []))
      have j47 : ∀ (T47 : State) (lc47 : List Loc) (t2 : Int32), Stand p l e room_1 s m #[(.int u0), (.int u1), (.int u2), (.int u3), (.int u4)] below meth c T47 lc47 0 0 → T47.heap = h0 → Fr n0 lc47 → Goes p.tables e below s (Q0 n0) room_1.cells room_1.slots (T47.setTop (mkF m 50 #[.val (.int u0), .val (.int u1), .val (.int u2), .val (.int u3), .val (.int u4), .val (.int zz), .val (.int t0), .val (.int t1), .val (.int t2), .unset, .unset, .unset, .unset] [])) := by
        intro T47 lc47 t2 X47 e47 N47 
        show Goes _ _ _ _ _ _ _ (T47.setTop (mkF m 50 #[.val (.int u0), .val (.int u1), .val (.int u2), .val (.int u3), .val (.int u4), .val (.int zz), .val (.int t0), .val (.int t1), .val (.int t2), .unset, .unset, .unset, .unset] []))
        have h3 := own_3 u0
        rw [← hy_zz] at h3
        rcases h3 with h3 | h3 | h3 | h3
        · rw [h3]
          show Goes _ _ _ _ _ _ _ (T47.setTop (mkF m 50 #[.val (.int u0), .val (.int u1), .val (.int u2), .val (.int u3), .val (.int u4), .val (.int (0 : Int32)), .val (.int t0), .val (.int t1), .val (.int t2), .unset, .unset, .unset, .unset] []))
          refine Goes.of (fun t k => XS.iload X47.here hx rfl (hb hby at_50) rfl k) ?_
          show Goes _ _ _ _ _ _ _ (T47.setTop (mkF m 52 #[.val (.int u0), .val (.int u1), .val (.int u2), .val (.int u3), .val (.int u4), .val (.int (0 : Int32)), .val (.int t0), .val (.int t1), .val (.int t2), .unset, .unset, .unset, .unset] [(.int (0 : Int32))]))
          obtain ⟨T48, h48, k48, X48, e48, E48, A48, Ea48, st48⟩ := newPE X47 hx hZ (hw _ (List.mem_of_getElem? (i := 0) rfl)) e47 (g := (mkF m 52 #[.val (.int u0), .val (.int u1), .val (.int u2), .val (.int u3), .val (.int u4), .val (.int (0 : Int32)), .val (.int t0), .val (.int t1), .val (.int t2), .unset, .unset, .unset, .unset] [(.int (0 : Int32))])) rfl (hb hby at_52) rfl (by decide) (cap := 0) (by decide) (by decide) (by decide) (by decide) (ad := "[I") (by decide)
          obtain ⟨b48, g48⟩ : ∃ z, z = h0.size := ⟨_, rfl⟩
          rw [← g48] at A48 Ea48 st48
          have V48 : AI Z h48 b48 .int 0 (fun _ => 0) := AI.new rfl rfl A48 (by decide) (by decide)
          have g_b48 : n0 ≤ b48 := Nat.le_trans Z0 (Nat.le_of_eq g48.symm)
          have Z48 : n0 ≤ h48.size := Nat.le_trans Z0 E48.1
          refine Goes.of st48 ?_
          show Goes _ _ _ _ _ _ _ (T48.setTop (mkF m 54 #[.val (.int u0), .val (.int u1), .val (.int u2), .val (.int u3), .val (.int u4), .val (.int (0 : Int32)), .val (.int t0), .val (.int t1), .val (.int t2), .unset, .unset, .unset, .unset] [(.ref b48)]))
          refine Goes.of (fun t k => XS.astore X48.here hx rfl (hb hby at_54) rfl rfl (l' := #[.val (.int u0), .val (.int u1), .val (.int u2), .val (.int u3), .val (.int u4), .val (.int (0 : Int32)), .val (.int t0), .val (.int t1), .val (.int t2), .val (.ref b48), .unset, .unset, .unset]) rfl k) ?_
          show Goes _ _ _ _ _ _ _ (T48.setTop (mkF m 56 #[.val (.int u0), .val (.int u1), .val (.int u2), .val (.int u3), .val (.int u4), .val (.int (0 : Int32)), .val (.int t0), .val (.int t1), .val (.int t2), .val (.ref b48), .unset, .unset, .unset] []))
          refine Goes.of (fun t k => XS.iload X48.here hx rfl (hb hby at_56) rfl k) ?_
          show Goes _ _ _ _ _ _ _ (T48.setTop (mkF m 58 #[.val (.int u0), .val (.int u1), .val (.int u2), .val (.int u3), .val (.int u4), .val (.int (0 : Int32)), .val (.int t0), .val (.int t1), .val (.int t2), .val (.ref b48), .unset, .unset, .unset] [(.int (0 : Int32))]))
          obtain ⟨T49, h49, k49, X49, e49, E49, A49, Ea49, st49⟩ := newPE X48 hx hZ (hw _ (List.mem_of_getElem? (i := 0) rfl)) e48 (g := (mkF m 58 #[.val (.int u0), .val (.int u1), .val (.int u2), .val (.int u3), .val (.int u4), .val (.int (0 : Int32)), .val (.int t0), .val (.int t1), .val (.int t2), .val (.ref b48), .unset, .unset, .unset] [(.int (0 : Int32))])) rfl (hb hby at_58) rfl (by decide) (cap := 0) (by decide) (by decide) (by decide) (by decide) (ad := "[I") (by decide)
          obtain ⟨b49, g49⟩ : ∃ z, z = h48.size := ⟨_, rfl⟩
          rw [← g49] at A49 Ea49 st49
          have V49 : AI Z h49 b49 .int 0 (fun _ => 0) := AI.new rfl rfl A49 (by decide) (by decide)
          have ne_b48_b49 : b48 ≠ b49 := Nat.ne_of_lt (Nat.lt_of_lt_of_le V48.lt (Nat.le_of_eq g49.symm))
          have g_b49 : n0 ≤ b49 := Nat.le_trans Z48 (Nat.le_of_eq g49.symm)
          have F50 := V48.ext E49
          have F51 := Exa.ext E49 Ea48
          have Z49 : n0 ≤ h49.size := Nat.le_trans Z48 E49.1
          refine Goes.of st49 ?_
          show Goes _ _ _ _ _ _ _ (T49.setTop (mkF m 60 #[.val (.int u0), .val (.int u1), .val (.int u2), .val (.int u3), .val (.int u4), .val (.int (0 : Int32)), .val (.int t0), .val (.int t1), .val (.int t2), .val (.ref b48), .unset, .unset, .unset] [(.ref b49)]))
          refine Goes.of (fun t k => XS.astore X49.here hx rfl (hb hby at_60) rfl rfl (l' := #[.val (.int u0), .val (.int u1), .val (.int u2), .val (.int u3), .val (.int u4), .val (.int (0 : Int32)), .val (.int t0), .val (.int t1), .val (.int t2), .val (.ref b48), .val (.ref b49), .unset, .unset]) rfl k) ?_
          show Goes _ _ _ _ _ _ _ (T49.setTop (mkF m 62 #[.val (.int u0), .val (.int u1), .val (.int u2), .val (.int u3), .val (.int u4), .val (.int (0 : Int32)), .val (.int t0), .val (.int t1), .val (.int t2), .val (.ref b48), .val (.ref b49), .unset, .unset] []))
          refine Goes.of (fun t k => XS.iload X49.here hx rfl (hb hby at_62) rfl k) ?_
          show Goes _ _ _ _ _ _ _ (T49.setTop (mkF m 64 #[.val (.int u0), .val (.int u1), .val (.int u2), .val (.int u3), .val (.int u4), .val (.int (0 : Int32)), .val (.int t0), .val (.int t1), .val (.int t2), .val (.ref b48), .val (.ref b49), .unset, .unset] [(.int (0 : Int32))]))
          refine Goes.of (fun t k => XS.ifYes X49.here hx rfl (pc0 := 64) (pc' := 84) rfl (hb hby at_64) rfl ((if0 _ _).trans (flt (by decide : ¬ ((0 : Int32) < (0 : Int32)))).2.2.2) (by decide) (by decide) k) ?_
          show Goes _ _ _ _ _ _ _ (T49.setTop (mkF m 84 #[.val (.int u0), .val (.int u1), .val (.int u2), .val (.int u3), .val (.int u4), .val (.int (0 : Int32)), .val (.int t0), .val (.int t1), .val (.int t2), .val (.ref b48), .val (.ref b49), .unset, .unset] []))
          refine Goes.of (fun t k => XS.iload X49.here hx rfl (hb hby at_84) rfl k) ?_
          show Goes _ _ _ _ _ _ _ (T49.setTop (mkF m 86 #[.val (.int u0), .val (.int u1), .val (.int u2), .val (.int u3), .val (.int u4), .val (.int (0 : Int32)), .val (.int t0), .val (.int t1), .val (.int t2), .val (.ref b48), .val (.ref b49), .unset, .unset] [(.int (0 : Int32))]))
          refine Goes.of (fun t k => XS.iconst X49.here hx rfl (hb hby at_86) k) ?_
          show Goes _ _ _ _ _ _ _ (T49.setTop (mkF m 87 #[.val (.int u0), .val (.int u1), .val (.int u2), .val (.int u3), .val (.int u4), .val (.int (0 : Int32)), .val (.int t0), .val (.int t1), .val (.int t2), .val (.ref b48), .val (.ref b49), .unset, .unset] [(.int (1 : Int32)), (.int (0 : Int32))]))
          refine Goes.of (fun t k => XS.icmpYes X49.here hx rfl (pc0 := 87) (pc' := 107) rfl (hb hby at_87) rfl (flt (by decide : ¬ ((1 : Int32) < (0 : Int32)))).2.2.2 (by decide) (by decide) k) ?_
          show Goes _ _ _ _ _ _ _ (T49.setTop (mkF m 107 #[.val (.int u0), .val (.int u1), .val (.int u2), .val (.int u3), .val (.int u4), .val (.int (0 : Int32)), .val (.int t0), .val (.int t1), .val (.int t2), .val (.ref b48), .val (.ref b49), .unset, .unset] []))
          refine Goes.of (fun t k => XS.iload X49.here hx rfl (hb hby at_107) rfl k) ?_
          show Goes _ _ _ _ _ _ _ (T49.setTop (mkF m 109 #[.val (.int u0), .val (.int u1), .val (.int u2), .val (.int u3), .val (.int u4), .val (.int (0 : Int32)), .val (.int t0), .val (.int t1), .val (.int t2), .val (.ref b48), .val (.ref b49), .unset, .unset] [(.int (0 : Int32))]))
          refine Goes.of (fun t k => XS.iconst X49.here hx rfl (hb hby at_109) k) ?_
          show Goes _ _ _ _ _ _ _ (T49.setTop (mkF m 110 #[.val (.int u0), .val (.int u1), .val (.int u2), .val (.int u3), .val (.int u4), .val (.int (0 : Int32)), .val (.int t0), .val (.int t1), .val (.int t2), .val (.ref b48), .val (.ref b49), .unset, .unset] [(.int (2 : Int32)), (.int (0 : Int32))]))
          refine Goes.of (fun t k => XS.icmpYes X49.here hx rfl (pc0 := 110) (pc' := 130) rfl (hb hby at_110) rfl (flt (by decide : ¬ ((2 : Int32) < (0 : Int32)))).2.2.2 (by decide) (by decide) k) ?_
          show Goes _ _ _ _ _ _ _ (T49.setTop (mkF m 130 #[.val (.int u0), .val (.int u1), .val (.int u2), .val (.int u3), .val (.int u4), .val (.int (0 : Int32)), .val (.int t0), .val (.int t1), .val (.int t2), .val (.ref b48), .val (.ref b49), .unset, .unset] []))
          obtain ⟨ff, hf_ff⟩ : ∃ f : Nat → Int32, f = (fun _ => 0) := ⟨_, rfl⟩
          rw [← hf_ff] at F50
          obtain ⟨gg, hf_gg⟩ : ∃ f : Nat → Int32, f = (fun _ => 0) := ⟨_, rfl⟩
          rw [← hf_gg] at V49
          obtain ⟨T52, h52, X52, e52, E52, A52, D52, -, st52⟩ := newO X49 hx hZ hown (hw _ (List.mem_of_getElem? (i := 1) rfl)) (hw _ (List.mem_of_getElem? (i := 2) rfl)) (hw _ (List.mem_of_getElem? (i := 3) rfl)) e49 (g := (mkF m 130 #[.val (.int u0), .val (.int u1), .val (.int u2), .val (.int u3), .val (.int u4), .val (.int (0 : Int32)), .val (.int t0), .val (.int t1), .val (.int t2), .val (.ref b48), .val (.ref b49), .unset, .unset] [])) rfl (hb hby at_130) (by decide) (by decide)
          obtain ⟨b52, g52⟩ : ∃ z, z = h49.size := ⟨_, rfl⟩
          rw [← g52] at A52 D52 st52
          have ne_b48_b52 : b48 ≠ b52 := Nat.ne_of_lt (Nat.lt_of_lt_of_le F50.lt (Nat.le_of_eq g52.symm))
          have ne_b49_b52 : b49 ≠ b52 := Nat.ne_of_lt (Nat.lt_of_lt_of_le V49.lt (Nat.le_of_eq g52.symm))
          have g_b52 : n0 ≤ b52 := Nat.le_trans Z49 (Nat.le_of_eq g52.symm)
          have F53 := F50.ext E52
          have F54 := Exa.ext E52 F51
          have F55 := V49.ext E52
          have F56 := Exa.ext E52 Ea49
          have Z52 : n0 ≤ h52.size := Nat.le_trans Z49 E52.1
          have F_timeslots_b52 : Fld Z h52 b52 "com/example/slotwright/slotwright/problems/postenrolment/Timetable" "timeslots" "[I" .null := D52 (Or.inr (hw _ (List.mem_of_getElem? (i := 20) rfl))) (ty := (.array .int)) (by decide)
          have F_rooms_b52 : Fld Z h52 b52 "com/example/slotwright/slotwright/problems/postenrolment/Timetable" "rooms" "[I" .null := D52 (Or.inr (hw _ (List.mem_of_getElem? (i := 22) rfl))) (ty := (.array .int)) (by decide)
          refine Goes.of st52 ?_
          show Goes _ _ _ _ _ _ _ (T52.setTop (mkF m 133 #[.val (.int u0), .val (.int u1), .val (.int u2), .val (.int u3), .val (.int u4), .val (.int (0 : Int32)), .val (.int t0), .val (.int t1), .val (.int t2), .val (.ref b48), .val (.ref b49), .unset, .unset] [(.ref b52)]))
          refine Goes.of (fun t k => XS.dup X52.here hx rfl (hb hby at_133) rfl rfl k) ?_
          show Goes _ _ _ _ _ _ _ (T52.setTop (mkF m 134 #[.val (.int u0), .val (.int u1), .val (.int u2), .val (.int u3), .val (.int u4), .val (.int (0 : Int32)), .val (.int t0), .val (.int t1), .val (.int t2), .val (.ref b48), .val (.ref b49), .unset, .unset] [(.ref b52), (.ref b52)]))
          refine Goes.of (fun t k => XS.aload X52.here hx rfl (hb hby at_134) rfl rfl k) ?_
          show Goes _ _ _ _ _ _ _ (T52.setTop (mkF m 136 #[.val (.int u0), .val (.int u1), .val (.int u2), .val (.int u3), .val (.int u4), .val (.int (0 : Int32)), .val (.int t0), .val (.int t1), .val (.int t2), .val (.ref b48), .val (.ref b49), .unset, .unset] [(.ref b48), (.ref b52), (.ref b52)]))
          refine Goes.of (fun t k => XS.aload X52.here hx rfl (hb hby at_136) rfl rfl k) ?_
          show Goes _ _ _ _ _ _ _ (T52.setTop (mkF m 138 #[.val (.int u0), .val (.int u1), .val (.int u2), .val (.int u3), .val (.int u4), .val (.int (0 : Int32)), .val (.int t0), .val (.int t1), .val (.int t2), .val (.ref b48), .val (.ref b49), .unset, .unset] [(.ref b49), (.ref b48), (.ref b52), (.ref b52)]))
          obtain ⟨_, _, ⟨T57, L57, k57, n57⟩, -, X57, ⟨Lc57, hQ57, l57, y57, z57⟩, st57⟩ := X52.specialBack hx (y := (⟨"com/example/slotwright/slotwright/problems/postenrolment/Timetable", "<init>", "([I[I)V"⟩ : MethodName)) rfl hown (mvT hZ (hw _ (List.mem_of_getElem? (i := 4) rfl))) (mvT hZ (hw _ (List.mem_of_getElem? (i := 5) rfl))) (mvT hZ (hw _ (List.mem_of_getElem? (i := 6) rfl))) (by decide) (backOf (W := 1) (rm1 l Z a0 hw [] b52 b48 b49 0 (0 : Int32) ff gg h52 n0 Z52 A52 F_timeslots_b52 F_rooms_b52 g_b52 F53 F55 F54 F56 (Ne.symm ne_b48_b52) (Ne.symm ne_b49_b52) (by decide) (by decide)) hZ (hw _ (List.mem_of_getElem? (i := 6) rfl)) (hw _ (List.mem_of_getElem? (i := 3) rfl)) (by decide) (by decide)) (g := (mkF m 138 #[.val (.int u0), .val (.int u1), .val (.int u2), .val (.int u3), .val (.int u4), .val (.int (0 : Int32)), .val (.int t0), .val (.int t1), .val (.int t2), .val (.ref b48), .val (.ref b49), .unset, .unset] [(.ref b49), (.ref b48), (.ref b52), (.ref b52)])) rfl (by rw [hml]; rfl) (Steps.refl _) (a := b52) (argsL := [(.ref b48), (.ref b49)]) (rest := [(.ref b52)]) (lenOf pd_3 rfl) rfl (by show 2 * 0 + _ ≤ _; exact Nat.le_of_eq rfl) (hb hby at_138) (fun _ _ => ⟨rfl, e52, (by decide : 3 + 2 ≤ _), (by decide : 2 + 6 ≤ _)⟩)
          dsimp only [Pt.U, Pt.locs, Pt.cells, Pt.slots] at X57 l57 y57 z57 st57 hQ57
          subst l57 y57 z57
          obtain ⟨rfl, N57q, ta57, K57, sz57, Eo57, Ft57, Vt57⟩ := hQ57
          have F58 := F53.keep K57 (ninS ne_b48_b52 nin0)
          have F59 := F54.keep K57
          have F60 := F55.keep K57 (ninS ne_b49_b52 nin0)
          have F61 := F56.keep K57
          have F62 := A52.keep K57
          have Z57 : n0 ≤ T57.heap.size := Nat.le_trans Z52 K57.1
          have N57 := Fr.app N47 N57q
          refine Goes.of (fun t k => st57.trans k) ?_
          show Goes _ _ _ _ _ _ _ (T57.setTop (mkF m 141 #[.val (.int u0), .val (.int u1), .val (.int u2), .val (.int u3), .val (.int u4), .val (.int (0 : Int32)), .val (.int t0), .val (.int t1), .val (.int t2), .val (.ref b48), .val (.ref b49), .unset, .unset] [(.ref b52)]))
          refine Goes.of (fun t k => XS.astore X57.here hx rfl (hb hby at_141) rfl rfl (l' := #[.val (.int u0), .val (.int u1), .val (.int u2), .val (.int u3), .val (.int u4), .val (.int (0 : Int32)), .val (.int t0), .val (.int t1), .val (.int t2), .val (.ref b48), .val (.ref b49), .val (.ref b52), .unset]) rfl k) ?_
          show Goes _ _ _ _ _ _ _ (T57.setTop (mkF m 143 #[.val (.int u0), .val (.int u1), .val (.int u2), .val (.int u3), .val (.int u4), .val (.int (0 : Int32)), .val (.int t0), .val (.int t1), .val (.int t2), .val (.ref b48), .val (.ref b49), .val (.ref b52), .unset] []))
          refine Goes.of (fun t k => XS.iload X57.here hx rfl (hb hby at_143) rfl k) ?_
          show Goes _ _ _ _ _ _ _ (T57.setTop (mkF m 145 #[.val (.int u0), .val (.int u1), .val (.int u2), .val (.int u3), .val (.int u4), .val (.int (0 : Int32)), .val (.int t0), .val (.int t1), .val (.int t2), .val (.ref b48), .val (.ref b49), .val (.ref b52), .unset] [(.int (0 : Int32))]))
          refine Goes.of (fun t k => XS.ifYes X57.here hx rfl (pc0 := 145) (pc' := 154) rfl (hb hby at_145) rfl ((if0 _ _).trans (flt (by decide : ¬ ((0 : Int32) < (0 : Int32)))).2.2.2) (by decide) (by decide) k) ?_
          show Goes _ _ _ _ _ _ _ (T57.setTop (mkF m 154 #[.val (.int u0), .val (.int u1), .val (.int u2), .val (.int u3), .val (.int u4), .val (.int (0 : Int32)), .val (.int t0), .val (.int t1), .val (.int t2), .val (.ref b48), .val (.ref b49), .val (.ref b52), .unset] []))
          refine Goes.of (fun t k => XS.iload X57.here hx rfl (hb hby at_154) rfl k) ?_
          show Goes _ _ _ _ _ _ _ (T57.setTop (mkF m 156 #[.val (.int u0), .val (.int u1), .val (.int u2), .val (.int u3), .val (.int u4), .val (.int (0 : Int32)), .val (.int t0), .val (.int t1), .val (.int t2), .val (.ref b48), .val (.ref b49), .val (.ref b52), .unset] [(.int (0 : Int32))]))
          refine Goes.of (fun t k => XS.iconst X57.here hx rfl (hb hby at_156) k) ?_
          show Goes _ _ _ _ _ _ _ (T57.setTop (mkF m 157 #[.val (.int u0), .val (.int u1), .val (.int u2), .val (.int u3), .val (.int u4), .val (.int (0 : Int32)), .val (.int t0), .val (.int t1), .val (.int t2), .val (.ref b48), .val (.ref b49), .val (.ref b52), .unset] [(.int (1 : Int32)), (.int (0 : Int32))]))
          refine Goes.of (fun t k => XS.icmpYes X57.here hx rfl (pc0 := 157) (pc' := 166) rfl (hb hby at_157) rfl (flt (by decide : ¬ ((1 : Int32) < (0 : Int32)))).2.2.2 (by decide) (by decide) k) ?_
          show Goes _ _ _ _ _ _ _ (T57.setTop (mkF m 166 #[.val (.int u0), .val (.int u1), .val (.int u2), .val (.int u3), .val (.int u4), .val (.int (0 : Int32)), .val (.int t0), .val (.int t1), .val (.int t2), .val (.ref b48), .val (.ref b49), .val (.ref b52), .unset] []))
          refine Goes.of (fun t k => XS.iload X57.here hx rfl (hb hby at_166) rfl k) ?_
          show Goes _ _ _ _ _ _ _ (T57.setTop (mkF m 168 #[.val (.int u0), .val (.int u1), .val (.int u2), .val (.int u3), .val (.int u4), .val (.int (0 : Int32)), .val (.int t0), .val (.int t1), .val (.int t2), .val (.ref b48), .val (.ref b49), .val (.ref b52), .unset] [(.int (0 : Int32))]))
          refine Goes.of (fun t k => XS.iconst X57.here hx rfl (hb hby at_168) k) ?_
          show Goes _ _ _ _ _ _ _ (T57.setTop (mkF m 169 #[.val (.int u0), .val (.int u1), .val (.int u2), .val (.int u3), .val (.int u4), .val (.int (0 : Int32)), .val (.int t0), .val (.int t1), .val (.int t2), .val (.ref b48), .val (.ref b49), .val (.ref b52), .unset] [(.int (2 : Int32)), (.int (0 : Int32))]))
          refine Goes.of (fun t k => XS.icmpYes X57.here hx rfl (pc0 := 169) (pc' := 178) rfl (hb hby at_169) rfl (flt (by decide : ¬ ((2 : Int32) < (0 : Int32)))).2.2.2 (by decide) (by decide) k) ?_
          show Goes _ _ _ _ _ _ _ (T57.setTop (mkF m 178 #[.val (.int u0), .val (.int u1), .val (.int u2), .val (.int u3), .val (.int u4), .val (.int (0 : Int32)), .val (.int t0), .val (.int t1), .val (.int t2), .val (.ref b48), .val (.ref b49), .val (.ref b52), .unset] []))
          refine Goes.of (fun t k => XS.iconst X57.here hx rfl (hb hby at_178) k) ?_
          show Goes _ _ _ _ _ _ _ (T57.setTop (mkF m 179 #[.val (.int u0), .val (.int u1), .val (.int u2), .val (.int u3), .val (.int u4), .val (.int (0 : Int32)), .val (.int t0), .val (.int t1), .val (.int t2), .val (.ref b48), .val (.ref b49), .val (.ref b52), .unset] [(.int (1 : Int32))]))
          refine Goes.of (fun t k => XS.goto X57.here hx rfl (pc0 := 179) (pc' := 183) rfl (hb hby at_179) (by decide) (by decide) k) ?_
          show Goes _ _ _ _ _ _ _ (T57.setTop (mkF m 183 #[.val (.int u0), .val (.int u1), .val (.int u2), .val (.int u3), .val (.int u4), .val (.int (0 : Int32)), .val (.int t0), .val (.int t1), .val (.int t2), .val (.ref b48), .val (.ref b49), .val (.ref b52), .unset] [(.int (1 : Int32))]))
          refine Goes.of (fun t k => XS.istore X57.here hx rfl (hb hby at_183) rfl (l' := #[.val (.int u0), .val (.int u1), .val (.int u2), .val (.int u3), .val (.int u4), .val (.int (0 : Int32)), .val (.int t0), .val (.int t1), .val (.int t2), .val (.ref b48), .val (.ref b49), .val (.ref b52), .val (.int (1 : Int32))]) rfl k) ?_
          show Goes _ _ _ _ _ _ _ (T57.setTop (mkF m 185 #[.val (.int u0), .val (.int u1), .val (.int u2), .val (.int u3), .val (.int u4), .val (.int (0 : Int32)), .val (.int t0), .val (.int t1), .val (.int t2), .val (.ref b48), .val (.ref b49), .val (.ref b52), .val (.int (1 : Int32))] []))
          refine Goes.of (fun t k => XS.aload X57.here hx rfl (hb hby at_185) rfl rfl k) ?_
          show Goes _ _ _ _ _ _ _ (T57.setTop (mkF m 187 #[.val (.int u0), .val (.int u1), .val (.int u2), .val (.int u3), .val (.int u4), .val (.int (0 : Int32)), .val (.int t0), .val (.int t1), .val (.int t2), .val (.ref b48), .val (.ref b49), .val (.ref b52), .val (.int (1 : Int32))] [(.ref b52)]))
          obtain ⟨cq63, kq63, q63a, q63b, q63c⟩ := isOf hZ rfl Eo57
          obtain ⟨_, _, ⟨T63, L63, k63, n63⟩, -, X63, ⟨Lc63, hQ63, l63, y63, z63⟩, st63⟩ := X57.virtualBack hx (y := (⟨"com/example/slotwright/slotwright/problems/postenrolment/Timetable", "isComplete", "()Z"⟩ : MethodName)) (z := (⟨"com/example/slotwright/slotwright/problems/postenrolment/Timetable", "isComplete", "()Z"⟩ : MethodName)) hown (mvT hZ (hw _ (List.mem_of_getElem? (i := 23) rfl))) (mvT hZ (hw _ (List.mem_of_getElem? (i := 24) rfl))) (notFace_of_selects (args := #[]) (mvT hZ (hw _ (List.mem_of_getElem? (i := 26) rfl)))) (mvT hZ (hw _ (List.mem_of_getElem? (i := 26) rfl))) (mvT hZ (hw _ (List.mem_of_getElem? (i := 25) rfl))) (by decide) (backOf (W := 0) (rm3 l Z a0 hw [] b52 ta57 0 (0 : Int32) ff T57.heap n0 Z57 Ft57 Vt57 (by decide)) hZ (hw _ (List.mem_of_getElem? (i := 27) rfl)) (hw _ (List.mem_of_getElem? (i := 3) rfl)) (by decide) (by decide)) q63a q63c (g := (mkF m 187 #[.val (.int u0), .val (.int u1), .val (.int u2), .val (.int u3), .val (.int u4), .val (.int (0 : Int32)), .val (.int t0), .val (.int t1), .val (.int t2), .val (.ref b48), .val (.ref b49), .val (.ref b52), .val (.int (1 : Int32))] [(.ref b52)])) rfl (by rw [hml]; rfl) (Steps.refl _) (argsL := []) (rest := []) (lenOf pd_4 rfl) rfl (by show 2 * 0 + _ ≤ _; exact Nat.le_of_eq rfl) (hb hby at_187) (fun _ _ => ⟨rfl, rfl, (by decide : 5 + 0 ≤ _), (by decide : 8 + 0 ≤ _)⟩)
          dsimp only [Pt.U, Pt.locs, Pt.cells, Pt.slots] at X63 l63 y63 z63 st63 hQ63
          subst l63 y63 z63
          obtain ⟨rfl, N63q, e63⟩ := hQ63
          have N63 := Fr.app N57 N63q
          refine Goes.of (fun t k => st63.trans k) ?_
          show Goes _ _ _ _ _ _ _ (T63.setTop (mkF m 190 #[.val (.int u0), .val (.int u1), .val (.int u2), .val (.int u3), .val (.int u4), .val (.int (0 : Int32)), .val (.int t0), .val (.int t1), .val (.int t2), .val (.ref b48), .val (.ref b49), .val (.ref b52), .val (.int (1 : Int32))] [(.int (own_cmp ff 0 0))]))
          refine Goes.of (fun t k => XS.iload X63.here hx rfl (hb hby at_190) rfl k) ?_
          show Goes _ _ _ _ _ _ _ (T63.setTop (mkF m 192 #[.val (.int u0), .val (.int u1), .val (.int u2), .val (.int u3), .val (.int u4), .val (.int (0 : Int32)), .val (.int t0), .val (.int t1), .val (.int t2), .val (.ref b48), .val (.ref b49), .val (.ref b52), .val (.int (1 : Int32))] [(.int (1 : Int32)), (.int (own_cmp ff 0 0))]))
          refine Goes.of (fun t k => XS.icmpNo X63.here hx rfl (hb hby at_192) rfl (teq (by rw [hf_ff]; show (1 : Int32) = _; rfl)).2 k) ?_
          show Goes _ _ _ _ _ _ _ (T63.setTop (mkF m 195 #[.val (.int u0), .val (.int u1), .val (.int u2), .val (.int u3), .val (.int u4), .val (.int (0 : Int32)), .val (.int t0), .val (.int t1), .val (.int t2), .val (.ref b48), .val (.ref b49), .val (.ref b52), .val (.int (1 : Int32))] []))
          refine Goes.of (fun t k => XS.iconst X63.here hx rfl (hb hby at_195) k) ?_
          show Goes _ _ _ _ _ _ _ (T63.setTop (mkF m 196 #[.val (.int u0), .val (.int u1), .val (.int u2), .val (.int u3), .val (.int u4), .val (.int (0 : Int32)), .val (.int t0), .val (.int t1), .val (.int t2), .val (.ref b48), .val (.ref b49), .val (.ref b52), .val (.int (1 : Int32))] [(.int (1 : Int32))]))
          refine Goes.of (fun t k => XS.goto X63.here hx rfl (pc0 := 196) (pc' := 200) rfl (hb hby at_196) (by decide) (by decide) k) ?_
          show Goes _ _ _ _ _ _ _ (T63.setTop (mkF m 200 #[.val (.int u0), .val (.int u1), .val (.int u2), .val (.int u3), .val (.int u4), .val (.int (0 : Int32)), .val (.int t0), .val (.int t1), .val (.int t2), .val (.ref b48), .val (.ref b49), .val (.ref b52), .val (.int (1 : Int32))] [(.int (1 : Int32))]))
          exact Goes.fin X63 hlk (v := some (.int (1 : Int32))) (fun h => by rw [Bd.returns] at h; cases h) (fun fs hr => retN X63 hx (t := .boolean) Bd.returns (by simp) (hb hby at_200) hr) ⟨rfl, N63⟩ (by decide) (by decide)
        · rw [h3]
          show Goes _ _ _ _ _ _ _ (T47.setTop (mkF m 50 #[.val (.int u0), .val (.int u1), .val (.int u2), .val (.int u3), .val (.int u4), .val (.int (1 : Int32)), .val (.int t0), .val (.int t1), .val (.int t2), .unset, .unset, .unset, .unset] []))
          refine Goes.of (fun t k => XS.iload X47.here hx rfl (hb hby at_50) rfl k) ?_
          show Goes _ _ _ _ _ _ _ (T47.setTop (mkF m 52 #[.val (.int u0), .val (.int u1), .val (.int u2), .val (.int u3), .val (.int u4), .val (.int (1 : Int32)), .val (.int t0), .val (.int t1), .val (.int t2), .unset, .unset, .unset, .unset] [(.int (1 : Int32))]))
          obtain ⟨T64, h64, k64, X64, e64, E64, A64, Ea64, st64⟩ := newPE X47 hx hZ (hw _ (List.mem_of_getElem? (i := 0) rfl)) e47 (g := (mkF m 52 #[.val (.int u0), .val (.int u1), .val (.int u2), .val (.int u3), .val (.int u4), .val (.int (1 : Int32)), .val (.int t0), .val (.int t1), .val (.int t2), .unset, .unset, .unset, .unset] [(.int (1 : Int32))])) rfl (hb hby at_52) rfl (by decide) (cap := 1) (by decide) (by decide) (by decide) (by decide) (ad := "[I") (by decide)
          obtain ⟨b64, g64⟩ : ∃ z, z = h0.size := ⟨_, rfl⟩
          rw [← g64] at A64 Ea64 st64
          have V64 : AI Z h64 b64 .int 1 (fun _ => 0) := AI.new rfl rfl A64 (by decide) (by decide)
          have g_b64 : n0 ≤ b64 := Nat.le_trans Z0 (Nat.le_of_eq g64.symm)
          have Z64 : n0 ≤ h64.size := Nat.le_trans Z0 E64.1
          refine Goes.of st64 ?_
          show Goes _ _ _ _ _ _ _ (T64.setTop (mkF m 54 #[.val (.int u0), .val (.int u1), .val (.int u2), .val (.int u3), .val (.int u4), .val (.int (1 : Int32)), .val (.int t0), .val (.int t1), .val (.int t2), .unset, .unset, .unset, .unset] [(.ref b64)]))
          refine Goes.of (fun t k => XS.astore X64.here hx rfl (hb hby at_54) rfl rfl (l' := #[.val (.int u0), .val (.int u1), .val (.int u2), .val (.int u3), .val (.int u4), .val (.int (1 : Int32)), .val (.int t0), .val (.int t1), .val (.int t2), .val (.ref b64), .unset, .unset, .unset]) rfl k) ?_
          show Goes _ _ _ _ _ _ _ (T64.setTop (mkF m 56 #[.val (.int u0), .val (.int u1), .val (.int u2), .val (.int u3), .val (.int u4), .val (.int (1 : Int32)), .val (.int t0), .val (.int t1), .val (.int t2), .val (.ref b64), .unset, .unset, .unset] []))
          refine Goes.of (fun t k => XS.iload X64.here hx rfl (hb hby at_56) rfl k) ?_
          show Goes _ _ _ _ _ _ _ (T64.setTop (mkF m 58 #[.val (.int u0), .val (.int u1), .val (.int u2), .val (.int u3), .val (.int u4), .val (.int (1 : Int32)), .val (.int t0), .val (.int t1), .val (.int t2), .val (.ref b64), .unset, .unset, .unset] [(.int (1 : Int32))]))
          obtain ⟨T65, h65, k65, X65, e65, E65, A65, Ea65, st65⟩ := newPE X64 hx hZ (hw _ (List.mem_of_getElem? (i := 0) rfl)) e64 (g := (mkF m 58 #[.val (.int u0), .val (.int u1), .val (.int u2), .val (.int u3), .val (.int u4), .val (.int (1 : Int32)), .val (.int t0), .val (.int t1), .val (.int t2), .val (.ref b64), .unset, .unset, .unset] [(.int (1 : Int32))])) rfl (hb hby at_58) rfl (by decide) (cap := 1) (by decide) (by decide) (by decide) (by decide) (ad := "[I") (by decide)
          obtain ⟨b65, g65⟩ : ∃ z, z = h64.size := ⟨_, rfl⟩
          rw [← g65] at A65 Ea65 st65
          have V65 : AI Z h65 b65 .int 1 (fun _ => 0) := AI.new rfl rfl A65 (by decide) (by decide)
          have ne_b64_b65 : b64 ≠ b65 := Nat.ne_of_lt (Nat.lt_of_lt_of_le V64.lt (Nat.le_of_eq g65.symm))
          have g_b65 : n0 ≤ b65 := Nat.le_trans Z64 (Nat.le_of_eq g65.symm)
          have F66 := V64.ext E65
          have F67 := Exa.ext E65 Ea64
          have Z65 : n0 ≤ h65.size := Nat.le_trans Z64 E65.1
          refine Goes.of st65 ?_
          show Goes _ _ _ _ _ _ _ (T65.setTop (mkF m 60 #[.val (.int u0), .val (.int u1), .val (.int u2), .val (.int u3), .val (.int u4), .val (.int (1 : Int32)), .val (.int t0), .val (.int t1), .val (.int t2), .val (.ref b64), .unset, .unset, .unset] [(.ref b65)]))
          refine Goes.of (fun t k => XS.astore X65.here hx rfl (hb hby at_60) rfl rfl (l' := #[.val (.int u0), .val (.int u1), .val (.int u2), .val (.int u3), .val (.int u4), .val (.int (1 : Int32)), .val (.int t0), .val (.int t1), .val (.int t2), .val (.ref b64), .val (.ref b65), .unset, .unset]) rfl k) ?_
          show Goes _ _ _ _ _ _ _ (T65.setTop (mkF m 62 #[.val (.int u0), .val (.int u1), .val (.int u2), .val (.int u3), .val (.int u4), .val (.int (1 : Int32)), .val (.int t0), .val (.int t1), .val (.int t2), .val (.ref b64), .val (.ref b65), .unset, .unset] []))
          refine Goes.of (fun t k => XS.iload X65.here hx rfl (hb hby at_62) rfl k) ?_
          show Goes _ _ _ _ _ _ _ (T65.setTop (mkF m 64 #[.val (.int u0), .val (.int u1), .val (.int u2), .val (.int u3), .val (.int u4), .val (.int (1 : Int32)), .val (.int t0), .val (.int t1), .val (.int t2), .val (.ref b64), .val (.ref b65), .unset, .unset] [(.int (1 : Int32))]))
          refine Goes.of (fun t k => XS.ifNo X65.here hx rfl (hb hby at_64) rfl ((if0 _ _).trans (tlt (by decide : (0 : Int32) < (1 : Int32))).2.2.2) k) ?_
          show Goes _ _ _ _ _ _ _ (T65.setTop (mkF m 67 #[.val (.int u0), .val (.int u1), .val (.int u2), .val (.int u3), .val (.int u4), .val (.int (1 : Int32)), .val (.int t0), .val (.int t1), .val (.int t2), .val (.ref b64), .val (.ref b65), .unset, .unset] []))
          refine Goes.of (fun t k => XS.aload X65.here hx rfl (hb hby at_67) rfl rfl k) ?_
          show Goes _ _ _ _ _ _ _ (T65.setTop (mkF m 69 #[.val (.int u0), .val (.int u1), .val (.int u2), .val (.int u3), .val (.int u4), .val (.int (1 : Int32)), .val (.int t0), .val (.int t1), .val (.int t2), .val (.ref b64), .val (.ref b65), .unset, .unset] [(.ref b64)]))
          refine Goes.of (fun t k => XS.iconst X65.here hx rfl (hb hby at_69) k) ?_
          show Goes _ _ _ _ _ _ _ (T65.setTop (mkF m 70 #[.val (.int u0), .val (.int u1), .val (.int u2), .val (.int u3), .val (.int u4), .val (.int (1 : Int32)), .val (.int t0), .val (.int t1), .val (.int t2), .val (.ref b64), .val (.ref b65), .unset, .unset] [(.int (0 : Int32)), (.ref b64)]))
          refine Goes.of (fun t k => XS.iload X65.here hx rfl (hb hby at_70) rfl k) ?_
          show Goes _ _ _ _ _ _ _ (T65.setTop (mkF m 72 #[.val (.int u0), .val (.int u1), .val (.int u2), .val (.int u3), .val (.int u4), .val (.int (1 : Int32)), .val (.int t0), .val (.int t1), .val (.int t2), .val (.ref b64), .val (.ref b65), .unset, .unset] [(.int t0), (.int (0 : Int32)), (.ref b64)]))
          obtain ⟨T68, h68, X68, e68, W68, V68, st68⟩ := putI X65 hx hZ e65 F66 (j := (0 : Int32)) (x := t0) (i := 0) (by decide) (by decide) (by decide) (g := (mkF m 72 #[.val (.int u0), .val (.int u1), .val (.int u2), .val (.int u3), .val (.int u4), .val (.int (1 : Int32)), .val (.int t0), .val (.int t1), .val (.int t2), .val (.ref b64), .val (.ref b65), .unset, .unset] [(.int t0), (.int (0 : Int32)), (.ref b64)])) rfl rfl (hb hby at_72)
          have F69 := Exa.wr W68 F67
          have F70 := V65.other W68 (Ne.symm ne_b64_b65)
          have F71 := Exa.wr W68 Ea65
          have Z68 : n0 ≤ h68.size := Nat.le_trans Z65 (Keep.of_wr W68).1
          have N68 := Fr.snoc X68 N47 g_b64
          refine Goes.of st68 ?_
          show Goes _ _ _ _ _ _ _ (T68.setTop (mkF m 73 #[.val (.int u0), .val (.int u1), .val (.int u2), .val (.int u3), .val (.int u4), .val (.int (1 : Int32)), .val (.int t0), .val (.int t1), .val (.int t2), .val (.ref b64), .val (.ref b65), .unset, .unset] []))
          refine Goes.of (fun t k => XS.aload X68.here hx rfl (hb hby at_73) rfl rfl k) ?_
          show Goes _ _ _ _ _ _ _ (T68.setTop (mkF m 75 #[.val (.int u0), .val (.int u1), .val (.int u2), .val (.int u3), .val (.int u4), .val (.int (1 : Int32)), .val (.int t0), .val (.int t1), .val (.int t2), .val (.ref b64), .val (.ref b65), .unset, .unset] [(.ref b65)]))
          refine Goes.of (fun t k => XS.iconst X68.here hx rfl (hb hby at_75) k) ?_
          show Goes _ _ _ _ _ _ _ (T68.setTop (mkF m 76 #[.val (.int u0), .val (.int u1), .val (.int u2), .val (.int u3), .val (.int u4), .val (.int (1 : Int32)), .val (.int t0), .val (.int t1), .val (.int t2), .val (.ref b64), .val (.ref b65), .unset, .unset] [(.int (0 : Int32)), (.ref b65)]))
          refine Goes.of (fun t k => XS.iload X68.here hx rfl (hb hby at_76) rfl k) ?_
          show Goes _ _ _ _ _ _ _ (T68.setTop (mkF m 78 #[.val (.int u0), .val (.int u1), .val (.int u2), .val (.int u3), .val (.int u4), .val (.int (1 : Int32)), .val (.int t0), .val (.int t1), .val (.int t2), .val (.ref b64), .val (.ref b65), .unset, .unset] [(.int t0), (.int (0 : Int32)), (.ref b65)]))
          refine Goes.of (fun t k => XS.iload X68.here hx rfl (hb hby at_78) rfl k) ?_
          show Goes _ _ _ _ _ _ _ (T68.setTop (mkF m 80 #[.val (.int u0), .val (.int u1), .val (.int u2), .val (.int u3), .val (.int u4), .val (.int (1 : Int32)), .val (.int t0), .val (.int t1), .val (.int t2), .val (.ref b64), .val (.ref b65), .unset, .unset] [(.int u4), (.int t0), (.int (0 : Int32)), (.ref b65)]))
          obtain ⟨_, _, ⟨T72, L72, k72, n72⟩, -, X72, ⟨Lc72, hQ72, l72, y72, z72⟩, st72⟩ := Jvm.LawKit.callS X68 hx (y := (⟨"com/example/slotwright/slotwright/problems/postenrolment/TimetableIsCompletePinLaw", "room", "(II)I"⟩ : MethodName)) hown (mvT hZ (hw _ (List.mem_of_getElem? (i := 28) rfl))) (mvT hZ (hw _ (List.mem_of_getElem? (i := 29) rfl))) (mvT hZ (hw _ (List.mem_of_getElem? (i := 30) rfl))) (mvT hZ (hw _ (List.mem_of_getElem? (i := 31) rfl))) (by decide) (backOf (W := 2) (rm4 l Z a0 hw [] t0 u4  h68 n0 ) hZ (hw _ (List.mem_of_getElem? (i := 31) rfl)) (hw _ (List.mem_of_getElem? (i := 30) rfl)) (by decide) (by decide)) (g := (mkF m 80 #[.val (.int u0), .val (.int u1), .val (.int u2), .val (.int u3), .val (.int u4), .val (.int (1 : Int32)), .val (.int t0), .val (.int t1), .val (.int t2), .val (.ref b64), .val (.ref b65), .unset, .unset] [(.int u4), (.int t0), (.int (0 : Int32)), (.ref b65)])) rfl (by rw [hml]; rfl) (argsL := [(.int t0), (.int u4)]) (rest := [(.int (0 : Int32)), (.ref b65)]) (lenOf pd_2 rfl) rfl (by show 2 * 0 + _ ≤ _; exact Nat.le_of_eq rfl) (hb hby at_80) (fun _ _ => ⟨rfl, e68, (by decide : 2 + 0 ≤ _), (by decide : 2 + 0 ≤ _)⟩)
          dsimp only [Pt.U, Pt.locs, Pt.cells, Pt.slots] at X72 l72 y72 z72 st72 hQ72
          subst l72 y72 z72
          obtain ⟨rfl, N72q, e72⟩ := hQ72
          have N72 := Fr.app N68 N72q
          refine Goes.of st72 ?_
          show Goes _ _ _ _ _ _ _ (T72.setTop (mkF m 83 #[.val (.int u0), .val (.int u1), .val (.int u2), .val (.int u3), .val (.int u4), .val (.int (1 : Int32)), .val (.int t0), .val (.int t1), .val (.int t2), .val (.ref b64), .val (.ref b65), .unset, .unset] [(.int (f4 t0 u4)), (.int (0 : Int32)), (.ref b65)]))
          obtain ⟨T73, h73, X73, e73, W73, V73, st73⟩ := putI X72 hx hZ e72 F70 (j := (0 : Int32)) (x := (f4 t0 u4)) (i := 0) (by decide) (by decide) (by decide) (g := (mkF m 83 #[.val (.int u0), .val (.int u1), .val (.int u2), .val (.int u3), .val (.int u4), .val (.int (1 : Int32)), .val (.int t0), .val (.int t1), .val (.int t2), .val (.ref b64), .val (.ref b65), .unset, .unset] [(.int (f4 t0 u4)), (.int (0 : Int32)), (.ref b65)])) rfl rfl (hb hby at_83)
          have F74 := V68.other W73 ne_b64_b65
          have F75 := Exa.wr W73 F69
          have F76 := Exa.wr W73 F71
          have Z73 : n0 ≤ h73.size := Nat.le_trans Z68 (Keep.of_wr W73).1
          have N73 := Fr.snoc X73 N72 g_b65
          refine Goes.of st73 ?_
          show Goes _ _ _ _ _ _ _ (T73.setTop (mkF m 84 #[.val (.int u0), .val (.int u1), .val (.int u2), .val (.int u3), .val (.int u4), .val (.int (1 : Int32)), .val (.int t0), .val (.int t1), .val (.int t2), .val (.ref b64), .val (.ref b65), .unset, .unset] []))
          refine Goes.of (fun t k => XS.iload X73.here hx rfl (hb hby at_84) rfl k) ?_
          show Goes _ _ _ _ _ _ _ (T73.setTop (mkF m 86 #[.val (.int u0), .val (.int u1), .val (.int u2), .val (.int u3), .val (.int u4), .val (.int (1 : Int32)), .val (.int t0), .val (.int t1), .val (.int t2), .val (.ref b64), .val (.ref b65), .unset, .unset] [(.int (1 : Int32))]))
          refine Goes.of (fun t k => XS.iconst X73.here hx rfl (hb hby at_86) k) ?_
          show Goes _ _ _ _ _ _ _ (T73.setTop (mkF m 87 #[.val (.int u0), .val (.int u1), .val (.int u2), .val (.int u3), .val (.int u4), .val (.int (1 : Int32)), .val (.int t0), .val (.int t1), .val (.int t2), .val (.ref b64), .val (.ref b65), .unset, .unset] [(.int (1 : Int32)), (.int (1 : Int32))]))
          refine Goes.of (fun t k => XS.icmpYes X73.here hx rfl (pc0 := 87) (pc' := 107) rfl (hb hby at_87) rfl (flt (by decide : ¬ ((1 : Int32) < (1 : Int32)))).2.2.2 (by decide) (by decide) k) ?_
          show Goes _ _ _ _ _ _ _ (T73.setTop (mkF m 107 #[.val (.int u0), .val (.int u1), .val (.int u2), .val (.int u3), .val (.int u4), .val (.int (1 : Int32)), .val (.int t0), .val (.int t1), .val (.int t2), .val (.ref b64), .val (.ref b65), .unset, .unset] []))
          refine Goes.of (fun t k => XS.iload X73.here hx rfl (hb hby at_107) rfl k) ?_
          show Goes _ _ _ _ _ _ _ (T73.setTop (mkF m 109 #[.val (.int u0), .val (.int u1), .val (.int u2), .val (.int u3), .val (.int u4), .val (.int (1 : Int32)), .val (.int t0), .val (.int t1), .val (.int t2), .val (.ref b64), .val (.ref b65), .unset, .unset] [(.int (1 : Int32))]))
          refine Goes.of (fun t k => XS.iconst X73.here hx rfl (hb hby at_109) k) ?_
          show Goes _ _ _ _ _ _ _ (T73.setTop (mkF m 110 #[.val (.int u0), .val (.int u1), .val (.int u2), .val (.int u3), .val (.int u4), .val (.int (1 : Int32)), .val (.int t0), .val (.int t1), .val (.int t2), .val (.ref b64), .val (.ref b65), .unset, .unset] [(.int (2 : Int32)), (.int (1 : Int32))]))
          refine Goes.of (fun t k => XS.icmpYes X73.here hx rfl (pc0 := 110) (pc' := 130) rfl (hb hby at_110) rfl (flt (by decide : ¬ ((2 : Int32) < (1 : Int32)))).2.2.2 (by decide) (by decide) k) ?_
          show Goes _ _ _ _ _ _ _ (T73.setTop (mkF m 130 #[.val (.int u0), .val (.int u1), .val (.int u2), .val (.int u3), .val (.int u4), .val (.int (1 : Int32)), .val (.int t0), .val (.int t1), .val (.int t2), .val (.ref b64), .val (.ref b65), .unset, .unset] []))
          obtain ⟨ff, hf_ff⟩ : ∃ f : Nat → Int32, f = (upd (fun _ => 0) 0 t0) := ⟨_, rfl⟩
          rw [← hf_ff] at F74
          obtain ⟨gg, hf_gg⟩ : ∃ f : Nat → Int32, f = (upd (fun _ => 0) 0 (f4 t0 u4)) := ⟨_, rfl⟩
          rw [← hf_gg] at V73
          obtain ⟨T77, h77, X77, e77, E77, A77, D77, -, st77⟩ := newO X73 hx hZ hown (hw _ (List.mem_of_getElem? (i := 1) rfl)) (hw _ (List.mem_of_getElem? (i := 2) rfl)) (hw _ (List.mem_of_getElem? (i := 3) rfl)) e73 (g := (mkF m 130 #[.val (.int u0), .val (.int u1), .val (.int u2), .val (.int u3), .val (.int u4), .val (.int (1 : Int32)), .val (.int t0), .val (.int t1), .val (.int t2), .val (.ref b64), .val (.ref b65), .unset, .unset] [])) rfl (hb hby at_130) (by decide) (by decide)
          obtain ⟨b77, g77⟩ : ∃ z, z = h73.size := ⟨_, rfl⟩
          rw [← g77] at A77 D77 st77
          have ne_b64_b77 : b64 ≠ b77 := Nat.ne_of_lt (Nat.lt_of_lt_of_le F74.lt (Nat.le_of_eq g77.symm))
          have ne_b65_b77 : b65 ≠ b77 := Nat.ne_of_lt (Nat.lt_of_lt_of_le V73.lt (Nat.le_of_eq g77.symm))
          have g_b77 : n0 ≤ b77 := Nat.le_trans Z73 (Nat.le_of_eq g77.symm)
          have F78 := F74.ext E77
          have F79 := Exa.ext E77 F75
          have F80 := V73.ext E77
          have F81 := Exa.ext E77 F76
          have Z77 : n0 ≤ h77.size := Nat.le_trans Z73 E77.1
          have F_timeslots_b77 : Fld Z h77 b77 "com/example/slotwright/slotwright/problems/postenrolment/Timetable" "timeslots" "[I" .null := D77 (Or.inr (hw _ (List.mem_of_getElem? (i := 20) rfl))) (ty := (.array .int)) (by decide)
          have F_rooms_b77 : Fld Z h77 b77 "com/example/slotwright/slotwright/problems/postenrolment/Timetable" "rooms" "[I" .null := D77 (Or.inr (hw _ (List.mem_of_getElem? (i := 22) rfl))) (ty := (.array .int)) (by decide)
          refine Goes.of st77 ?_
          show Goes _ _ _ _ _ _ _ (T77.setTop (mkF m 133 #[.val (.int u0), .val (.int u1), .val (.int u2), .val (.int u3), .val (.int u4), .val (.int (1 : Int32)), .val (.int t0), .val (.int t1), .val (.int t2), .val (.ref b64), .val (.ref b65), .unset, .unset] [(.ref b77)]))
          refine Goes.of (fun t k => XS.dup X77.here hx rfl (hb hby at_133) rfl rfl k) ?_
          show Goes _ _ _ _ _ _ _ (T77.setTop (mkF m 134 #[.val (.int u0), .val (.int u1), .val (.int u2), .val (.int u3), .val (.int u4), .val (.int (1 : Int32)), .val (.int t0), .val (.int t1), .val (.int t2), .val (.ref b64), .val (.ref b65), .unset, .unset] [(.ref b77), (.ref b77)]))
          refine Goes.of (fun t k => XS.aload X77.here hx rfl (hb hby at_134) rfl rfl k) ?_
          show Goes _ _ _ _ _ _ _ (T77.setTop (mkF m 136 #[.val (.int u0), .val (.int u1), .val (.int u2), .val (.int u3), .val (.int u4), .val (.int (1 : Int32)), .val (.int t0), .val (.int t1), .val (.int t2), .val (.ref b64), .val (.ref b65), .unset, .unset] [(.ref b64), (.ref b77), (.ref b77)]))
          refine Goes.of (fun t k => XS.aload X77.here hx rfl (hb hby at_136) rfl rfl k) ?_
          show Goes _ _ _ _ _ _ _ (T77.setTop (mkF m 138 #[.val (.int u0), .val (.int u1), .val (.int u2), .val (.int u3), .val (.int u4), .val (.int (1 : Int32)), .val (.int t0), .val (.int t1), .val (.int t2), .val (.ref b64), .val (.ref b65), .unset, .unset] [(.ref b65), (.ref b64), (.ref b77), (.ref b77)]))
          obtain ⟨_, _, ⟨T82, L82, k82, n82⟩, -, X82, ⟨Lc82, hQ82, l82, y82, z82⟩, st82⟩ := X77.specialBack hx (y := (⟨"com/example/slotwright/slotwright/problems/postenrolment/Timetable", "<init>", "([I[I)V"⟩ : MethodName)) rfl hown (mvT hZ (hw _ (List.mem_of_getElem? (i := 4) rfl))) (mvT hZ (hw _ (List.mem_of_getElem? (i := 5) rfl))) (mvT hZ (hw _ (List.mem_of_getElem? (i := 6) rfl))) (by decide) (backOf (W := 1) (rm1 l Z a0 hw [] b77 b64 b65 1 (1 : Int32) ff gg h77 n0 Z77 A77 F_timeslots_b77 F_rooms_b77 g_b77 F78 F80 F79 F81 (Ne.symm ne_b64_b77) (Ne.symm ne_b65_b77) (by decide) (by decide)) hZ (hw _ (List.mem_of_getElem? (i := 6) rfl)) (hw _ (List.mem_of_getElem? (i := 3) rfl)) (by decide) (by decide)) (g := (mkF m 138 #[.val (.int u0), .val (.int u1), .val (.int u2), .val (.int u3), .val (.int u4), .val (.int (1 : Int32)), .val (.int t0), .val (.int t1), .val (.int t2), .val (.ref b64), .val (.ref b65), .unset, .unset] [(.ref b65), (.ref b64), (.ref b77), (.ref b77)])) rfl (by rw [hml]; rfl) (Steps.refl _) (a := b77) (argsL := [(.ref b64), (.ref b65)]) (rest := [(.ref b77)]) (lenOf pd_3 rfl) rfl (by show 2 * 0 + _ ≤ _; exact Nat.le_of_eq rfl) (hb hby at_138) (fun _ _ => ⟨rfl, e77, (by decide : 3 + 2 ≤ _), (by decide : 4 + 6 ≤ _)⟩)
          dsimp only [Pt.U, Pt.locs, Pt.cells, Pt.slots] at X82 l82 y82 z82 st82 hQ82
          subst l82 y82 z82
          obtain ⟨rfl, N82q, ta82, K82, sz82, Eo82, Ft82, Vt82⟩ := hQ82
          have F83 := F78.keep K82 (ninS ne_b64_b77 nin0)
          have F84 := F79.keep K82
          have F85 := F80.keep K82 (ninS ne_b65_b77 nin0)
          have F86 := F81.keep K82
          have F87 := A77.keep K82
          have Z82 : n0 ≤ T82.heap.size := Nat.le_trans Z77 K82.1
          have N82 := Fr.app N73 N82q
          refine Goes.of (fun t k => st82.trans k) ?_
          show Goes _ _ _ _ _ _ _ (T82.setTop (mkF m 141 #[.val (.int u0), .val (.int u1), .val (.int u2), .val (.int u3), .val (.int u4), .val (.int (1 : Int32)), .val (.int t0), .val (.int t1), .val (.int t2), .val (.ref b64), .val (.ref b65), .unset, .unset] [(.ref b77)]))
          refine Goes.of (fun t k => XS.astore X82.here hx rfl (hb hby at_141) rfl rfl (l' := #[.val (.int u0), .val (.int u1), .val (.int u2), .val (.int u3), .val (.int u4), .val (.int (1 : Int32)), .val (.int t0), .val (.int t1), .val (.int t2), .val (.ref b64), .val (.ref b65), .val (.ref b77), .unset]) rfl k) ?_
          show Goes _ _ _ _ _ _ _ (T82.setTop (mkF m 143 #[.val (.int u0), .val (.int u1), .val (.int u2), .val (.int u3), .val (.int u4), .val (.int (1 : Int32)), .val (.int t0), .val (.int t1), .val (.int t2), .val (.ref b64), .val (.ref b65), .val (.ref b77), .unset] []))
          refine Goes.of (fun t k => XS.iload X82.here hx rfl (hb hby at_143) rfl k) ?_
          show Goes _ _ _ _ _ _ _ (T82.setTop (mkF m 145 #[.val (.int u0), .val (.int u1), .val (.int u2), .val (.int u3), .val (.int u4), .val (.int (1 : Int32)), .val (.int t0), .val (.int t1), .val (.int t2), .val (.ref b64), .val (.ref b65), .val (.ref b77), .unset] [(.int (1 : Int32))]))
          refine Goes.of (fun t k => XS.ifNo X82.here hx rfl (hb hby at_145) rfl ((if0 _ _).trans (tlt (by decide : (0 : Int32) < (1 : Int32))).2.2.2) k) ?_
          show Goes _ _ _ _ _ _ _ (T82.setTop (mkF m 148 #[.val (.int u0), .val (.int u1), .val (.int u2), .val (.int u3), .val (.int u4), .val (.int (1 : Int32)), .val (.int t0), .val (.int t1), .val (.int t2), .val (.ref b64), .val (.ref b65), .val (.ref b77), .unset] []))
          refine Goes.of (fun t k => XS.iload X82.here hx rfl (hb hby at_148) rfl k) ?_
          show Goes _ _ _ _ _ _ _ (T82.setTop (mkF m 150 #[.val (.int u0), .val (.int u1), .val (.int u2), .val (.int u3), .val (.int u4), .val (.int (1 : Int32)), .val (.int t0), .val (.int t1), .val (.int t2), .val (.ref b64), .val (.ref b65), .val (.ref b77), .unset] [(.int t0)]))
          refine Goes.of (fun t k => XS.iconst X82.here hx rfl (hb hby at_150) k) ?_
          show Goes _ _ _ _ _ _ _ (T82.setTop (mkF m 151 #[.val (.int u0), .val (.int u1), .val (.int u2), .val (.int u3), .val (.int u4), .val (.int (1 : Int32)), .val (.int t0), .val (.int t1), .val (.int t2), .val (.ref b64), .val (.ref b65), .val (.ref b77), .unset] [(.int (-1 : Int32)), (.int t0)]))
          by_cases hc88 : t0 = (-1 : Int32)
          · refine Goes.of (fun t k => XS.icmpYes X82.here hx rfl (pc0 := 151) (pc' := 182) rfl (hb hby at_151) rfl (teq hc88).1 (by decide) (by decide) k) ?_
            show Goes _ _ _ _ _ _ _ (T82.setTop (mkF m 182 #[.val (.int u0), .val (.int u1), .val (.int u2), .val (.int u3), .val (.int u4), .val (.int (1 : Int32)), .val (.int t0), .val (.int t1), .val (.int t2), .val (.ref b64), .val (.ref b65), .val (.ref b77), .unset] []))
            refine Goes.of (fun t k => XS.iconst X82.here hx rfl (hb hby at_182) k) ?_
            show Goes _ _ _ _ _ _ _ (T82.setTop (mkF m 183 #[.val (.int u0), .val (.int u1), .val (.int u2), .val (.int u3), .val (.int u4), .val (.int (1 : Int32)), .val (.int t0), .val (.int t1), .val (.int t2), .val (.ref b64), .val (.ref b65), .val (.ref b77), .unset] [(.int (0 : Int32))]))
            refine Goes.of (fun t k => XS.istore X82.here hx rfl (hb hby at_183) rfl (l' := #[.val (.int u0), .val (.int u1), .val (.int u2), .val (.int u3), .val (.int u4), .val (.int (1 : Int32)), .val (.int t0), .val (.int t1), .val (.int t2), .val (.ref b64), .val (.ref b65), .val (.ref b77), .val (.int (0 : Int32))]) rfl k) ?_
            show Goes _ _ _ _ _ _ _ (T82.setTop (mkF m 185 #[.val (.int u0), .val (.int u1), .val (.int u2), .val (.int u3), .val (.int u4), .val (.int (1 : Int32)), .val (.int t0), .val (.int t1), .val (.int t2), .val (.ref b64), .val (.ref b65), .val (.ref b77), .val (.int (0 : Int32))] []))
            refine Goes.of (fun t k => XS.aload X82.here hx rfl (hb hby at_185) rfl rfl k) ?_
            show Goes _ _ _ _ _ _ _ (T82.setTop (mkF m 187 #[.val (.int u0), .val (.int u1), .val (.int u2), .val (.int u3), .val (.int u4), .val (.int (1 : Int32)), .val (.int t0), .val (.int t1), .val (.int t2), .val (.ref b64), .val (.ref b65), .val (.ref b77), .val (.int (0 : Int32))] [(.ref b77)]))
            obtain ⟨cq89, kq89, q89a, q89b, q89c⟩ := isOf hZ rfl Eo82
            obtain ⟨_, _, ⟨T89, L89, k89, n89⟩, -, X89, ⟨Lc89, hQ89, l89, y89, z89⟩, st89⟩ := X82.virtualBack hx (y := (⟨"com/example/slotwright/slotwright/problems/postenrolment/Timetable", "isComplete", "()Z"⟩ : MethodName)) (z := (⟨"com/example/slotwright/slotwright/problems/postenrolment/Timetable", "isComplete", "()Z"⟩ : MethodName)) hown (mvT hZ (hw _ (List.mem_of_getElem? (i := 23) rfl))) (mvT hZ (hw _ (List.mem_of_getElem? (i := 24) rfl))) (notFace_of_selects (args := #[]) (mvT hZ (hw _ (List.mem_of_getElem? (i := 26) rfl)))) (mvT hZ (hw _ (List.mem_of_getElem? (i := 26) rfl))) (mvT hZ (hw _ (List.mem_of_getElem? (i := 25) rfl))) (by decide) (backOf (W := 0) (rm3 l Z a0 hw [] b77 ta82 1 (1 : Int32) ff T82.heap n0 Z82 Ft82 Vt82 (by decide)) hZ (hw _ (List.mem_of_getElem? (i := 27) rfl)) (hw _ (List.mem_of_getElem? (i := 3) rfl)) (by decide) (by decide)) q89a q89c (g := (mkF m 187 #[.val (.int u0), .val (.int u1), .val (.int u2), .val (.int u3), .val (.int u4), .val (.int (1 : Int32)), .val (.int t0), .val (.int t1), .val (.int t2), .val (.ref b64), .val (.ref b65), .val (.ref b77), .val (.int (0 : Int32))] [(.ref b77)])) rfl (by rw [hml]; rfl) (Steps.refl _) (argsL := []) (rest := []) (lenOf pd_4 rfl) rfl (by show 2 * 0 + _ ≤ _; exact Nat.le_of_eq rfl) (hb hby at_187) (fun _ _ => ⟨rfl, rfl, (by decide : 5 + 0 ≤ _), (by decide : 10 + 0 ≤ _)⟩)
            dsimp only [Pt.U, Pt.locs, Pt.cells, Pt.slots] at X89 l89 y89 z89 st89 hQ89
            subst l89 y89 z89
            obtain ⟨rfl, N89q, e89⟩ := hQ89
            have N89 := Fr.app N82 N89q
            refine Goes.of (fun t k => st89.trans k) ?_
            show Goes _ _ _ _ _ _ _ (T89.setTop (mkF m 190 #[.val (.int u0), .val (.int u1), .val (.int u2), .val (.int u3), .val (.int u4), .val (.int (1 : Int32)), .val (.int t0), .val (.int t1), .val (.int t2), .val (.ref b64), .val (.ref b65), .val (.ref b77), .val (.int (0 : Int32))] [(.int (own_cmp ff 1 0))]))
            refine Goes.of (fun t k => XS.iload X89.here hx rfl (hb hby at_190) rfl k) ?_
            show Goes _ _ _ _ _ _ _ (T89.setTop (mkF m 192 #[.val (.int u0), .val (.int u1), .val (.int u2), .val (.int u3), .val (.int u4), .val (.int (1 : Int32)), .val (.int t0), .val (.int t1), .val (.int t2), .val (.ref b64), .val (.ref b65), .val (.ref b77), .val (.int (0 : Int32))] [(.int (0 : Int32)), (.int (own_cmp ff 1 0))]))
            refine Goes.of (fun t k => XS.icmpNo X89.here hx rfl (hb hby at_192) rfl (teq (by rw [hf_ff]; show (if t0 = (-1 : Int32) then (0 : Int32) else (1 : Int32)) = _; rw [if_pos hc88])).2 k) ?_
            show Goes _ _ _ _ _ _ _ (T89.setTop (mkF m 195 #[.val (.int u0), .val (.int u1), .val (.int u2), .val (.int u3), .val (.int u4), .val (.int (1 : Int32)), .val (.int t0), .val (.int t1), .val (.int t2), .val (.ref b64), .val (.ref b65), .val (.ref b77), .val (.int (0 : Int32))] []))
            refine Goes.of (fun t k => XS.iconst X89.here hx rfl (hb hby at_195) k) ?_
            show Goes _ _ _ _ _ _ _ (T89.setTop (mkF m 196 #[.val (.int u0), .val (.int u1), .val (.int u2), .val (.int u3), .val (.int u4), .val (.int (1 : Int32)), .val (.int t0), .val (.int t1), .val (.int t2), .val (.ref b64), .val (.ref b65), .val (.ref b77), .val (.int (0 : Int32))] [(.int (1 : Int32))]))
            refine Goes.of (fun t k => XS.goto X89.here hx rfl (pc0 := 196) (pc' := 200) rfl (hb hby at_196) (by decide) (by decide) k) ?_
            show Goes _ _ _ _ _ _ _ (T89.setTop (mkF m 200 #[.val (.int u0), .val (.int u1), .val (.int u2), .val (.int u3), .val (.int u4), .val (.int (1 : Int32)), .val (.int t0), .val (.int t1), .val (.int t2), .val (.ref b64), .val (.ref b65), .val (.ref b77), .val (.int (0 : Int32))] [(.int (1 : Int32))]))
            exact Goes.fin X89 hlk (v := some (.int (1 : Int32))) (fun h => by rw [Bd.returns] at h; cases h) (fun fs hr => retN X89 hx (t := .boolean) Bd.returns (by simp) (hb hby at_200) hr) ⟨rfl, N89⟩ (by decide) (by decide)
          · refine Goes.of (fun t k => XS.icmpNo X82.here hx rfl (hb hby at_151) rfl (feq hc88).1 k) ?_
            show Goes _ _ _ _ _ _ _ (T82.setTop (mkF m 154 #[.val (.int u0), .val (.int u1), .val (.int u2), .val (.int u3), .val (.int u4), .val (.int (1 : Int32)), .val (.int t0), .val (.int t1), .val (.int t2), .val (.ref b64), .val (.ref b65), .val (.ref b77), .unset] []))
            refine Goes.of (fun t k => XS.iload X82.here hx rfl (hb hby at_154) rfl k) ?_
            show Goes _ _ _ _ _ _ _ (T82.setTop (mkF m 156 #[.val (.int u0), .val (.int u1), .val (.int u2), .val (.int u3), .val (.int u4), .val (.int (1 : Int32)), .val (.int t0), .val (.int t1), .val (.int t2), .val (.ref b64), .val (.ref b65), .val (.ref b77), .unset] [(.int (1 : Int32))]))
            refine Goes.of (fun t k => XS.iconst X82.here hx rfl (hb hby at_156) k) ?_
            show Goes _ _ _ _ _ _ _ (T82.setTop (mkF m 157 #[.val (.int u0), .val (.int u1), .val (.int u2), .val (.int u3), .val (.int u4), .val (.int (1 : Int32)), .val (.int t0), .val (.int t1), .val (.int t2), .val (.ref b64), .val (.ref b65), .val (.ref b77), .unset] [(.int (1 : Int32)), (.int (1 : Int32))]))
            refine Goes.of (fun t k => XS.icmpYes X82.here hx rfl (pc0 := 157) (pc' := 166) rfl (hb hby at_157) rfl (flt (by decide : ¬ ((1 : Int32) < (1 : Int32)))).2.2.2 (by decide) (by decide) k) ?_
            show Goes _ _ _ _ _ _ _ (T82.setTop (mkF m 166 #[.val (.int u0), .val (.int u1), .val (.int u2), .val (.int u3), .val (.int u4), .val (.int (1 : Int32)), .val (.int t0), .val (.int t1), .val (.int t2), .val (.ref b64), .val (.ref b65), .val (.ref b77), .unset] []))
            refine Goes.of (fun t k => XS.iload X82.here hx rfl (hb hby at_166) rfl k) ?_
            show Goes _ _ _ _ _ _ _ (T82.setTop (mkF m 168 #[.val (.int u0), .val (.int u1), .val (.int u2), .val (.int u3), .val (.int u4), .val (.int (1 : Int32)), .val (.int t0), .val (.int t1), .val (.int t2), .val (.ref b64), .val (.ref b65), .val (.ref b77), .unset] [(.int (1 : Int32))]))
            refine Goes.of (fun t k => XS.iconst X82.here hx rfl (hb hby at_168) k) ?_
            show Goes _ _ _ _ _ _ _ (T82.setTop (mkF m 169 #[.val (.int u0), .val (.int u1), .val (.int u2), .val (.int u3), .val (.int u4), .val (.int (1 : Int32)), .val (.int t0), .val (.int t1), .val (.int t2), .val (.ref b64), .val (.ref b65), .val (.ref b77), .unset] [(.int (2 : Int32)), (.int (1 : Int32))]))
            refine Goes.of (fun t k => XS.icmpYes X82.here hx rfl (pc0 := 169) (pc' := 178) rfl (hb hby at_169) rfl (flt (by decide : ¬ ((2 : Int32) < (1 : Int32)))).2.2.2 (by decide) (by decide) k) ?_
            show Goes _ _ _ _ _ _ _ (T82.setTop (mkF m 178 #[.val (.int u0), .val (.int u1), .val (.int u2), .val (.int u3), .val (.int u4), .val (.int (1 : Int32)), .val (.int t0), .val (.int t1), .val (.int t2), .val (.ref b64), .val (.ref b65), .val (.ref b77), .unset] []))
            refine Goes.of (fun t k => XS.iconst X82.here hx rfl (hb hby at_178) k) ?_
            show Goes _ _ _ _ _ _ _ (T82.setTop (mkF m 179 #[.val (.int u0), .val (.int u1), .val (.int u2), .val (.int u3), .val (.int u4), .val (.int (1 : Int32)), .val (.int t0), .val (.int t1), .val (.int t2), .val (.ref b64), .val (.ref b65), .val (.ref b77), .unset] [(.int (1 : Int32))]))
            refine Goes.of (fun t k => XS.goto X82.here hx rfl (pc0 := 179) (pc' := 183) rfl (hb hby at_179) (by decide) (by decide) k) ?_
            show Goes _ _ _ _ _ _ _ (T82.setTop (mkF m 183 #[.val (.int u0), .val (.int u1), .val (.int u2), .val (.int u3), .val (.int u4), .val (.int (1 : Int32)), .val (.int t0), .val (.int t1), .val (.int t2), .val (.ref b64), .val (.ref b65), .val (.ref b77), .unset] [(.int (1 : Int32))]))
            refine Goes.of (fun t k => XS.istore X82.here hx rfl (hb hby at_183) rfl (l' := #[.val (.int u0), .val (.int u1), .val (.int u2), .val (.int u3), .val (.int u4), .val (.int (1 : Int32)), .val (.int t0), .val (.int t1), .val (.int t2), .val (.ref b64), .val (.ref b65), .val (.ref b77), .val (.int (1 : Int32))]) rfl k) ?_
            show Goes _ _ _ _ _ _ _ (T82.setTop (mkF m 185 #[.val (.int u0), .val (.int u1), .val (.int u2), .val (.int u3), .val (.int u4), .val (.int (1 : Int32)), .val (.int t0), .val (.int t1), .val (.int t2), .val (.ref b64), .val (.ref b65), .val (.ref b77), .val (.int (1 : Int32))] []))
            refine Goes.of (fun t k => XS.aload X82.here hx rfl (hb hby at_185) rfl rfl k) ?_
            show Goes _ _ _ _ _ _ _ (T82.setTop (mkF m 187 #[.val (.int u0), .val (.int u1), .val (.int u2), .val (.int u3), .val (.int u4), .val (.int (1 : Int32)), .val (.int t0), .val (.int t1), .val (.int t2), .val (.ref b64), .val (.ref b65), .val (.ref b77), .val (.int (1 : Int32))] [(.ref b77)]))
            obtain ⟨cq90, kq90, q90a, q90b, q90c⟩ := isOf hZ rfl Eo82
            obtain ⟨_, _, ⟨T90, L90, k90, n90⟩, -, X90, ⟨Lc90, hQ90, l90, y90, z90⟩, st90⟩ := X82.virtualBack hx (y := (⟨"com/example/slotwright/slotwright/problems/postenrolment/Timetable", "isComplete", "()Z"⟩ : MethodName)) (z := (⟨"com/example/slotwright/slotwright/problems/postenrolment/Timetable", "isComplete", "()Z"⟩ : MethodName)) hown (mvT hZ (hw _ (List.mem_of_getElem? (i := 23) rfl))) (mvT hZ (hw _ (List.mem_of_getElem? (i := 24) rfl))) (notFace_of_selects (args := #[]) (mvT hZ (hw _ (List.mem_of_getElem? (i := 26) rfl)))) (mvT hZ (hw _ (List.mem_of_getElem? (i := 26) rfl))) (mvT hZ (hw _ (List.mem_of_getElem? (i := 25) rfl))) (by decide) (backOf (W := 0) (rm3 l Z a0 hw [] b77 ta82 1 (1 : Int32) ff T82.heap n0 Z82 Ft82 Vt82 (by decide)) hZ (hw _ (List.mem_of_getElem? (i := 27) rfl)) (hw _ (List.mem_of_getElem? (i := 3) rfl)) (by decide) (by decide)) q90a q90c (g := (mkF m 187 #[.val (.int u0), .val (.int u1), .val (.int u2), .val (.int u3), .val (.int u4), .val (.int (1 : Int32)), .val (.int t0), .val (.int t1), .val (.int t2), .val (.ref b64), .val (.ref b65), .val (.ref b77), .val (.int (1 : Int32))] [(.ref b77)])) rfl (by rw [hml]; rfl) (Steps.refl _) (argsL := []) (rest := []) (lenOf pd_4 rfl) rfl (by show 2 * 0 + _ ≤ _; exact Nat.le_of_eq rfl) (hb hby at_187) (fun _ _ => ⟨rfl, rfl, (by decide : 5 + 0 ≤ _), (by decide : 10 + 0 ≤ _)⟩)
            dsimp only [Pt.U, Pt.locs, Pt.cells, Pt.slots] at X90 l90 y90 z90 st90 hQ90
            subst l90 y90 z90
            obtain ⟨rfl, N90q, e90⟩ := hQ90
            have N90 := Fr.app N82 N90q
            refine Goes.of (fun t k => st90.trans k) ?_
            show Goes _ _ _ _ _ _ _ (T90.setTop (mkF m 190 #[.val (.int u0), .val (.int u1), .val (.int u2), .val (.int u3), .val (.int u4), .val (.int (1 : Int32)), .val (.int t0), .val (.int t1), .val (.int t2), .val (.ref b64), .val (.ref b65), .val (.ref b77), .val (.int (1 : Int32))] [(.int (own_cmp ff 1 0))]))
            refine Goes.of (fun t k => XS.iload X90.here hx rfl (hb hby at_190) rfl k) ?_
            show Goes _ _ _ _ _ _ _ (T90.setTop (mkF m 192 #[.val (.int u0), .val (.int u1), .val (.int u2), .val (.int u3), .val (.int u4), .val (.int (1 : Int32)), .val (.int t0), .val (.int t1), .val (.int t2), .val (.ref b64), .val (.ref b65), .val (.ref b77), .val (.int (1 : Int32))] [(.int (1 : Int32)), (.int (own_cmp ff 1 0))]))
            refine Goes.of (fun t k => XS.icmpNo X90.here hx rfl (hb hby at_192) rfl (teq (by rw [hf_ff]; show (if t0 = (-1 : Int32) then (0 : Int32) else (1 : Int32)) = _; rw [if_neg hc88])).2 k) ?_
            show Goes _ _ _ _ _ _ _ (T90.setTop (mkF m 195 #[.val (.int u0), .val (.int u1), .val (.int u2), .val (.int u3), .val (.int u4), .val (.int (1 : Int32)), .val (.int t0), .val (.int t1), .val (.int t2), .val (.ref b64), .val (.ref b65), .val (.ref b77), .val (.int (1 : Int32))] []))
            refine Goes.of (fun t k => XS.iconst X90.here hx rfl (hb hby at_195) k) ?_
            show Goes _ _ _ _ _ _ _ (T90.setTop (mkF m 196 #[.val (.int u0), .val (.int u1), .val (.int u2), .val (.int u3), .val (.int u4), .val (.int (1 : Int32)), .val (.int t0), .val (.int t1), .val (.int t2), .val (.ref b64), .val (.ref b65), .val (.ref b77), .val (.int (1 : Int32))] [(.int (1 : Int32))]))
            refine Goes.of (fun t k => XS.goto X90.here hx rfl (pc0 := 196) (pc' := 200) rfl (hb hby at_196) (by decide) (by decide) k) ?_
            show Goes _ _ _ _ _ _ _ (T90.setTop (mkF m 200 #[.val (.int u0), .val (.int u1), .val (.int u2), .val (.int u3), .val (.int u4), .val (.int (1 : Int32)), .val (.int t0), .val (.int t1), .val (.int t2), .val (.ref b64), .val (.ref b65), .val (.ref b77), .val (.int (1 : Int32))] [(.int (1 : Int32))]))
            exact Goes.fin X90 hlk (v := some (.int (1 : Int32))) (fun h => by rw [Bd.returns] at h; cases h) (fun fs hr => retN X90 hx (t := .boolean) Bd.returns (by simp) (hb hby at_200) hr) ⟨rfl, N90⟩ (by decide) (by decide)
        · rw [h3]
          show Goes _ _ _ _ _ _ _ (T47.setTop (mkF m 50 #[.val (.int u0), .val (.int u1), .val (.int u2), .val (.int u3), .val (.int u4), .val (.int (2 : Int32)), .val (.int t0), .val (.int t1), .val (.int t2), .unset, .unset, .unset, .unset] []))
          refine Goes.of (fun t k => XS.iload X47.here hx rfl (hb hby at_50) rfl k) ?_
          show Goes _ _ _ _ _ _ _ (T47.setTop (mkF m 52 #[.val (.int u0), .val (.int u1), .val (.int u2), .val (.int u3), .val (.int u4), .val (.int (2 : Int32)), .val (.int t0), .val (.int t1), .val (.int t2), .unset, .unset, .unset, .unset] [(.int (2 : Int32))]))
          obtain ⟨T91, h91, k91, X91, e91, E91, A91, Ea91, st91⟩ := newPE X47 hx hZ (hw _ (List.mem_of_getElem? (i := 0) rfl)) e47 (g := (mkF m 52 #[.val (.int u0), .val (.int u1), .val (.int u2), .val (.int u3), .val (.int u4), .val (.int (2 : Int32)), .val (.int t0), .val (.int t1), .val (.int t2), .unset, .unset, .unset, .unset] [(.int (2 : Int32))])) rfl (hb hby at_52) rfl (by decide) (cap := 2) (by decide) (by decide) (by decide) (by decide) (ad := "[I") (by decide)
          obtain ⟨b91, g91⟩ : ∃ z, z = h0.size := ⟨_, rfl⟩
          rw [← g91] at A91 Ea91 st91
          have V91 : AI Z h91 b91 .int 2 (fun _ => 0) := AI.new rfl rfl A91 (by decide) (by decide)
          have g_b91 : n0 ≤ b91 := Nat.le_trans Z0 (Nat.le_of_eq g91.symm)
          have Z91 : n0 ≤ h91.size := Nat.le_trans Z0 E91.1
          refine Goes.of st91 ?_
          show Goes _ _ _ _ _ _ _ (T91.setTop (mkF m 54 #[.val (.int u0), .val (.int u1), .val (.int u2), .val (.int u3), .val (.int u4), .val (.int (2 : Int32)), .val (.int t0), .val (.int t1), .val (.int t2), .unset, .unset, .unset, .unset] [(.ref b91)]))
          refine Goes.of (fun t k => XS.astore X91.here hx rfl (hb hby at_54) rfl rfl (l' := #[.val (.int u0), .val (.int u1), .val (.int u2), .val (.int u3), .val (.int u4), .val (.int (2 : Int32)), .val (.int t0), .val (.int t1), .val (.int t2), .val (.ref b91), .unset, .unset, .unset]) rfl k) ?_
          show Goes _ _ _ _ _ _ _ (T91.setTop (mkF m 56 #[.val (.int u0), .val (.int u1), .val (.int u2), .val (.int u3), .val (.int u4), .val (.int (2 : Int32)), .val (.int t0), .val (.int t1), .val (.int t2), .val (.ref b91), .unset, .unset, .unset] []))
          refine Goes.of (fun t k => XS.iload X91.here hx rfl (hb hby at_56) rfl k) ?_
          show Goes _ _ _ _ _ _ _ (T91.setTop (mkF m 58 #[.val (.int u0), .val (.int u1), .val (.int u2), .val (.int u3), .val (.int u4), .val (.int (2 : Int32)), .val (.int t0), .val (.int t1), .val (.int t2), .val (.ref b91), .unset, .unset, .unset] [(.int (2 : Int32))]))
          obtain ⟨T92, h92, k92, X92, e92, E92, A92, Ea92, st92⟩ := newPE X91 hx hZ (hw _ (List.mem_of_getElem? (i := 0) rfl)) e91 (g := (mkF m 58 #[.val (.int u0), .val (.int u1), .val (.int u2), .val (.int u3), .val (.int u4), .val (.int (2 : Int32)), .val (.int t0), .val (.int t1), .val (.int t2), .val (.ref b91), .unset, .unset, .unset] [(.int (2 : Int32))])) rfl (hb hby at_58) rfl (by decide) (cap := 2) (by decide) (by decide) (by decide) (by decide) (ad := "[I") (by decide)
          obtain ⟨b92, g92⟩ : ∃ z, z = h91.size := ⟨_, rfl⟩
          rw [← g92] at A92 Ea92 st92
          have V92 : AI Z h92 b92 .int 2 (fun _ => 0) := AI.new rfl rfl A92 (by decide) (by decide)
          have ne_b91_b92 : b91 ≠ b92 := Nat.ne_of_lt (Nat.lt_of_lt_of_le V91.lt (Nat.le_of_eq g92.symm))
          have g_b92 : n0 ≤ b92 := Nat.le_trans Z91 (Nat.le_of_eq g92.symm)
          have F93 := V91.ext E92
          have F94 := Exa.ext E92 Ea91
          have Z92 : n0 ≤ h92.size := Nat.le_trans Z91 E92.1
          refine Goes.of st92 ?_
          show Goes _ _ _ _ _ _ _ (T92.setTop (mkF m 60 #[.val (.int u0), .val (.int u1), .val (.int u2), .val (.int u3), .val (.int u4), .val (.int (2 : Int32)), .val (.int t0), .val (.int t1), .val (.int t2), .val (.ref b91), .unset, .unset, .unset] [(.ref b92)]))
          refine Goes.of (fun t k => XS.astore X92.here hx rfl (hb hby at_60) rfl rfl (l' := #[.val (.int u0), .val (.int u1), .val (.int u2), .val (.int u3), .val (.int u4), .val (.int (2 : Int32)), .val (.int t0), .val (.int t1), .val (.int t2), .val (.ref b91), .val (.ref b92), .unset, .unset]) rfl k) ?_
          show Goes _ _ _ _ _ _ _ (T92.setTop (mkF m 62 #[.val (.int u0), .val (.int u1), .val (.int u2), .val (.int u3), .val (.int u4), .val (.int (2 : Int32)), .val (.int t0), .val (.int t1), .val (.int t2), .val (.ref b91), .val (.ref b92), .unset, .unset] []))
          refine Goes.of (fun t k => XS.iload X92.here hx rfl (hb hby at_62) rfl k) ?_
          show Goes _ _ _ _ _ _ _ (T92.setTop (mkF m 64 #[.val (.int u0), .val (.int u1), .val (.int u2), .val (.int u3), .val (.int u4), .val (.int (2 : Int32)), .val (.int t0), .val (.int t1), .val (.int t2), .val (.ref b91), .val (.ref b92), .unset, .unset] [(.int (2 : Int32))]))
          refine Goes.of (fun t k => XS.ifNo X92.here hx rfl (hb hby at_64) rfl ((if0 _ _).trans (tlt (by decide : (0 : Int32) < (2 : Int32))).2.2.2) k) ?_
          show Goes _ _ _ _ _ _ _ (T92.setTop (mkF m 67 #[.val (.int u0), .val (.int u1), .val (.int u2), .val (.int u3), .val (.int u4), .val (.int (2 : Int32)), .val (.int t0), .val (.int t1), .val (.int t2), .val (.ref b91), .val (.ref b92), .unset, .unset] []))
          refine Goes.of (fun t k => XS.aload X92.here hx rfl (hb hby at_67) rfl rfl k) ?_
          show Goes _ _ _ _ _ _ _ (T92.setTop (mkF m 69 #[.val (.int u0), .val (.int u1), .val (.int u2), .val (.int u3), .val (.int u4), .val (.int (2 : Int32)), .val (.int t0), .val (.int t1), .val (.int t2), .val (.ref b91), .val (.ref b92), .unset, .unset] [(.ref b91)]))
          refine Goes.of (fun t k => XS.iconst X92.here hx rfl (hb hby at_69) k) ?_
          show Goes _ _ _ _ _ _ _ (T92.setTop (mkF m 70 #[.val (.int u0), .val (.int u1), .val (.int u2), .val (.int u3), .val (.int u4), .val (.int (2 : Int32)), .val (.int t0), .val (.int t1), .val (.int t2), .val (.ref b91), .val (.ref b92), .unset, .unset] [(.int (0 : Int32)), (.ref b91)]))
          refine Goes.of (fun t k => XS.iload X92.here hx rfl (hb hby at_70) rfl k) ?_
          show Goes _ _ _ _ _ _ _ (T92.setTop (mkF m 72 #[.val (.int u0), .val (.int u1), .val (.int u2), .val (.int u3), .val (.int u4), .val (.int (2 : Int32)), .val (.int t0), .val (.int t1), .val (.int t2), .val (.ref b91), .val (.ref b92), .unset, .unset] [(.int t0), (.int (0 : Int32)), (.ref b91)]))
          obtain ⟨T95, h95, X95, e95, W95, V95, st95⟩ := putI X92 hx hZ e92 F93 (j := (0 : Int32)) (x := t0) (i := 0) (by decide) (by decide) (by decide) (g := (mkF m 72 #[.val (.int u0), .val (.int u1), .val (.int u2), .val (.int u3), .val (.int u4), .val (.int (2 : Int32)), .val (.int t0), .val (.int t1), .val (.int t2), .val (.ref b91), .val (.ref b92), .unset, .unset] [(.int t0), (.int (0 : Int32)), (.ref b91)])) rfl rfl (hb hby at_72)
          have F96 := Exa.wr W95 F94
          have F97 := V92.other W95 (Ne.symm ne_b91_b92)
          have F98 := Exa.wr W95 Ea92
          have Z95 : n0 ≤ h95.size := Nat.le_trans Z92 (Keep.of_wr W95).1
          have N95 := Fr.snoc X95 N47 g_b91
          refine Goes.of st95 ?_
          show Goes _ _ _ _ _ _ _ (T95.setTop (mkF m 73 #[.val (.int u0), .val (.int u1), .val (.int u2), .val (.int u3), .val (.int u4), .val (.int (2 : Int32)), .val (.int t0), .val (.int t1), .val (.int t2), .val (.ref b91), .val (.ref b92), .unset, .unset] []))
          refine Goes.of (fun t k => XS.aload X95.here hx rfl (hb hby at_73) rfl rfl k) ?_
          show Goes _ _ _ _ _ _ _ (T95.setTop (mkF m 75 #[.val (.int u0), .val (.int u1), .val (.int u2), .val (.int u3), .val (.int u4), .val (.int (2 : Int32)), .val (.int t0), .val (.int t1), .val (.int t2), .val (.ref b91), .val (.ref b92), .unset, .unset] [(.ref b92)]))
          refine Goes.of (fun t k => XS.iconst X95.here hx rfl (hb hby at_75) k) ?_
          show Goes _ _ _ _ _ _ _ (T95.setTop (mkF m 76 #[.val (.int u0), .val (.int u1), .val (.int u2), .val (.int u3), .val (.int u4), .val (.int (2 : Int32)), .val (.int t0), .val (.int t1), .val (.int t2), .val (.ref b91), .val (.ref b92), .unset, .unset] [(.int (0 : Int32)), (.ref b92)]))
          refine Goes.of (fun t k => XS.iload X95.here hx rfl (hb hby at_76) rfl k) ?_
          show Goes _ _ _ _ _ _ _ (T95.setTop (mkF m 78 #[.val (.int u0), .val (.int u1), .val (.int u2), .val (.int u3), .val (.int u4), .val (.int (2 : Int32)), .val (.int t0), .val (.int t1), .val (.int t2), .val (.ref b91), .val (.ref b92), .unset, .unset] [(.int t0), (.int (0 : Int32)), (.ref b92)]))
          refine Goes.of (fun t k => XS.iload X95.here hx rfl (hb hby at_78) rfl k) ?_
          show Goes _ _ _ _ _ _ _ (T95.setTop (mkF m 80 #[.val (.int u0), .val (.int u1), .val (.int u2), .val (.int u3), .val (.int u4), .val (.int (2 : Int32)), .val (.int t0), .val (.int t1), .val (.int t2), .val (.ref b91), .val (.ref b92), .unset, .unset] [(.int u4), (.int t0), (.int (0 : Int32)), (.ref b92)]))
          obtain ⟨_, _, ⟨T99, L99, k99, n99⟩, -, X99, ⟨Lc99, hQ99, l99, y99, z99⟩, st99⟩ := Jvm.LawKit.callS X95 hx (y := (⟨"com/example/slotwright/slotwright/problems/postenrolment/TimetableIsCompletePinLaw", "room", "(II)I"⟩ : MethodName)) hown (mvT hZ (hw _ (List.mem_of_getElem? (i := 28) rfl))) (mvT hZ (hw _ (List.mem_of_getElem? (i := 29) rfl))) (mvT hZ (hw _ (List.mem_of_getElem? (i := 30) rfl))) (mvT hZ (hw _ (List.mem_of_getElem? (i := 31) rfl))) (by decide) (backOf (W := 2) (rm4 l Z a0 hw [] t0 u4  h95 n0 ) hZ (hw _ (List.mem_of_getElem? (i := 31) rfl)) (hw _ (List.mem_of_getElem? (i := 30) rfl)) (by decide) (by decide)) (g := (mkF m 80 #[.val (.int u0), .val (.int u1), .val (.int u2), .val (.int u3), .val (.int u4), .val (.int (2 : Int32)), .val (.int t0), .val (.int t1), .val (.int t2), .val (.ref b91), .val (.ref b92), .unset, .unset] [(.int u4), (.int t0), (.int (0 : Int32)), (.ref b92)])) rfl (by rw [hml]; rfl) (argsL := [(.int t0), (.int u4)]) (rest := [(.int (0 : Int32)), (.ref b92)]) (lenOf pd_2 rfl) rfl (by show 2 * 0 + _ ≤ _; exact Nat.le_of_eq rfl) (hb hby at_80) (fun _ _ => ⟨rfl, e95, (by decide : 2 + 0 ≤ _), (by decide : 4 + 0 ≤ _)⟩)
          dsimp only [Pt.U, Pt.locs, Pt.cells, Pt.slots] at X99 l99 y99 z99 st99 hQ99
          subst l99 y99 z99
          obtain ⟨rfl, N99q, e99⟩ := hQ99
          have N99 := Fr.app N95 N99q
          refine Goes.of st99 ?_
          show Goes _ _ _ _ _ _ _ (T99.setTop (mkF m 83 #[.val (.int u0), .val (.int u1), .val (.int u2), .val (.int u3), .val (.int u4), .val (.int (2 : Int32)), .val (.int t0), .val (.int t1), .val (.int t2), .val (.ref b91), .val (.ref b92), .unset, .unset] [(.int (f4 t0 u4)), (.int (0 : Int32)), (.ref b92)]))
          obtain ⟨T100, h100, X100, e100, W100, V100, st100⟩ := putI X99 hx hZ e99 F97 (j := (0 : Int32)) (x := (f4 t0 u4)) (i := 0) (by decide) (by decide) (by decide) (g := (mkF m 83 #[.val (.int u0), .val (.int u1), .val (.int u2), .val (.int u3), .val (.int u4), .val (.int (2 : Int32)), .val (.int t0), .val (.int t1), .val (.int t2), .val (.ref b91), .val (.ref b92), .unset, .unset] [(.int (f4 t0 u4)), (.int (0 : Int32)), (.ref b92)])) rfl rfl (hb hby at_83)
          have F101 := V95.other W100 ne_b91_b92
          have F102 := Exa.wr W100 F96
          have F103 := Exa.wr W100 F98
          have Z100 : n0 ≤ h100.size := Nat.le_trans Z95 (Keep.of_wr W100).1
          have N100 := Fr.snoc X100 N99 g_b92
          refine Goes.of st100 ?_
          show Goes _ _ _ _ _ _ _ (T100.setTop (mkF m 84 #[.val (.int u0), .val (.int u1), .val (.int u2), .val (.int u3), .val (.int u4), .val (.int (2 : Int32)), .val (.int t0), .val (.int t1), .val (.int t2), .val (.ref b91), .val (.ref b92), .unset, .unset] []))
          refine Goes.of (fun t k => XS.iload X100.here hx rfl (hb hby at_84) rfl k) ?_
          show Goes _ _ _ _ _ _ _ (T100.setTop (mkF m 86 #[.val (.int u0), .val (.int u1), .val (.int u2), .val (.int u3), .val (.int u4), .val (.int (2 : Int32)), .val (.int t0), .val (.int t1), .val (.int t2), .val (.ref b91), .val (.ref b92), .unset, .unset] [(.int (2 : Int32))]))
          refine Goes.of (fun t k => XS.iconst X100.here hx rfl (hb hby at_86) k) ?_
          show Goes _ _ _ _ _ _ _ (T100.setTop (mkF m 87 #[.val (.int u0), .val (.int u1), .val (.int u2), .val (.int u3), .val (.int u4), .val (.int (2 : Int32)), .val (.int t0), .val (.int t1), .val (.int t2), .val (.ref b91), .val (.ref b92), .unset, .unset] [(.int (1 : Int32)), (.int (2 : Int32))]))
          refine Goes.of (fun t k => XS.icmpNo X100.here hx rfl (hb hby at_87) rfl (tlt (by decide : (1 : Int32) < (2 : Int32))).2.2.2 k) ?_
          show Goes _ _ _ _ _ _ _ (T100.setTop (mkF m 90 #[.val (.int u0), .val (.int u1), .val (.int u2), .val (.int u3), .val (.int u4), .val (.int (2 : Int32)), .val (.int t0), .val (.int t1), .val (.int t2), .val (.ref b91), .val (.ref b92), .unset, .unset] []))
          refine Goes.of (fun t k => XS.aload X100.here hx rfl (hb hby at_90) rfl rfl k) ?_
          show Goes _ _ _ _ _ _ _ (T100.setTop (mkF m 92 #[.val (.int u0), .val (.int u1), .val (.int u2), .val (.int u3), .val (.int u4), .val (.int (2 : Int32)), .val (.int t0), .val (.int t1), .val (.int t2), .val (.ref b91), .val (.ref b92), .unset, .unset] [(.ref b91)]))
          refine Goes.of (fun t k => XS.iconst X100.here hx rfl (hb hby at_92) k) ?_
          show Goes _ _ _ _ _ _ _ (T100.setTop (mkF m 93 #[.val (.int u0), .val (.int u1), .val (.int u2), .val (.int u3), .val (.int u4), .val (.int (2 : Int32)), .val (.int t0), .val (.int t1), .val (.int t2), .val (.ref b91), .val (.ref b92), .unset, .unset] [(.int (1 : Int32)), (.ref b91)]))
          refine Goes.of (fun t k => XS.iload X100.here hx rfl (hb hby at_93) rfl k) ?_
          show Goes _ _ _ _ _ _ _ (T100.setTop (mkF m 95 #[.val (.int u0), .val (.int u1), .val (.int u2), .val (.int u3), .val (.int u4), .val (.int (2 : Int32)), .val (.int t0), .val (.int t1), .val (.int t2), .val (.ref b91), .val (.ref b92), .unset, .unset] [(.int t1), (.int (1 : Int32)), (.ref b91)]))
          obtain ⟨T104, h104, X104, e104, W104, V104, st104⟩ := putI X100 hx hZ e100 F101 (j := (1 : Int32)) (x := t1) (i := 1) (by decide) (by decide) (by decide) (g := (mkF m 95 #[.val (.int u0), .val (.int u1), .val (.int u2), .val (.int u3), .val (.int u4), .val (.int (2 : Int32)), .val (.int t0), .val (.int t1), .val (.int t2), .val (.ref b91), .val (.ref b92), .unset, .unset] [(.int t1), (.int (1 : Int32)), (.ref b91)])) rfl rfl (hb hby at_95)
          have F105 := Exa.wr W104 F102
          have F106 := V100.other W104 (Ne.symm ne_b91_b92)
          have F107 := Exa.wr W104 F103
          have Z104 : n0 ≤ h104.size := Nat.le_trans Z100 (Keep.of_wr W104).1
          have N104 := Fr.snoc X104 N100 g_b91
          refine Goes.of st104 ?_
          show Goes _ _ _ _ _ _ _ (T104.setTop (mkF m 96 #[.val (.int u0), .val (.int u1), .val (.int u2), .val (.int u3), .val (.int u4), .val (.int (2 : Int32)), .val (.int t0), .val (.int t1), .val (.int t2), .val (.ref b91), .val (.ref b92), .unset, .unset] []))
          refine Goes.of (fun t k => XS.aload X104.here hx rfl (hb hby at_96) rfl rfl k) ?_
          show Goes _ _ _ _ _ _ _ (T104.setTop (mkF m 98 #[.val (.int u0), .val (.int u1), .val (.int u2), .val (.int u3), .val (.int u4), .val (.int (2 : Int32)), .val (.int t0), .val (.int t1), .val (.int t2), .val (.ref b91), .val (.ref b92), .unset, .unset] [(.ref b92)]))
          refine Goes.of (fun t k => XS.iconst X104.here hx rfl (hb hby at_98) k) ?_
          show Goes _ _ _ _ _ _ _ (T104.setTop (mkF m 99 #[.val (.int u0), .val (.int u1), .val (.int u2), .val (.int u3), .val (.int u4), .val (.int (2 : Int32)), .val (.int t0), .val (.int t1), .val (.int t2), .val (.ref b91), .val (.ref b92), .unset, .unset] [(.int (1 : Int32)), (.ref b92)]))
          refine Goes.of (fun t k => XS.iload X104.here hx rfl (hb hby at_99) rfl k) ?_
          show Goes _ _ _ _ _ _ _ (T104.setTop (mkF m 101 #[.val (.int u0), .val (.int u1), .val (.int u2), .val (.int u3), .val (.int u4), .val (.int (2 : Int32)), .val (.int t0), .val (.int t1), .val (.int t2), .val (.ref b91), .val (.ref b92), .unset, .unset] [(.int t1), (.int (1 : Int32)), (.ref b92)]))
          refine Goes.of (fun t k => XS.iload X104.here hx rfl (hb hby at_101) rfl k) ?_
          show Goes _ _ _ _ _ _ _ (T104.setTop (mkF m 103 #[.val (.int u0), .val (.int u1), .val (.int u2), .val (.int u3), .val (.int u4), .val (.int (2 : Int32)), .val (.int t0), .val (.int t1), .val (.int t2), .val (.ref b91), .val (.ref b92), .unset, .unset] [(.int u4), (.int t1), (.int (1 : Int32)), (.ref b92)]))
          obtain ⟨_, _, ⟨T108, L108, k108, n108⟩, -, X108, ⟨Lc108, hQ108, l108, y108, z108⟩, st108⟩ := Jvm.LawKit.callS X104 hx (y := (⟨"com/example/slotwright/slotwright/problems/postenrolment/TimetableIsCompletePinLaw", "room", "(II)I"⟩ : MethodName)) hown (mvT hZ (hw _ (List.mem_of_getElem? (i := 28) rfl))) (mvT hZ (hw _ (List.mem_of_getElem? (i := 29) rfl))) (mvT hZ (hw _ (List.mem_of_getElem? (i := 30) rfl))) (mvT hZ (hw _ (List.mem_of_getElem? (i := 31) rfl))) (by decide) (backOf (W := 2) (rm4 l Z a0 hw [] t1 u4  h104 n0 ) hZ (hw _ (List.mem_of_getElem? (i := 31) rfl)) (hw _ (List.mem_of_getElem? (i := 30) rfl)) (by decide) (by decide)) (g := (mkF m 103 #[.val (.int u0), .val (.int u1), .val (.int u2), .val (.int u3), .val (.int u4), .val (.int (2 : Int32)), .val (.int t0), .val (.int t1), .val (.int t2), .val (.ref b91), .val (.ref b92), .unset, .unset] [(.int u4), (.int t1), (.int (1 : Int32)), (.ref b92)])) rfl (by rw [hml]; rfl) (argsL := [(.int t1), (.int u4)]) (rest := [(.int (1 : Int32)), (.ref b92)]) (lenOf pd_2 rfl) rfl (by show 2 * 0 + _ ≤ _; exact Nat.le_of_eq rfl) (hb hby at_103) (fun _ _ => ⟨rfl, e104, (by decide : 2 + 0 ≤ _), (by decide : 4 + 0 ≤ _)⟩)
          dsimp only [Pt.U, Pt.locs, Pt.cells, Pt.slots] at X108 l108 y108 z108 st108 hQ108
          subst l108 y108 z108
          obtain ⟨rfl, N108q, e108⟩ := hQ108
          have N108 := Fr.app N104 N108q
          refine Goes.of st108 ?_
          show Goes _ _ _ _ _ _ _ (T108.setTop (mkF m 106 #[.val (.int u0), .val (.int u1), .val (.int u2), .val (.int u3), .val (.int u4), .val (.int (2 : Int32)), .val (.int t0), .val (.int t1), .val (.int t2), .val (.ref b91), .val (.ref b92), .unset, .unset] [(.int (f4 t1 u4)), (.int (1 : Int32)), (.ref b92)]))
          obtain ⟨T109, h109, X109, e109, W109, V109, st109⟩ := putI X108 hx hZ e108 F106 (j := (1 : Int32)) (x := (f4 t1 u4)) (i := 1) (by decide) (by decide) (by decide) (g := (mkF m 106 #[.val (.int u0), .val (.int u1), .val (.int u2), .val (.int u3), .val (.int u4), .val (.int (2 : Int32)), .val (.int t0), .val (.int t1), .val (.int t2), .val (.ref b91), .val (.ref b92), .unset, .unset] [(.int (f4 t1 u4)), (.int (1 : Int32)), (.ref b92)])) rfl rfl (hb hby at_106)
          have F110 := V104.other W109 ne_b91_b92
          have F111 := Exa.wr W109 F105
          have F112 := Exa.wr W109 F107
          have Z109 : n0 ≤ h109.size := Nat.le_trans Z104 (Keep.of_wr W109).1
          have N109 := Fr.snoc X109 N108 g_b92
          refine Goes.of st109 ?_
          show Goes _ _ _ _ _ _ _ (T109.setTop (mkF m 107 #[.val (.int u0), .val (.int u1), .val (.int u2), .val (.int u3), .val (.int u4), .val (.int (2 : Int32)), .val (.int t0), .val (.int t1), .val (.int t2), .val (.ref b91), .val (.ref b92), .unset, .unset] []))
          refine Goes.of (fun t k => XS.iload X109.here hx rfl (hb hby at_107) rfl k) ?_
          show Goes _ _ _ _ _ _ _ (T109.setTop (mkF m 109 #[.val (.int u0), .val (.int u1), .val (.int u2), .val (.int u3), .val (.int u4), .val (.int (2 : Int32)), .val (.int t0), .val (.int t1), .val (.int t2), .val (.ref b91), .val (.ref b92), .unset, .unset] [(.int (2 : Int32))]))
          refine Goes.of (fun t k => XS.iconst X109.here hx rfl (hb hby at_109) k) ?_
          show Goes _ _ _ _ _ _ _ (T109.setTop (mkF m 110 #[.val (.int u0), .val (.int u1), .val (.int u2), .val (.int u3), .val (.int u4), .val (.int (2 : Int32)), .val (.int t0), .val (.int t1), .val (.int t2), .val (.ref b91), .val (.ref b92), .unset, .unset] [(.int (2 : Int32)), (.int (2 : Int32))]))
          refine Goes.of (fun t k => XS.icmpYes X109.here hx rfl (pc0 := 110) (pc' := 130) rfl (hb hby at_110) rfl (flt (by decide : ¬ ((2 : Int32) < (2 : Int32)))).2.2.2 (by decide) (by decide) k) ?_
          show Goes _ _ _ _ _ _ _ (T109.setTop (mkF m 130 #[.val (.int u0), .val (.int u1), .val (.int u2), .val (.int u3), .val (.int u4), .val (.int (2 : Int32)), .val (.int t0), .val (.int t1), .val (.int t2), .val (.ref b91), .val (.ref b92), .unset, .unset] []))
          obtain ⟨ff, hf_ff⟩ : ∃ f : Nat → Int32, f = (upd (upd (fun _ => 0) 0 t0) 1 t1) := ⟨_, rfl⟩
          rw [← hf_ff] at F110
          obtain ⟨gg, hf_gg⟩ : ∃ f : Nat → Int32, f = (upd (upd (fun _ => 0) 0 (f4 t0 u4)) 1 (f4 t1 u4)) := ⟨_, rfl⟩
          rw [← hf_gg] at V109
          obtain ⟨T113, h113, X113, e113, E113, A113, D113, -, st113⟩ := newO X109 hx hZ hown (hw _ (List.mem_of_getElem? (i := 1) rfl)) (hw _ (List.mem_of_getElem? (i := 2) rfl)) (hw _ (List.mem_of_getElem? (i := 3) rfl)) e109 (g := (mkF m 130 #[.val (.int u0), .val (.int u1), .val (.int u2), .val (.int u3), .val (.int u4), .val (.int (2 : Int32)), .val (.int t0), .val (.int t1), .val (.int t2), .val (.ref b91), .val (.ref b92), .unset, .unset] [])) rfl (hb hby at_130) (by decide) (by decide)
          obtain ⟨b113, g113⟩ : ∃ z, z = h109.size := ⟨_, rfl⟩
          rw [← g113] at A113 D113 st113
          have ne_b91_b113 : b91 ≠ b113 := Nat.ne_of_lt (Nat.lt_of_lt_of_le F110.lt (Nat.le_of_eq g113.symm))
          have ne_b92_b113 : b92 ≠ b113 := Nat.ne_of_lt (Nat.lt_of_lt_of_le V109.lt (Nat.le_of_eq g113.symm))
          have g_b113 : n0 ≤ b113 := Nat.le_trans Z109 (Nat.le_of_eq g113.symm)
          have F114 := F110.ext E113
          have F115 := Exa.ext E113 F111
          have F116 := V109.ext E113
          have F117 := Exa.ext E113 F112
          have Z113 : n0 ≤ h113.size := Nat.le_trans Z109 E113.1
          have F_timeslots_b113 : Fld Z h113 b113 "com/example/slotwright/slotwright/problems/postenrolment/Timetable" "timeslots" "[I" .null := D113 (Or.inr (hw _ (List.mem_of_getElem? (i := 20) rfl))) (ty := (.array .int)) (by decide)
          have F_rooms_b113 : Fld Z h113 b113 "com/example/slotwright/slotwright/problems/postenrolment/Timetable" "rooms" "[I" .null := D113 (Or.inr (hw _ (List.mem_of_getElem? (i := 22) rfl))) (ty := (.array .int)) (by decide)
          refine Goes.of st113 ?_
          show Goes _ _ _ _ _ _ _ (T113.setTop (mkF m 133 #[.val (.int u0), .val (.int u1), .val (.int u2), .val (.int u3), .val (.int u4), .val (.int (2 : Int32)), .val (.int t0), .val (.int t1), .val (.int t2), .val (.ref b91), .val (.ref b92), .unset, .unset] [(.ref b113)]))
          refine Goes.of (fun t k => XS.dup X113.here hx rfl (hb hby at_133) rfl rfl k) ?_
          show Goes _ _ _ _ _ _ _ (T113.setTop (mkF m 134 #[.val (.int u0), .val (.int u1), .val (.int u2), .val (.int u3), .val (.int u4), .val (.int (2 : Int32)), .val (.int t0), .val (.int t1), .val (.int t2), .val (.ref b91), .val (.ref b92), .unset, .unset] [(.ref b113), (.ref b113)]))
          refine Goes.of (fun t k => XS.aload X113.here hx rfl (hb hby at_134) rfl rfl k) ?_
          show Goes _ _ _ _ _ _ _ (T113.setTop (mkF m 136 #[.val (.int u0), .val (.int u1), .val (.int u2), .val (.int u3), .val (.int u4), .val (.int (2 : Int32)), .val (.int t0), .val (.int t1), .val (.int t2), .val (.ref b91), .val (.ref b92), .unset, .unset] [(.ref b91), (.ref b113), (.ref b113)]))
          refine Goes.of (fun t k => XS.aload X113.here hx rfl (hb hby at_136) rfl rfl k) ?_
          show Goes _ _ _ _ _ _ _ (T113.setTop (mkF m 138 #[.val (.int u0), .val (.int u1), .val (.int u2), .val (.int u3), .val (.int u4), .val (.int (2 : Int32)), .val (.int t0), .val (.int t1), .val (.int t2), .val (.ref b91), .val (.ref b92), .unset, .unset] [(.ref b92), (.ref b91), (.ref b113), (.ref b113)]))
          obtain ⟨_, _, ⟨T118, L118, k118, n118⟩, -, X118, ⟨Lc118, hQ118, l118, y118, z118⟩, st118⟩ := X113.specialBack hx (y := (⟨"com/example/slotwright/slotwright/problems/postenrolment/Timetable", "<init>", "([I[I)V"⟩ : MethodName)) rfl hown (mvT hZ (hw _ (List.mem_of_getElem? (i := 4) rfl))) (mvT hZ (hw _ (List.mem_of_getElem? (i := 5) rfl))) (mvT hZ (hw _ (List.mem_of_getElem? (i := 6) rfl))) (by decide) (backOf (W := 1) (rm1 l Z a0 hw [] b113 b91 b92 2 (2 : Int32) ff gg h113 n0 Z113 A113 F_timeslots_b113 F_rooms_b113 g_b113 F114 F116 F115 F117 (Ne.symm ne_b91_b113) (Ne.symm ne_b92_b113) (by decide) (by decide)) hZ (hw _ (List.mem_of_getElem? (i := 6) rfl)) (hw _ (List.mem_of_getElem? (i := 3) rfl)) (by decide) (by decide)) (g := (mkF m 138 #[.val (.int u0), .val (.int u1), .val (.int u2), .val (.int u3), .val (.int u4), .val (.int (2 : Int32)), .val (.int t0), .val (.int t1), .val (.int t2), .val (.ref b91), .val (.ref b92), .unset, .unset] [(.ref b92), (.ref b91), (.ref b113), (.ref b113)])) rfl (by rw [hml]; rfl) (Steps.refl _) (a := b113) (argsL := [(.ref b91), (.ref b92)]) (rest := [(.ref b113)]) (lenOf pd_3 rfl) rfl (by show 2 * 0 + _ ≤ _; exact Nat.le_of_eq rfl) (hb hby at_138) (fun _ _ => ⟨rfl, e113, (by decide : 3 + 2 ≤ _), (by decide : 6 + 6 ≤ _)⟩)
          dsimp only [Pt.U, Pt.locs, Pt.cells, Pt.slots] at X118 l118 y118 z118 st118 hQ118
          subst l118 y118 z118
          obtain ⟨rfl, N118q, ta118, K118, sz118, Eo118, Ft118, Vt118⟩ := hQ118
          have F119 := F114.keep K118 (ninS ne_b91_b113 nin0)
          have F120 := F115.keep K118
          have F121 := F116.keep K118 (ninS ne_b92_b113 nin0)
          have F122 := F117.keep K118
          have F123 := A113.keep K118
          have Z118 : n0 ≤ T118.heap.size := Nat.le_trans Z113 K118.1
          have N118 := Fr.app N109 N118q
          refine Goes.of (fun t k => st118.trans k) ?_
          show Goes _ _ _ _ _ _ _ (T118.setTop (mkF m 141 #[.val (.int u0), .val (.int u1), .val (.int u2), .val (.int u3), .val (.int u4), .val (.int (2 : Int32)), .val (.int t0), .val (.int t1), .val (.int t2), .val (.ref b91), .val (.ref b92), .unset, .unset] [(.ref b113)]))
          refine Goes.of (fun t k => XS.astore X118.here hx rfl (hb hby at_141) rfl rfl (l' := #[.val (.int u0), .val (.int u1), .val (.int u2), .val (.int u3), .val (.int u4), .val (.int (2 : Int32)), .val (.int t0), .val (.int t1), .val (.int t2), .val (.ref b91), .val (.ref b92), .val (.ref b113), .unset]) rfl k) ?_
          show Goes _ _ _ _ _ _ _ (T118.setTop (mkF m 143 #[.val (.int u0), .val (.int u1), .val (.int u2), .val (.int u3), .val (.int u4), .val (.int (2 : Int32)), .val (.int t0), .val (.int t1), .val (.int t2), .val (.ref b91), .val (.ref b92), .val (.ref b113), .unset] []))
          refine Goes.of (fun t k => XS.iload X118.here hx rfl (hb hby at_143) rfl k) ?_
          show Goes _ _ _ _ _ _ _ (T118.setTop (mkF m 145 #[.val (.int u0), .val (.int u1), .val (.int u2), .val (.int u3), .val (.int u4), .val (.int (2 : Int32)), .val (.int t0), .val (.int t1), .val (.int t2), .val (.ref b91), .val (.ref b92), .val (.ref b113), .unset] [(.int (2 : Int32))]))
          refine Goes.of (fun t k => XS.ifNo X118.here hx rfl (hb hby at_145) rfl ((if0 _ _).trans (tlt (by decide : (0 : Int32) < (2 : Int32))).2.2.2) k) ?_
          show Goes _ _ _ _ _ _ _ (T118.setTop (mkF m 148 #[.val (.int u0), .val (.int u1), .val (.int u2), .val (.int u3), .val (.int u4), .val (.int (2 : Int32)), .val (.int t0), .val (.int t1), .val (.int t2), .val (.ref b91), .val (.ref b92), .val (.ref b113), .unset] []))
          refine Goes.of (fun t k => XS.iload X118.here hx rfl (hb hby at_148) rfl k) ?_
          show Goes _ _ _ _ _ _ _ (T118.setTop (mkF m 150 #[.val (.int u0), .val (.int u1), .val (.int u2), .val (.int u3), .val (.int u4), .val (.int (2 : Int32)), .val (.int t0), .val (.int t1), .val (.int t2), .val (.ref b91), .val (.ref b92), .val (.ref b113), .unset] [(.int t0)]))
          refine Goes.of (fun t k => XS.iconst X118.here hx rfl (hb hby at_150) k) ?_
          show Goes _ _ _ _ _ _ _ (T118.setTop (mkF m 151 #[.val (.int u0), .val (.int u1), .val (.int u2), .val (.int u3), .val (.int u4), .val (.int (2 : Int32)), .val (.int t0), .val (.int t1), .val (.int t2), .val (.ref b91), .val (.ref b92), .val (.ref b113), .unset] [(.int (-1 : Int32)), (.int t0)]))
          by_cases hc124 : t0 = (-1 : Int32)
          · refine Goes.of (fun t k => XS.icmpYes X118.here hx rfl (pc0 := 151) (pc' := 182) rfl (hb hby at_151) rfl (teq hc124).1 (by decide) (by decide) k) ?_
            show Goes _ _ _ _ _ _ _ (T118.setTop (mkF m 182 #[.val (.int u0), .val (.int u1), .val (.int u2), .val (.int u3), .val (.int u4), .val (.int (2 : Int32)), .val (.int t0), .val (.int t1), .val (.int t2), .val (.ref b91), .val (.ref b92), .val (.ref b113), .unset] []))
            refine Goes.of (fun t k => XS.iconst X118.here hx rfl (hb hby at_182) k) ?_
            show Goes _ _ _ _ _ _ _ (T118.setTop (mkF m 183 #[.val (.int u0), .val (.int u1), .val (.int u2), .val (.int u3), .val (.int u4), .val (.int (2 : Int32)), .val (.int t0), .val (.int t1), .val (.int t2), .val (.ref b91), .val (.ref b92), .val (.ref b113), .unset] [(.int (0 : Int32))]))
            refine Goes.of (fun t k => XS.istore X118.here hx rfl (hb hby at_183) rfl (l' := #[.val (.int u0), .val (.int u1), .val (.int u2), .val (.int u3), .val (.int u4), .val (.int (2 : Int32)), .val (.int t0), .val (.int t1), .val (.int t2), .val (.ref b91), .val (.ref b92), .val (.ref b113), .val (.int (0 : Int32))]) rfl k) ?_
            show Goes _ _ _ _ _ _ _ (T118.setTop (mkF m 185 #[.val (.int u0), .val (.int u1), .val (.int u2), .val (.int u3), .val (.int u4), .val (.int (2 : Int32)), .val (.int t0), .val (.int t1), .val (.int t2), .val (.ref b91), .val (.ref b92), .val (.ref b113), .val (.int (0 : Int32))] []))
            refine Goes.of (fun t k => XS.aload X118.here hx rfl (hb hby at_185) rfl rfl k) ?_
            show Goes _ _ _ _ _ _ _ (T118.setTop (mkF m 187 #[.val (.int u0), .val (.int u1), .val (.int u2), .val (.int u3), .val (.int u4), .val (.int (2 : Int32)), .val (.int t0), .val (.int t1), .val (.int t2), .val (.ref b91), .val (.ref b92), .val (.ref b113), .val (.int (0 : Int32))] [(.ref b113)]))
            obtain ⟨cq125, kq125, q125a, q125b, q125c⟩ := isOf hZ rfl Eo118
            obtain ⟨_, _, ⟨T125, L125, k125, n125⟩, -, X125, ⟨Lc125, hQ125, l125, y125, z125⟩, st125⟩ := X118.virtualBack hx (y := (⟨"com/example/slotwright/slotwright/problems/postenrolment/Timetable", "isComplete", "()Z"⟩ : MethodName)) (z := (⟨"com/example/slotwright/slotwright/problems/postenrolment/Timetable", "isComplete", "()Z"⟩ : MethodName)) hown (mvT hZ (hw _ (List.mem_of_getElem? (i := 23) rfl))) (mvT hZ (hw _ (List.mem_of_getElem? (i := 24) rfl))) (notFace_of_selects (args := #[]) (mvT hZ (hw _ (List.mem_of_getElem? (i := 26) rfl)))) (mvT hZ (hw _ (List.mem_of_getElem? (i := 26) rfl))) (mvT hZ (hw _ (List.mem_of_getElem? (i := 25) rfl))) (by decide) (backOf (W := 0) (rm3 l Z a0 hw [] b113 ta118 2 (2 : Int32) ff T118.heap n0 Z118 Ft118 Vt118 (by decide)) hZ (hw _ (List.mem_of_getElem? (i := 27) rfl)) (hw _ (List.mem_of_getElem? (i := 3) rfl)) (by decide) (by decide)) q125a q125c (g := (mkF m 187 #[.val (.int u0), .val (.int u1), .val (.int u2), .val (.int u3), .val (.int u4), .val (.int (2 : Int32)), .val (.int t0), .val (.int t1), .val (.int t2), .val (.ref b91), .val (.ref b92), .val (.ref b113), .val (.int (0 : Int32))] [(.ref b113)])) rfl (by rw [hml]; rfl) (Steps.refl _) (argsL := []) (rest := []) (lenOf pd_4 rfl) rfl (by show 2 * 0 + _ ≤ _; exact Nat.le_of_eq rfl) (hb hby at_187) (fun _ _ => ⟨rfl, rfl, (by decide : 5 + 0 ≤ _), (by decide : 12 + 0 ≤ _)⟩)
            dsimp only [Pt.U, Pt.locs, Pt.cells, Pt.slots] at X125 l125 y125 z125 st125 hQ125
            subst l125 y125 z125
            obtain ⟨rfl, N125q, e125⟩ := hQ125
            have N125 := Fr.app N118 N125q
            refine Goes.of (fun t k => st125.trans k) ?_
            show Goes _ _ _ _ _ _ _ (T125.setTop (mkF m 190 #[.val (.int u0), .val (.int u1), .val (.int u2), .val (.int u3), .val (.int u4), .val (.int (2 : Int32)), .val (.int t0), .val (.int t1), .val (.int t2), .val (.ref b91), .val (.ref b92), .val (.ref b113), .val (.int (0 : Int32))] [(.int (own_cmp ff 2 0))]))
            refine Goes.of (fun t k => XS.iload X125.here hx rfl (hb hby at_190) rfl k) ?_
            show Goes _ _ _ _ _ _ _ (T125.setTop (mkF m 192 #[.val (.int u0), .val (.int u1), .val (.int u2), .val (.int u3), .val (.int u4), .val (.int (2 : Int32)), .val (.int t0), .val (.int t1), .val (.int t2), .val (.ref b91), .val (.ref b92), .val (.ref b113), .val (.int (0 : Int32))] [(.int (0 : Int32)), (.int (own_cmp ff 2 0))]))
            refine Goes.of (fun t k => XS.icmpNo X125.here hx rfl (hb hby at_192) rfl (teq (by rw [hf_ff]; show (if t0 = (-1 : Int32) then (0 : Int32) else (if t1 = (-1 : Int32) then (0 : Int32) else (1 : Int32))) = _; rw [if_pos hc124])).2 k) ?_
            show Goes _ _ _ _ _ _ _ (T125.setTop (mkF m 195 #[.val (.int u0), .val (.int u1), .val (.int u2), .val (.int u3), .val (.int u4), .val (.int (2 : Int32)), .val (.int t0), .val (.int t1), .val (.int t2), .val (.ref b91), .val (.ref b92), .val (.ref b113), .val (.int (0 : Int32))] []))
            refine Goes.of (fun t k => XS.iconst X125.here hx rfl (hb hby at_195) k) ?_
            show Goes _ _ _ _ _ _ _ (T125.setTop (mkF m 196 #[.val (.int u0), .val (.int u1), .val (.int u2), .val (.int u3), .val (.int u4), .val (.int (2 : Int32)), .val (.int t0), .val (.int t1), .val (.int t2), .val (.ref b91), .val (.ref b92), .val (.ref b113), .val (.int (0 : Int32))] [(.int (1 : Int32))]))
            refine Goes.of (fun t k => XS.goto X125.here hx rfl (pc0 := 196) (pc' := 200) rfl (hb hby at_196) (by decide) (by decide) k) ?_
            show Goes _ _ _ _ _ _ _ (T125.setTop (mkF m 200 #[.val (.int u0), .val (.int u1), .val (.int u2), .val (.int u3), .val (.int u4), .val (.int (2 : Int32)), .val (.int t0), .val (.int t1), .val (.int t2), .val (.ref b91), .val (.ref b92), .val (.ref b113), .val (.int (0 : Int32))] [(.int (1 : Int32))]))
            exact Goes.fin X125 hlk (v := some (.int (1 : Int32))) (fun h => by rw [Bd.returns] at h; cases h) (fun fs hr => retN X125 hx (t := .boolean) Bd.returns (by simp) (hb hby at_200) hr) ⟨rfl, N125⟩ (by decide) (by decide)
          · refine Goes.of (fun t k => XS.icmpNo X118.here hx rfl (hb hby at_151) rfl (feq hc124).1 k) ?_
            show Goes _ _ _ _ _ _ _ (T118.setTop (mkF m 154 #[.val (.int u0), .val (.int u1), .val (.int u2), .val (.int u3), .val (.int u4), .val (.int (2 : Int32)), .val (.int t0), .val (.int t1), .val (.int t2), .val (.ref b91), .val (.ref b92), .val (.ref b113), .unset] []))
            refine Goes.of (fun t k => XS.iload X118.here hx rfl (hb hby at_154) rfl k) ?_
            show Goes _ _ _ _ _ _ _ (T118.setTop (mkF m 156 #[.val (.int u0), .val (.int u1), .val (.int u2), .val (.int u3), .val (.int u4), .val (.int (2 : Int32)), .val (.int t0), .val (.int t1), .val (.int t2), .val (.ref b91), .val (.ref b92), .val (.ref b113), .unset] [(.int (2 : Int32))]))
            refine Goes.of (fun t k => XS.iconst X118.here hx rfl (hb hby at_156) k) ?_
            show Goes _ _ _ _ _ _ _ (T118.setTop (mkF m 157 #[.val (.int u0), .val (.int u1), .val (.int u2), .val (.int u3), .val (.int u4), .val (.int (2 : Int32)), .val (.int t0), .val (.int t1), .val (.int t2), .val (.ref b91), .val (.ref b92), .val (.ref b113), .unset] [(.int (1 : Int32)), (.int (2 : Int32))]))
            refine Goes.of (fun t k => XS.icmpNo X118.here hx rfl (hb hby at_157) rfl (tlt (by decide : (1 : Int32) < (2 : Int32))).2.2.2 k) ?_
            show Goes _ _ _ _ _ _ _ (T118.setTop (mkF m 160 #[.val (.int u0), .val (.int u1), .val (.int u2), .val (.int u3), .val (.int u4), .val (.int (2 : Int32)), .val (.int t0), .val (.int t1), .val (.int t2), .val (.ref b91), .val (.ref b92), .val (.ref b113), .unset] []))
            refine Goes.of (fun t k => XS.iload X118.here hx rfl (hb hby at_160) rfl k) ?_
            show Goes _ _ _ _ _ _ _ (T118.setTop (mkF m 162 #[.val (.int u0), .val (.int u1), .val (.int u2), .val (.int u3), .val (.int u4), .val (.int (2 : Int32)), .val (.int t0), .val (.int t1), .val (.int t2), .val (.ref b91), .val (.ref b92), .val (.ref b113), .unset] [(.int t1)]))
            refine Goes.of (fun t k => XS.iconst X118.here hx rfl (hb hby at_162) k) ?_
            show Goes _ _ _ _ _ _ _ (T118.setTop (mkF m 163 #[.val (.int u0), .val (.int u1), .val (.int u2), .val (.int u3), .val (.int u4), .val (.int (2 : Int32)), .val (.int t0), .val (.int t1), .val (.int t2), .val (.ref b91), .val (.ref b92), .val (.ref b113), .unset] [(.int (-1 : Int32)), (.int t1)]))
            by_cases hc126 : t1 = (-1 : Int32)
            · refine Goes.of (fun t k => XS.icmpYes X118.here hx rfl (pc0 := 163) (pc' := 182) rfl (hb hby at_163) rfl (teq hc126).1 (by decide) (by decide) k) ?_
              show Goes _ _ _ _ _ _ _ (T118.setTop (mkF m 182 #[.val (.int u0), .val (.int u1), .val (.int u2), .val (.int u3), .val (.int u4), .val (.int (2 : Int32)), .val (.int t0), .val (.int t1), .val (.int t2), .val (.ref b91), .val (.ref b92), .val (.ref b113), .unset] []))
              refine Goes.of (fun t k => XS.iconst X118.here hx rfl (hb hby at_182) k) ?_
              show Goes _ _ _ _ _ _ _ (T118.setTop (mkF m 183 #[.val (.int u0), .val (.int u1), .val (.int u2), .val (.int u3), .val (.int u4), .val (.int (2 : Int32)), .val (.int t0), .val (.int t1), .val (.int t2), .val (.ref b91), .val (.ref b92), .val (.ref b113), .unset] [(.int (0 : Int32))]))
              refine Goes.of (fun t k => XS.istore X118.here hx rfl (hb hby at_183) rfl (l' := #[.val (.int u0), .val (.int u1), .val (.int u2), .val (.int u3), .val (.int u4), .val (.int (2 : Int32)), .val (.int t0), .val (.int t1), .val (.int t2), .val (.ref b91), .val (.ref b92), .val (.ref b113), .val (.int (0 : Int32))]) rfl k) ?_
              show Goes _ _ _ _ _ _ _ (T118.setTop (mkF m 185 #[.val (.int u0), .val (.int u1), .val (.int u2), .val (.int u3), .val (.int u4), .val (.int (2 : Int32)), .val (.int t0), .val (.int t1), .val (.int t2), .val (.ref b91), .val (.ref b92), .val (.ref b113), .val (.int (0 : Int32))] []))
              refine Goes.of (fun t k => XS.aload X118.here hx rfl (hb hby at_185) rfl rfl k) ?_
              show Goes _ _ _ _ _ _ _ (T118.setTop (mkF m 187 #[.val (.int u0), .val (.int u1), .val (.int u2), .val (.int u3), .val (.int u4), .val (.int (2 : Int32)), .val (.int t0), .val (.int t1), .val (.int t2), .val (.ref b91), .val (.ref b92), .val (.ref b113), .val (.int (0 : Int32))] [(.ref b113)]))
              obtain ⟨cq127, kq127, q127a, q127b, q127c⟩ := isOf hZ rfl Eo118
              obtain ⟨_, _, ⟨T127, L127, k127, n127⟩, -, X127, ⟨Lc127, hQ127, l127, y127, z127⟩, st127⟩ := X118.virtualBack hx (y := (⟨"com/example/slotwright/slotwright/problems/postenrolment/Timetable", "isComplete", "()Z"⟩ : MethodName)) (z := (⟨"com/example/slotwright/slotwright/problems/postenrolment/Timetable", "isComplete", "()Z"⟩ : MethodName)) hown (mvT hZ (hw _ (List.mem_of_getElem? (i := 23) rfl))) (mvT hZ (hw _ (List.mem_of_getElem? (i := 24) rfl))) (notFace_of_selects (args := #[]) (mvT hZ (hw _ (List.mem_of_getElem? (i := 26) rfl)))) (mvT hZ (hw _ (List.mem_of_getElem? (i := 26) rfl))) (mvT hZ (hw _ (List.mem_of_getElem? (i := 25) rfl))) (by decide) (backOf (W := 0) (rm3 l Z a0 hw [] b113 ta118 2 (2 : Int32) ff T118.heap n0 Z118 Ft118 Vt118 (by decide)) hZ (hw _ (List.mem_of_getElem? (i := 27) rfl)) (hw _ (List.mem_of_getElem? (i := 3) rfl)) (by decide) (by decide)) q127a q127c (g := (mkF m 187 #[.val (.int u0), .val (.int u1), .val (.int u2), .val (.int u3), .val (.int u4), .val (.int (2 : Int32)), .val (.int t0), .val (.int t1), .val (.int t2), .val (.ref b91), .val (.ref b92), .val (.ref b113), .val (.int (0 : Int32))] [(.ref b113)])) rfl (by rw [hml]; rfl) (Steps.refl _) (argsL := []) (rest := []) (lenOf pd_4 rfl) rfl (by show 2 * 0 + _ ≤ _; exact Nat.le_of_eq rfl) (hb hby at_187) (fun _ _ => ⟨rfl, rfl, (by decide : 5 + 0 ≤ _), (by decide : 12 + 0 ≤ _)⟩)
              dsimp only [Pt.U, Pt.locs, Pt.cells, Pt.slots] at X127 l127 y127 z127 st127 hQ127
              subst l127 y127 z127
              obtain ⟨rfl, N127q, e127⟩ := hQ127
              have N127 := Fr.app N118 N127q
              refine Goes.of (fun t k => st127.trans k) ?_
              show Goes _ _ _ _ _ _ _ (T127.setTop (mkF m 190 #[.val (.int u0), .val (.int u1), .val (.int u2), .val (.int u3), .val (.int u4), .val (.int (2 : Int32)), .val (.int t0), .val (.int t1), .val (.int t2), .val (.ref b91), .val (.ref b92), .val (.ref b113), .val (.int (0 : Int32))] [(.int (own_cmp ff 2 0))]))
              refine Goes.of (fun t k => XS.iload X127.here hx rfl (hb hby at_190) rfl k) ?_
              show Goes _ _ _ _ _ _ _ (T127.setTop (mkF m 192 #[.val (.int u0), .val (.int u1), .val (.int u2), .val (.int u3), .val (.int u4), .val (.int (2 : Int32)), .val (.int t0), .val (.int t1), .val (.int t2), .val (.ref b91), .val (.ref b92), .val (.ref b113), .val (.int (0 : Int32))] [(.int (0 : Int32)), (.int (own_cmp ff 2 0))]))
              refine Goes.of (fun t k => XS.icmpNo X127.here hx rfl (hb hby at_192) rfl (teq (by rw [hf_ff]; show (if t0 = (-1 : Int32) then (0 : Int32) else (if t1 = (-1 : Int32) then (0 : Int32) else (1 : Int32))) = _; rw [if_neg hc124, if_pos hc126])).2 k) ?_
              show Goes _ _ _ _ _ _ _ (T127.setTop (mkF m 195 #[.val (.int u0), .val (.int u1), .val (.int u2), .val (.int u3), .val (.int u4), .val (.int (2 : Int32)), .val (.int t0), .val (.int t1), .val (.int t2), .val (.ref b91), .val (.ref b92), .val (.ref b113), .val (.int (0 : Int32))] []))
              refine Goes.of (fun t k => XS.iconst X127.here hx rfl (hb hby at_195) k) ?_
              show Goes _ _ _ _ _ _ _ (T127.setTop (mkF m 196 #[.val (.int u0), .val (.int u1), .val (.int u2), .val (.int u3), .val (.int u4), .val (.int (2 : Int32)), .val (.int t0), .val (.int t1), .val (.int t2), .val (.ref b91), .val (.ref b92), .val (.ref b113), .val (.int (0 : Int32))] [(.int (1 : Int32))]))
              refine Goes.of (fun t k => XS.goto X127.here hx rfl (pc0 := 196) (pc' := 200) rfl (hb hby at_196) (by decide) (by decide) k) ?_
              show Goes _ _ _ _ _ _ _ (T127.setTop (mkF m 200 #[.val (.int u0), .val (.int u1), .val (.int u2), .val (.int u3), .val (.int u4), .val (.int (2 : Int32)), .val (.int t0), .val (.int t1), .val (.int t2), .val (.ref b91), .val (.ref b92), .val (.ref b113), .val (.int (0 : Int32))] [(.int (1 : Int32))]))
              exact Goes.fin X127 hlk (v := some (.int (1 : Int32))) (fun h => by rw [Bd.returns] at h; cases h) (fun fs hr => retN X127 hx (t := .boolean) Bd.returns (by simp) (hb hby at_200) hr) ⟨rfl, N127⟩ (by decide) (by decide)
            · refine Goes.of (fun t k => XS.icmpNo X118.here hx rfl (hb hby at_163) rfl (feq hc126).1 k) ?_
              show Goes _ _ _ _ _ _ _ (T118.setTop (mkF m 166 #[.val (.int u0), .val (.int u1), .val (.int u2), .val (.int u3), .val (.int u4), .val (.int (2 : Int32)), .val (.int t0), .val (.int t1), .val (.int t2), .val (.ref b91), .val (.ref b92), .val (.ref b113), .unset] []))
              refine Goes.of (fun t k => XS.iload X118.here hx rfl (hb hby at_166) rfl k) ?_
              show Goes _ _ _ _ _ _ _ (T118.setTop (mkF m 168 #[.val (.int u0), .val (.int u1), .val (.int u2), .val (.int u3), .val (.int u4), .val (.int (2 : Int32)), .val (.int t0), .val (.int t1), .val (.int t2), .val (.ref b91), .val (.ref b92), .val (.ref b113), .unset] [(.int (2 : Int32))]))
              refine Goes.of (fun t k => XS.iconst X118.here hx rfl (hb hby at_168) k) ?_
              show Goes _ _ _ _ _ _ _ (T118.setTop (mkF m 169 #[.val (.int u0), .val (.int u1), .val (.int u2), .val (.int u3), .val (.int u4), .val (.int (2 : Int32)), .val (.int t0), .val (.int t1), .val (.int t2), .val (.ref b91), .val (.ref b92), .val (.ref b113), .unset] [(.int (2 : Int32)), (.int (2 : Int32))]))
              refine Goes.of (fun t k => XS.icmpYes X118.here hx rfl (pc0 := 169) (pc' := 178) rfl (hb hby at_169) rfl (flt (by decide : ¬ ((2 : Int32) < (2 : Int32)))).2.2.2 (by decide) (by decide) k) ?_
              show Goes _ _ _ _ _ _ _ (T118.setTop (mkF m 178 #[.val (.int u0), .val (.int u1), .val (.int u2), .val (.int u3), .val (.int u4), .val (.int (2 : Int32)), .val (.int t0), .val (.int t1), .val (.int t2), .val (.ref b91), .val (.ref b92), .val (.ref b113), .unset] []))
              refine Goes.of (fun t k => XS.iconst X118.here hx rfl (hb hby at_178) k) ?_
              show Goes _ _ _ _ _ _ _ (T118.setTop (mkF m 179 #[.val (.int u0), .val (.int u1), .val (.int u2), .val (.int u3), .val (.int u4), .val (.int (2 : Int32)), .val (.int t0), .val (.int t1), .val (.int t2), .val (.ref b91), .val (.ref b92), .val (.ref b113), .unset] [(.int (1 : Int32))]))
              refine Goes.of (fun t k => XS.goto X118.here hx rfl (pc0 := 179) (pc' := 183) rfl (hb hby at_179) (by decide) (by decide) k) ?_
              show Goes _ _ _ _ _ _ _ (T118.setTop (mkF m 183 #[.val (.int u0), .val (.int u1), .val (.int u2), .val (.int u3), .val (.int u4), .val (.int (2 : Int32)), .val (.int t0), .val (.int t1), .val (.int t2), .val (.ref b91), .val (.ref b92), .val (.ref b113), .unset] [(.int (1 : Int32))]))
              refine Goes.of (fun t k => XS.istore X118.here hx rfl (hb hby at_183) rfl (l' := #[.val (.int u0), .val (.int u1), .val (.int u2), .val (.int u3), .val (.int u4), .val (.int (2 : Int32)), .val (.int t0), .val (.int t1), .val (.int t2), .val (.ref b91), .val (.ref b92), .val (.ref b113), .val (.int (1 : Int32))]) rfl k) ?_
              show Goes _ _ _ _ _ _ _ (T118.setTop (mkF m 185 #[.val (.int u0), .val (.int u1), .val (.int u2), .val (.int u3), .val (.int u4), .val (.int (2 : Int32)), .val (.int t0), .val (.int t1), .val (.int t2), .val (.ref b91), .val (.ref b92), .val (.ref b113), .val (.int (1 : Int32))] []))
              refine Goes.of (fun t k => XS.aload X118.here hx rfl (hb hby at_185) rfl rfl k) ?_
              show Goes _ _ _ _ _ _ _ (T118.setTop (mkF m 187 #[.val (.int u0), .val (.int u1), .val (.int u2), .val (.int u3), .val (.int u4), .val (.int (2 : Int32)), .val (.int t0), .val (.int t1), .val (.int t2), .val (.ref b91), .val (.ref b92), .val (.ref b113), .val (.int (1 : Int32))] [(.ref b113)]))
              obtain ⟨cq128, kq128, q128a, q128b, q128c⟩ := isOf hZ rfl Eo118
              obtain ⟨_, _, ⟨T128, L128, k128, n128⟩, -, X128, ⟨Lc128, hQ128, l128, y128, z128⟩, st128⟩ := X118.virtualBack hx (y := (⟨"com/example/slotwright/slotwright/problems/postenrolment/Timetable", "isComplete", "()Z"⟩ : MethodName)) (z := (⟨"com/example/slotwright/slotwright/problems/postenrolment/Timetable", "isComplete", "()Z"⟩ : MethodName)) hown (mvT hZ (hw _ (List.mem_of_getElem? (i := 23) rfl))) (mvT hZ (hw _ (List.mem_of_getElem? (i := 24) rfl))) (notFace_of_selects (args := #[]) (mvT hZ (hw _ (List.mem_of_getElem? (i := 26) rfl)))) (mvT hZ (hw _ (List.mem_of_getElem? (i := 26) rfl))) (mvT hZ (hw _ (List.mem_of_getElem? (i := 25) rfl))) (by decide) (backOf (W := 0) (rm3 l Z a0 hw [] b113 ta118 2 (2 : Int32) ff T118.heap n0 Z118 Ft118 Vt118 (by decide)) hZ (hw _ (List.mem_of_getElem? (i := 27) rfl)) (hw _ (List.mem_of_getElem? (i := 3) rfl)) (by decide) (by decide)) q128a q128c (g := (mkF m 187 #[.val (.int u0), .val (.int u1), .val (.int u2), .val (.int u3), .val (.int u4), .val (.int (2 : Int32)), .val (.int t0), .val (.int t1), .val (.int t2), .val (.ref b91), .val (.ref b92), .val (.ref b113), .val (.int (1 : Int32))] [(.ref b113)])) rfl (by rw [hml]; rfl) (Steps.refl _) (argsL := []) (rest := []) (lenOf pd_4 rfl) rfl (by show 2 * 0 + _ ≤ _; exact Nat.le_of_eq rfl) (hb hby at_187) (fun _ _ => ⟨rfl, rfl, (by decide : 5 + 0 ≤ _), (by decide : 12 + 0 ≤ _)⟩)
              dsimp only [Pt.U, Pt.locs, Pt.cells, Pt.slots] at X128 l128 y128 z128 st128 hQ128
              subst l128 y128 z128
              obtain ⟨rfl, N128q, e128⟩ := hQ128
              have N128 := Fr.app N118 N128q
              refine Goes.of (fun t k => st128.trans k) ?_
              show Goes _ _ _ _ _ _ _ (T128.setTop (mkF m 190 #[.val (.int u0), .val (.int u1), .val (.int u2), .val (.int u3), .val (.int u4), .val (.int (2 : Int32)), .val (.int t0), .val (.int t1), .val (.int t2), .val (.ref b91), .val (.ref b92), .val (.ref b113), .val (.int (1 : Int32))] [(.int (own_cmp ff 2 0))]))
              refine Goes.of (fun t k => XS.iload X128.here hx rfl (hb hby at_190) rfl k) ?_
              show Goes _ _ _ _ _ _ _ (T128.setTop (mkF m 192 #[.val (.int u0), .val (.int u1), .val (.int u2), .val (.int u3), .val (.int u4), .val (.int (2 : Int32)), .val (.int t0), .val (.int t1), .val (.int t2), .val (.ref b91), .val (.ref b92), .val (.ref b113), .val (.int (1 : Int32))] [(.int (1 : Int32)), (.int (own_cmp ff 2 0))]))
              refine Goes.of (fun t k => XS.icmpNo X128.here hx rfl (hb hby at_192) rfl (teq (by rw [hf_ff]; show (if t0 = (-1 : Int32) then (0 : Int32) else (if t1 = (-1 : Int32) then (0 : Int32) else (1 : Int32))) = _; rw [if_neg hc124, if_neg hc126])).2 k) ?_
              show Goes _ _ _ _ _ _ _ (T128.setTop (mkF m 195 #[.val (.int u0), .val (.int u1), .val (.int u2), .val (.int u3), .val (.int u4), .val (.int (2 : Int32)), .val (.int t0), .val (.int t1), .val (.int t2), .val (.ref b91), .val (.ref b92), .val (.ref b113), .val (.int (1 : Int32))] []))
              refine Goes.of (fun t k => XS.iconst X128.here hx rfl (hb hby at_195) k) ?_
              show Goes _ _ _ _ _ _ _ (T128.setTop (mkF m 196 #[.val (.int u0), .val (.int u1), .val (.int u2), .val (.int u3), .val (.int u4), .val (.int (2 : Int32)), .val (.int t0), .val (.int t1), .val (.int t2), .val (.ref b91), .val (.ref b92), .val (.ref b113), .val (.int (1 : Int32))] [(.int (1 : Int32))]))
              refine Goes.of (fun t k => XS.goto X128.here hx rfl (pc0 := 196) (pc' := 200) rfl (hb hby at_196) (by decide) (by decide) k) ?_
              show Goes _ _ _ _ _ _ _ (T128.setTop (mkF m 200 #[.val (.int u0), .val (.int u1), .val (.int u2), .val (.int u3), .val (.int u4), .val (.int (2 : Int32)), .val (.int t0), .val (.int t1), .val (.int t2), .val (.ref b91), .val (.ref b92), .val (.ref b113), .val (.int (1 : Int32))] [(.int (1 : Int32))]))
              exact Goes.fin X128 hlk (v := some (.int (1 : Int32))) (fun h => by rw [Bd.returns] at h; cases h) (fun fs hr => retN X128 hx (t := .boolean) Bd.returns (by simp) (hb hby at_200) hr) ⟨rfl, N128⟩ (by decide) (by decide)
        · rw [h3]
          show Goes _ _ _ _ _ _ _ (T47.setTop (mkF m 50 #[.val (.int u0), .val (.int u1), .val (.int u2), .val (.int u3), .val (.int u4), .val (.int (3 : Int32)), .val (.int t0), .val (.int t1), .val (.int t2), .unset, .unset, .unset, .unset] []))
          refine Goes.of (fun t k => XS.iload X47.here hx rfl (hb hby at_50) rfl k) ?_
          show Goes _ _ _ _ _ _ _ (T47.setTop (mkF m 52 #[.val (.int u0), .val (.int u1), .val (.int u2), .val (.int u3), .val (.int u4), .val (.int (3 : Int32)), .val (.int t0), .val (.int t1), .val (.int t2), .unset, .unset, .unset, .unset] [(.int (3 : Int32))]))
          obtain ⟨T129, h129, k129, X129, e129, E129, A129, Ea129, st129⟩ := newPE X47 hx hZ (hw _ (List.mem_of_getElem? (i := 0) rfl)) e47 (g := (mkF m 52 #[.val (.int u0), .val (.int u1), .val (.int u2), .val (.int u3), .val (.int u4), .val (.int (3 : Int32)), .val (.int t0), .val (.int t1), .val (.int t2), .unset, .unset, .unset, .unset] [(.int (3 : Int32))])) rfl (hb hby at_52) rfl (by decide) (cap := 3) (by decide) (by decide) (by decide) (by decide) (ad := "[I") (by decide)
          obtain ⟨b129, g129⟩ : ∃ z, z = h0.size := ⟨_, rfl⟩
          rw [← g129] at A129 Ea129 st129
          have V129 : AI Z h129 b129 .int 3 (fun _ => 0) := AI.new rfl rfl A129 (by decide) (by decide)
          have g_b129 : n0 ≤ b129 := Nat.le_trans Z0 (Nat.le_of_eq g129.symm)
          have Z129 : n0 ≤ h129.size := Nat.le_trans Z0 E129.1
          refine Goes.of st129 ?_
          show Goes _ _ _ _ _ _ _ (T129.setTop (mkF m 54 #[.val (.int u0), .val (.int u1), .val (.int u2), .val (.int u3), .val (.int u4), .val (.int (3 : Int32)), .val (.int t0), .val (.int t1), .val (.int t2), .unset, .unset, .unset, .unset] [(.ref b129)]))
          refine Goes.of (fun t k => XS.astore X129.here hx rfl (hb hby at_54) rfl rfl (l' := #[.val (.int u0), .val (.int u1), .val (.int u2), .val (.int u3), .val (.int u4), .val (.int (3 : Int32)), .val (.int t0), .val (.int t1), .val (.int t2), .val (.ref b129), .unset, .unset, .unset]) rfl k) ?_
          show Goes _ _ _ _ _ _ _ (T129.setTop (mkF m 56 #[.val (.int u0), .val (.int u1), .val (.int u2), .val (.int u3), .val (.int u4), .val (.int (3 : Int32)), .val (.int t0), .val (.int t1), .val (.int t2), .val (.ref b129), .unset, .unset, .unset] []))
          refine Goes.of (fun t k => XS.iload X129.here hx rfl (hb hby at_56) rfl k) ?_
          show Goes _ _ _ _ _ _ _ (T129.setTop (mkF m 58 #[.val (.int u0), .val (.int u1), .val (.int u2), .val (.int u3), .val (.int u4), .val (.int (3 : Int32)), .val (.int t0), .val (.int t1), .val (.int t2), .val (.ref b129), .unset, .unset, .unset] [(.int (3 : Int32))]))
          obtain ⟨T130, h130, k130, X130, e130, E130, A130, Ea130, st130⟩ := newPE X129 hx hZ (hw _ (List.mem_of_getElem? (i := 0) rfl)) e129 (g := (mkF m 58 #[.val (.int u0), .val (.int u1), .val (.int u2), .val (.int u3), .val (.int u4), .val (.int (3 : Int32)), .val (.int t0), .val (.int t1), .val (.int t2), .val (.ref b129), .unset, .unset, .unset] [(.int (3 : Int32))])) rfl (hb hby at_58) rfl (by decide) (cap := 3) (by decide) (by decide) (by decide) (by decide) (ad := "[I") (by decide)
          obtain ⟨b130, g130⟩ : ∃ z, z = h129.size := ⟨_, rfl⟩
          rw [← g130] at A130 Ea130 st130
          have V130 : AI Z h130 b130 .int 3 (fun _ => 0) := AI.new rfl rfl A130 (by decide) (by decide)
          have ne_b129_b130 : b129 ≠ b130 := Nat.ne_of_lt (Nat.lt_of_lt_of_le V129.lt (Nat.le_of_eq g130.symm))
          have g_b130 : n0 ≤ b130 := Nat.le_trans Z129 (Nat.le_of_eq g130.symm)
          have F131 := V129.ext E130
          have F132 := Exa.ext E130 Ea129
          have Z130 : n0 ≤ h130.size := Nat.le_trans Z129 E130.1
          refine Goes.of st130 ?_
          show Goes _ _ _ _ _ _ _ (T130.setTop (mkF m 60 #[.val (.int u0), .val (.int u1), .val (.int u2), .val (.int u3), .val (.int u4), .val (.int (3 : Int32)), .val (.int t0), .val (.int t1), .val (.int t2), .val (.ref b129), .unset, .unset, .unset] [(.ref b130)]))
          refine Goes.of (fun t k => XS.astore X130.here hx rfl (hb hby at_60) rfl rfl (l' := #[.val (.int u0), .val (.int u1), .val (.int u2), .val (.int u3), .val (.int u4), .val (.int (3 : Int32)), .val (.int t0), .val (.int t1), .val (.int t2), .val (.ref b129), .val (.ref b130), .unset, .unset]) rfl k) ?_
          show Goes _ _ _ _ _ _ _ (T130.setTop (mkF m 62 #[.val (.int u0), .val (.int u1), .val (.int u2), .val (.int u3), .val (.int u4), .val (.int (3 : Int32)), .val (.int t0), .val (.int t1), .val (.int t2), .val (.ref b129), .val (.ref b130), .unset, .unset] []))
          refine Goes.of (fun t k => XS.iload X130.here hx rfl (hb hby at_62) rfl k) ?_
          show Goes _ _ _ _ _ _ _ (T130.setTop (mkF m 64 #[.val (.int u0), .val (.int u1), .val (.int u2), .val (.int u3), .val (.int u4), .val (.int (3 : Int32)), .val (.int t0), .val (.int t1), .val (.int t2), .val (.ref b129), .val (.ref b130), .unset, .unset] [(.int (3 : Int32))]))
          refine Goes.of (fun t k => XS.ifNo X130.here hx rfl (hb hby at_64) rfl ((if0 _ _).trans (tlt (by decide : (0 : Int32) < (3 : Int32))).2.2.2) k) ?_
          show Goes _ _ _ _ _ _ _ (T130.setTop (mkF m 67 #[.val (.int u0), .val (.int u1), .val (.int u2), .val (.int u3), .val (.int u4), .val (.int (3 : Int32)), .val (.int t0), .val (.int t1), .val (.int t2), .val (.ref b129), .val (.ref b130), .unset, .unset] []))
          refine Goes.of (fun t k => XS.aload X130.here hx rfl (hb hby at_67) rfl rfl k) ?_
          show Goes _ _ _ _ _ _ _ (T130.setTop (mkF m 69 #[.val (.int u0), .val (.int u1), .val (.int u2), .val (.int u3), .val (.int u4), .val (.int (3 : Int32)), .val (.int t0), .val (.int t1), .val (.int t2), .val (.ref b129), .val (.ref b130), .unset, .unset] [(.ref b129)]))
          refine Goes.of (fun t k => XS.iconst X130.here hx rfl (hb hby at_69) k) ?_
          show Goes _ _ _ _ _ _ _ (T130.setTop (mkF m 70 #[.val (.int u0), .val (.int u1), .val (.int u2), .val (.int u3), .val (.int u4), .val (.int (3 : Int32)), .val (.int t0), .val (.int t1), .val (.int t2), .val (.ref b129), .val (.ref b130), .unset, .unset] [(.int (0 : Int32)), (.ref b129)]))
          refine Goes.of (fun t k => XS.iload X130.here hx rfl (hb hby at_70) rfl k) ?_
          show Goes _ _ _ _ _ _ _ (T130.setTop (mkF m 72 #[.val (.int u0), .val (.int u1), .val (.int u2), .val (.int u3), .val (.int u4), .val (.int (3 : Int32)), .val (.int t0), .val (.int t1), .val (.int t2), .val (.ref b129), .val (.ref b130), .unset, .unset] [(.int t0), (.int (0 : Int32)), (.ref b129)]))
          obtain ⟨T133, h133, X133, e133, W133, V133, st133⟩ := putI X130 hx hZ e130 F131 (j := (0 : Int32)) (x := t0) (i := 0) (by decide) (by decide) (by decide) (g := (mkF m 72 #[.val (.int u0), .val (.int u1), .val (.int u2), .val (.int u3), .val (.int u4), .val (.int (3 : Int32)), .val (.int t0), .val (.int t1), .val (.int t2), .val (.ref b129), .val (.ref b130), .unset, .unset] [(.int t0), (.int (0 : Int32)), (.ref b129)])) rfl rfl (hb hby at_72)
          have F134 := Exa.wr W133 F132
          have F135 := V130.other W133 (Ne.symm ne_b129_b130)
          have F136 := Exa.wr W133 Ea130
          have Z133 : n0 ≤ h133.size := Nat.le_trans Z130 (Keep.of_wr W133).1
          have N133 := Fr.snoc X133 N47 g_b129
          refine Goes.of st133 ?_
          show Goes _ _ _ _ _ _ _ (T133.setTop (mkF m 73 #[.val (.int u0), .val (.int u1), .val (.int u2), .val (.int u3), .val (.int u4), .val (.int (3 : Int32)), .val (.int t0), .val (.int t1), .val (.int t2), .val (.ref b129), .val (.ref b130), .unset, .unset] []))
          refine Goes.of (fun t k => XS.aload X133.here hx rfl (hb hby at_73) rfl rfl k) ?_
          show Goes _ _ _ _ _ _ _ (T133.setTop (mkF m 75 #[.val (.int u0), .val (.int u1), .val (.int u2), .val (.int u3), .val (.int u4), .val (.int (3 : Int32)), .val (.int t0), .val (.int t1), .val (.int t2), .val (.ref b129), .val (.ref b130), .unset, .unset] [(.ref b130)]))
          refine Goes.of (fun t k => XS.iconst X133.here hx rfl (hb hby at_75) k) ?_
          show Goes _ _ _ _ _ _ _ (T133.setTop (mkF m 76 #[.val (.int u0), .val (.int u1), .val (.int u2), .val (.int u3), .val (.int u4), .val (.int (3 : Int32)), .val (.int t0), .val (.int t1), .val (.int t2), .val (.ref b129), .val (.ref b130), .unset, .unset] [(.int (0 : Int32)), (.ref b130)]))
          refine Goes.of (fun t k => XS.iload X133.here hx rfl (hb hby at_76) rfl k) ?_
          show Goes _ _ _ _ _ _ _ (T133.setTop (mkF m 78 #[.val (.int u0), .val (.int u1), .val (.int u2), .val (.int u3), .val (.int u4), .val (.int (3 : Int32)), .val (.int t0), .val (.int t1), .val (.int t2), .val (.ref b129), .val (.ref b130), .unset, .unset] [(.int t0), (.int (0 : Int32)), (.ref b130)]))
          refine Goes.of (fun t k => XS.iload X133.here hx rfl (hb hby at_78) rfl k) ?_
          show Goes _ _ _ _ _ _ _ (T133.setTop (mkF m 80 #[.val (.int u0), .val (.int u1), .val (.int u2), .val (.int u3), .val (.int u4), .val (.int (3 : Int32)), .val (.int t0), .val (.int t1), .val (.int t2), .val (.ref b129), .val (.ref b130), .unset, .unset] [(.int u4), (.int t0), (.int (0 : Int32)), (.ref b130)]))
          obtain ⟨_, _, ⟨T137, L137, k137, n137⟩, -, X137, ⟨Lc137, hQ137, l137, y137, z137⟩, st137⟩ := Jvm.LawKit.callS X133 hx (y := (⟨"com/example/slotwright/slotwright/problems/postenrolment/TimetableIsCompletePinLaw", "room", "(II)I"⟩ : MethodName)) hown (mvT hZ (hw _ (List.mem_of_getElem? (i := 28) rfl))) (mvT hZ (hw _ (List.mem_of_getElem? (i := 29) rfl))) (mvT hZ (hw _ (List.mem_of_getElem? (i := 30) rfl))) (mvT hZ (hw _ (List.mem_of_getElem? (i := 31) rfl))) (by decide) (backOf (W := 2) (rm4 l Z a0 hw [] t0 u4  h133 n0 ) hZ (hw _ (List.mem_of_getElem? (i := 31) rfl)) (hw _ (List.mem_of_getElem? (i := 30) rfl)) (by decide) (by decide)) (g := (mkF m 80 #[.val (.int u0), .val (.int u1), .val (.int u2), .val (.int u3), .val (.int u4), .val (.int (3 : Int32)), .val (.int t0), .val (.int t1), .val (.int t2), .val (.ref b129), .val (.ref b130), .unset, .unset] [(.int u4), (.int t0), (.int (0 : Int32)), (.ref b130)])) rfl (by rw [hml]; rfl) (argsL := [(.int t0), (.int u4)]) (rest := [(.int (0 : Int32)), (.ref b130)]) (lenOf pd_2 rfl) rfl (by show 2 * 0 + _ ≤ _; exact Nat.le_of_eq rfl) (hb hby at_80) (fun _ _ => ⟨rfl, e133, (by decide : 2 + 0 ≤ _), (by decide : 6 + 0 ≤ _)⟩)
          dsimp only [Pt.U, Pt.locs, Pt.cells, Pt.slots] at X137 l137 y137 z137 st137 hQ137
          subst l137 y137 z137
          obtain ⟨rfl, N137q, e137⟩ := hQ137
          have N137 := Fr.app N133 N137q
          refine Goes.of st137 ?_
          show Goes _ _ _ _ _ _ _ (T137.setTop (mkF m 83 #[.val (.int u0), .val (.int u1), .val (.int u2), .val (.int u3), .val (.int u4), .val (.int (3 : Int32)), .val (.int t0), .val (.int t1), .val (.int t2), .val (.ref b129), .val (.ref b130), .unset, .unset] [(.int (f4 t0 u4)), (.int (0 : Int32)), (.ref b130)]))
          obtain ⟨T138, h138, X138, e138, W138, V138, st138⟩ := putI X137 hx hZ e137 F135 (j := (0 : Int32)) (x := (f4 t0 u4)) (i := 0) (by decide) (by decide) (by decide) (g := (mkF m 83 #[.val (.int u0), .val (.int u1), .val (.int u2), .val (.int u3), .val (.int u4), .val (.int (3 : Int32)), .val (.int t0), .val (.int t1), .val (.int t2), .val (.ref b129), .val (.ref b130), .unset, .unset] [(.int (f4 t0 u4)), (.int (0 : Int32)), (.ref b130)])) rfl rfl (hb hby at_83)
          have F139 := V133.other W138 ne_b129_b130
          have F140 := Exa.wr W138 F134
          have F141 := Exa.wr W138 F136
          have Z138 : n0 ≤ h138.size := Nat.le_trans Z133 (Keep.of_wr W138).1
          have N138 := Fr.snoc X138 N137 g_b130
          refine Goes.of st138 ?_
          show Goes _ _ _ _ _ _ _ (T138.setTop (mkF m 84 #[.val (.int u0), .val (.int u1), .val (.int u2), .val (.int u3), .val (.int u4), .val (.int (3 : Int32)), .val (.int t0), .val (.int t1), .val (.int t2), .val (.ref b129), .val (.ref b130), .unset, .unset] []))
          refine Goes.of (fun t k => XS.iload X138.here hx rfl (hb hby at_84) rfl k) ?_
          show Goes _ _ _ _ _ _ _ (T138.setTop (mkF m 86 #[.val (.int u0), .val (.int u1), .val (.int u2), .val (.int u3), .val (.int u4), .val (.int (3 : Int32)), .val (.int t0), .val (.int t1), .val (.int t2), .val (.ref b129), .val (.ref b130), .unset, .unset] [(.int (3 : Int32))]))
          refine Goes.of (fun t k => XS.iconst X138.here hx rfl (hb hby at_86) k) ?_
          show Goes _ _ _ _ _ _ _ (T138.setTop (mkF m 87 #[.val (.int u0), .val (.int u1), .val (.int u2), .val (.int u3), .val (.int u4), .val (.int (3 : Int32)), .val (.int t0), .val (.int t1), .val (.int t2), .val (.ref b129), .val (.ref b130), .unset, .unset] [(.int (1 : Int32)), (.int (3 : Int32))]))
          refine Goes.of (fun t k => XS.icmpNo X138.here hx rfl (hb hby at_87) rfl (tlt (by decide : (1 : Int32) < (3 : Int32))).2.2.2 k) ?_
          show Goes _ _ _ _ _ _ _ (T138.setTop (mkF m 90 #[.val (.int u0), .val (.int u1), .val (.int u2), .val (.int u3), .val (.int u4), .val (.int (3 : Int32)), .val (.int t0), .val (.int t1), .val (.int t2), .val (.ref b129), .val (.ref b130), .unset, .unset] []))
          refine Goes.of (fun t k => XS.aload X138.here hx rfl (hb hby at_90) rfl rfl k) ?_
          show Goes _ _ _ _ _ _ _ (T138.setTop (mkF m 92 #[.val (.int u0), .val (.int u1), .val (.int u2), .val (.int u3), .val (.int u4), .val (.int (3 : Int32)), .val (.int t0), .val (.int t1), .val (.int t2), .val (.ref b129), .val (.ref b130), .unset, .unset] [(.ref b129)]))
          refine Goes.of (fun t k => XS.iconst X138.here hx rfl (hb hby at_92) k) ?_
          show Goes _ _ _ _ _ _ _ (T138.setTop (mkF m 93 #[.val (.int u0), .val (.int u1), .val (.int u2), .val (.int u3), .val (.int u4), .val (.int (3 : Int32)), .val (.int t0), .val (.int t1), .val (.int t2), .val (.ref b129), .val (.ref b130), .unset, .unset] [(.int (1 : Int32)), (.ref b129)]))
          refine Goes.of (fun t k => XS.iload X138.here hx rfl (hb hby at_93) rfl k) ?_
          show Goes _ _ _ _ _ _ _ (T138.setTop (mkF m 95 #[.val (.int u0), .val (.int u1), .val (.int u2), .val (.int u3), .val (.int u4), .val (.int (3 : Int32)), .val (.int t0), .val (.int t1), .val (.int t2), .val (.ref b129), .val (.ref b130), .unset, .unset] [(.int t1), (.int (1 : Int32)), (.ref b129)]))
          obtain ⟨T142, h142, X142, e142, W142, V142, st142⟩ := putI X138 hx hZ e138 F139 (j := (1 : Int32)) (x := t1) (i := 1) (by decide) (by decide) (by decide) (g := (mkF m 95 #[.val (.int u0), .val (.int u1), .val (.int u2), .val (.int u3), .val (.int u4), .val (.int (3 : Int32)), .val (.int t0), .val (.int t1), .val (.int t2), .val (.ref b129), .val (.ref b130), .unset, .unset] [(.int t1), (.int (1 : Int32)), (.ref b129)])) rfl rfl (hb hby at_95)
          have F143 := Exa.wr W142 F140
          have F144 := V138.other W142 (Ne.symm ne_b129_b130)
          have F145 := Exa.wr W142 F141
          have Z142 : n0 ≤ h142.size := Nat.le_trans Z138 (Keep.of_wr W142).1
          have N142 := Fr.snoc X142 N138 g_b129
          refine Goes.of st142 ?_
          show Goes _ _ _ _ _ _ _ (T142.setTop (mkF m 96 #[.val (.int u0), .val (.int u1), .val (.int u2), .val (.int u3), .val (.int u4), .val (.int (3 : Int32)), .val (.int t0), .val (.int t1), .val (.int t2), .val (.ref b129), .val (.ref b130), .unset, .unset] []))
          refine Goes.of (fun t k => XS.aload X142.here hx rfl (hb hby at_96) rfl rfl k) ?_
          show Goes _ _ _ _ _ _ _ (T142.setTop (mkF m 98 #[.val (.int u0), .val (.int u1), .val (.int u2), .val (.int u3), .val (.int u4), .val (.int (3 : Int32)), .val (.int t0), .val (.int t1), .val (.int t2), .val (.ref b129), .val (.ref b130), .unset, .unset] [(.ref b130)]))
          refine Goes.of (fun t k => XS.iconst X142.here hx rfl (hb hby at_98) k) ?_
          show Goes _ _ _ _ _ _ _ (T142.setTop (mkF m 99 #[.val (.int u0), .val (.int u1), .val (.int u2), .val (.int u3), .val (.int u4), .val (.int (3 : Int32)), .val (.int t0), .val (.int t1), .val (.int t2), .val (.ref b129), .val (.ref b130), .unset, .unset] [(.int (1 : Int32)), (.ref b130)]))
          refine Goes.of (fun t k => XS.iload X142.here hx rfl (hb hby at_99) rfl k) ?_
          show Goes _ _ _ _ _ _ _ (T142.setTop (mkF m 101 #[.val (.int u0), .val (.int u1), .val (.int u2), .val (.int u3), .val (.int u4), .val (.int (3 : Int32)), .val (.int t0), .val (.int t1), .val (.int t2), .val (.ref b129), .val (.ref b130), .unset, .unset] [(.int t1), (.int (1 : Int32)), (.ref b130)]))
          refine Goes.of (fun t k => XS.iload X142.here hx rfl (hb hby at_101) rfl k) ?_
          show Goes _ _ _ _ _ _ _ (T142.setTop (mkF m 103 #[.val (.int u0), .val (.int u1), .val (.int u2), .val (.int u3), .val (.int u4), .val (.int (3 : Int32)), .val (.int t0), .val (.int t1), .val (.int t2), .val (.ref b129), .val (.ref b130), .unset, .unset] [(.int u4), (.int t1), (.int (1 : Int32)), (.ref b130)]))
          obtain ⟨_, _, ⟨T146, L146, k146, n146⟩, -, X146, ⟨Lc146, hQ146, l146, y146, z146⟩, st146⟩ := Jvm.LawKit.callS X142 hx (y := (⟨"com/example/slotwright/slotwright/problems/postenrolment/TimetableIsCompletePinLaw", "room", "(II)I"⟩ : MethodName)) hown (mvT hZ (hw _ (List.mem_of_getElem? (i := 28) rfl))) (mvT hZ (hw _ (List.mem_of_getElem? (i := 29) rfl))) (mvT hZ (hw _ (List.mem_of_getElem? (i := 30) rfl))) (mvT hZ (hw _ (List.mem_of_getElem? (i := 31) rfl))) (by decide) (backOf (W := 2) (rm4 l Z a0 hw [] t1 u4  h142 n0 ) hZ (hw _ (List.mem_of_getElem? (i := 31) rfl)) (hw _ (List.mem_of_getElem? (i := 30) rfl)) (by decide) (by decide)) (g := (mkF m 103 #[.val (.int u0), .val (.int u1), .val (.int u2), .val (.int u3), .val (.int u4), .val (.int (3 : Int32)), .val (.int t0), .val (.int t1), .val (.int t2), .val (.ref b129), .val (.ref b130), .unset, .unset] [(.int u4), (.int t1), (.int (1 : Int32)), (.ref b130)])) rfl (by rw [hml]; rfl) (argsL := [(.int t1), (.int u4)]) (rest := [(.int (1 : Int32)), (.ref b130)]) (lenOf pd_2 rfl) rfl (by show 2 * 0 + _ ≤ _; exact Nat.le_of_eq rfl) (hb hby at_103) (fun _ _ => ⟨rfl, e142, (by decide : 2 + 0 ≤ _), (by decide : 6 + 0 ≤ _)⟩)
          dsimp only [Pt.U, Pt.locs, Pt.cells, Pt.slots] at X146 l146 y146 z146 st146 hQ146
          subst l146 y146 z146
          obtain ⟨rfl, N146q, e146⟩ := hQ146
          have N146 := Fr.app N142 N146q
          refine Goes.of st146 ?_
          show Goes _ _ _ _ _ _ _ (T146.setTop (mkF m 106 #[.val (.int u0), .val (.int u1), .val (.int u2), .val (.int u3), .val (.int u4), .val (.int (3 : Int32)), .val (.int t0), .val (.int t1), .val (.int t2), .val (.ref b129), .val (.ref b130), .unset, .unset] [(.int (f4 t1 u4)), (.int (1 : Int32)), (.ref b130)]))
          obtain ⟨T147, h147, X147, e147, W147, V147, st147⟩ := putI X146 hx hZ e146 F144 (j := (1 : Int32)) (x := (f4 t1 u4)) (i := 1) (by decide) (by decide) (by decide) (g := (mkF m 106 #[.val (.int u0), .val (.int u1), .val (.int u2), .val (.int u3), .val (.int u4), .val (.int (3 : Int32)), .val (.int t0), .val (.int t1), .val (.int t2), .val (.ref b129), .val (.ref b130), .unset, .unset] [(.int (f4 t1 u4)), (.int (1 : Int32)), (.ref b130)])) rfl rfl (hb hby at_106)
          have F148 := V142.other W147 ne_b129_b130
          have F149 := Exa.wr W147 F143
          have F150 := Exa.wr W147 F145
          have Z147 : n0 ≤ h147.size := Nat.le_trans Z142 (Keep.of_wr W147).1
          have N147 := Fr.snoc X147 N146 g_b130
          refine Goes.of st147 ?_
          show Goes _ _ _ _ _ _ _ (T147.setTop (mkF m 107 #[.val (.int u0), .val (.int u1), .val (.int u2), .val (.int u3), .val (.int u4), .val (.int (3 : Int32)), .val (.int t0), .val (.int t1), .val (.int t2), .val (.ref b129), .val (.ref b130), .unset, .unset] []))
          refine Goes.of (fun t k => XS.iload X147.here hx rfl (hb hby at_107) rfl k) ?_
          show Goes _ _ _ _ _ _ _ (T147.setTop (mkF m 109 #[.val (.int u0), .val (.int u1), .val (.int u2), .val (.int u3), .val (.int u4), .val (.int (3 : Int32)), .val (.int t0), .val (.int t1), .val (.int t2), .val (.ref b129), .val (.ref b130), .unset, .unset] [(.int (3 : Int32))]))
          refine Goes.of (fun t k => XS.iconst X147.here hx rfl (hb hby at_109) k) ?_
          show Goes _ _ _ _ _ _ _ (T147.setTop (mkF m 110 #[.val (.int u0), .val (.int u1), .val (.int u2), .val (.int u3), .val (.int u4), .val (.int (3 : Int32)), .val (.int t0), .val (.int t1), .val (.int t2), .val (.ref b129), .val (.ref b130), .unset, .unset] [(.int (2 : Int32)), (.int (3 : Int32))]))
          refine Goes.of (fun t k => XS.icmpNo X147.here hx rfl (hb hby at_110) rfl (tlt (by decide : (2 : Int32) < (3 : Int32))).2.2.2 k) ?_
          show Goes _ _ _ _ _ _ _ (T147.setTop (mkF m 113 #[.val (.int u0), .val (.int u1), .val (.int u2), .val (.int u3), .val (.int u4), .val (.int (3 : Int32)), .val (.int t0), .val (.int t1), .val (.int t2), .val (.ref b129), .val (.ref b130), .unset, .unset] []))
          refine Goes.of (fun t k => XS.aload X147.here hx rfl (hb hby at_113) rfl rfl k) ?_
          show Goes _ _ _ _ _ _ _ (T147.setTop (mkF m 115 #[.val (.int u0), .val (.int u1), .val (.int u2), .val (.int u3), .val (.int u4), .val (.int (3 : Int32)), .val (.int t0), .val (.int t1), .val (.int t2), .val (.ref b129), .val (.ref b130), .unset, .unset] [(.ref b129)]))
          refine Goes.of (fun t k => XS.iconst X147.here hx rfl (hb hby at_115) k) ?_
          show Goes _ _ _ _ _ _ _ (T147.setTop (mkF m 116 #[.val (.int u0), .val (.int u1), .val (.int u2), .val (.int u3), .val (.int u4), .val (.int (3 : Int32)), .val (.int t0), .val (.int t1), .val (.int t2), .val (.ref b129), .val (.ref b130), .unset, .unset] [(.int (2 : Int32)), (.ref b129)]))
          refine Goes.of (fun t k => XS.iload X147.here hx rfl (hb hby at_116) rfl k) ?_
          show Goes _ _ _ _ _ _ _ (T147.setTop (mkF m 118 #[.val (.int u0), .val (.int u1), .val (.int u2), .val (.int u3), .val (.int u4), .val (.int (3 : Int32)), .val (.int t0), .val (.int t1), .val (.int t2), .val (.ref b129), .val (.ref b130), .unset, .unset] [(.int t2), (.int (2 : Int32)), (.ref b129)]))
          obtain ⟨T151, h151, X151, e151, W151, V151, st151⟩ := putI X147 hx hZ e147 F148 (j := (2 : Int32)) (x := t2) (i := 2) (by decide) (by decide) (by decide) (g := (mkF m 118 #[.val (.int u0), .val (.int u1), .val (.int u2), .val (.int u3), .val (.int u4), .val (.int (3 : Int32)), .val (.int t0), .val (.int t1), .val (.int t2), .val (.ref b129), .val (.ref b130), .unset, .unset] [(.int t2), (.int (2 : Int32)), (.ref b129)])) rfl rfl (hb hby at_118)
          have F152 := Exa.wr W151 F149
          have F153 := V147.other W151 (Ne.symm ne_b129_b130)
          have F154 := Exa.wr W151 F150
          have Z151 : n0 ≤ h151.size := Nat.le_trans Z147 (Keep.of_wr W151).1
          have N151 := Fr.snoc X151 N147 g_b129
          refine Goes.of st151 ?_
          show Goes _ _ _ _ _ _ _ (T151.setTop (mkF m 119 #[.val (.int u0), .val (.int u1), .val (.int u2), .val (.int u3), .val (.int u4), .val (.int (3 : Int32)), .val (.int t0), .val (.int t1), .val (.int t2), .val (.ref b129), .val (.ref b130), .unset, .unset] []))
          refine Goes.of (fun t k => XS.aload X151.here hx rfl (hb hby at_119) rfl rfl k) ?_
          show Goes _ _ _ _ _ _ _ (T151.setTop (mkF m 121 #[.val (.int u0), .val (.int u1), .val (.int u2), .val (.int u3), .val (.int u4), .val (.int (3 : Int32)), .val (.int t0), .val (.int t1), .val (.int t2), .val (.ref b129), .val (.ref b130), .unset, .unset] [(.ref b130)]))
          refine Goes.of (fun t k => XS.iconst X151.here hx rfl (hb hby at_121) k) ?_
          show Goes _ _ _ _ _ _ _ (T151.setTop (mkF m 122 #[.val (.int u0), .val (.int u1), .val (.int u2), .val (.int u3), .val (.int u4), .val (.int (3 : Int32)), .val (.int t0), .val (.int t1), .val (.int t2), .val (.ref b129), .val (.ref b130), .unset, .unset] [(.int (2 : Int32)), (.ref b130)]))
          refine Goes.of (fun t k => XS.iload X151.here hx rfl (hb hby at_122) rfl k) ?_
          show Goes _ _ _ _ _ _ _ (T151.setTop (mkF m 124 #[.val (.int u0), .val (.int u1), .val (.int u2), .val (.int u3), .val (.int u4), .val (.int (3 : Int32)), .val (.int t0), .val (.int t1), .val (.int t2), .val (.ref b129), .val (.ref b130), .unset, .unset] [(.int t2), (.int (2 : Int32)), (.ref b130)]))
          refine Goes.of (fun t k => XS.iload X151.here hx rfl (hb hby at_124) rfl k) ?_
          show Goes _ _ _ _ _ _ _ (T151.setTop (mkF m 126 #[.val (.int u0), .val (.int u1), .val (.int u2), .val (.int u3), .val (.int u4), .val (.int (3 : Int32)), .val (.int t0), .val (.int t1), .val (.int t2), .val (.ref b129), .val (.ref b130), .unset, .unset] [(.int u4), (.int t2), (.int (2 : Int32)), (.ref b130)]))
          obtain ⟨_, _, ⟨T155, L155, k155, n155⟩, -, X155, ⟨Lc155, hQ155, l155, y155, z155⟩, st155⟩ := Jvm.LawKit.callS X151 hx (y := (⟨"com/example/slotwright/slotwright/problems/postenrolment/TimetableIsCompletePinLaw", "room", "(II)I"⟩ : MethodName)) hown (mvT hZ (hw _ (List.mem_of_getElem? (i := 28) rfl))) (mvT hZ (hw _ (List.mem_of_getElem? (i := 29) rfl))) (mvT hZ (hw _ (List.mem_of_getElem? (i := 30) rfl))) (mvT hZ (hw _ (List.mem_of_getElem? (i := 31) rfl))) (by decide) (backOf (W := 2) (rm4 l Z a0 hw [] t2 u4  h151 n0 ) hZ (hw _ (List.mem_of_getElem? (i := 31) rfl)) (hw _ (List.mem_of_getElem? (i := 30) rfl)) (by decide) (by decide)) (g := (mkF m 126 #[.val (.int u0), .val (.int u1), .val (.int u2), .val (.int u3), .val (.int u4), .val (.int (3 : Int32)), .val (.int t0), .val (.int t1), .val (.int t2), .val (.ref b129), .val (.ref b130), .unset, .unset] [(.int u4), (.int t2), (.int (2 : Int32)), (.ref b130)])) rfl (by rw [hml]; rfl) (argsL := [(.int t2), (.int u4)]) (rest := [(.int (2 : Int32)), (.ref b130)]) (lenOf pd_2 rfl) rfl (by show 2 * 0 + _ ≤ _; exact Nat.le_of_eq rfl) (hb hby at_126) (fun _ _ => ⟨rfl, e151, (by decide : 2 + 0 ≤ _), (by decide : 6 + 0 ≤ _)⟩)
          dsimp only [Pt.U, Pt.locs, Pt.cells, Pt.slots] at X155 l155 y155 z155 st155 hQ155
          subst l155 y155 z155
          obtain ⟨rfl, N155q, e155⟩ := hQ155
          have N155 := Fr.app N151 N155q
          refine Goes.of st155 ?_
          show Goes _ _ _ _ _ _ _ (T155.setTop (mkF m 129 #[.val (.int u0), .val (.int u1), .val (.int u2), .val (.int u3), .val (.int u4), .val (.int (3 : Int32)), .val (.int t0), .val (.int t1), .val (.int t2), .val (.ref b129), .val (.ref b130), .unset, .unset] [(.int (f4 t2 u4)), (.int (2 : Int32)), (.ref b130)]))
          obtain ⟨T156, h156, X156, e156, W156, V156, st156⟩ := putI X155 hx hZ e155 F153 (j := (2 : Int32)) (x := (f4 t2 u4)) (i := 2) (by decide) (by decide) (by decide) (g := (mkF m 129 #[.val (.int u0), .val (.int u1), .val (.int u2), .val (.int u3), .val (.int u4), .val (.int (3 : Int32)), .val (.int t0), .val (.int t1), .val (.int t2), .val (.ref b129), .val (.ref b130), .unset, .unset] [(.int (f4 t2 u4)), (.int (2 : Int32)), (.ref b130)])) rfl rfl (hb hby at_129)
          have F157 := V151.other W156 ne_b129_b130
          have F158 := Exa.wr W156 F152
          have F159 := Exa.wr W156 F154
          have Z156 : n0 ≤ h156.size := Nat.le_trans Z151 (Keep.of_wr W156).1
          have N156 := Fr.snoc X156 N155 g_b130
          refine Goes.of st156 ?_
          show Goes _ _ _ _ _ _ _ (T156.setTop (mkF m 130 #[.val (.int u0), .val (.int u1), .val (.int u2), .val (.int u3), .val (.int u4), .val (.int (3 : Int32)), .val (.int t0), .val (.int t1), .val (.int t2), .val (.ref b129), .val (.ref b130), .unset, .unset] []))
          obtain ⟨ff, hf_ff⟩ : ∃ f : Nat → Int32, f = (upd (upd (upd (fun _ => 0) 0 t0) 1 t1) 2 t2) := ⟨_, rfl⟩
          rw [← hf_ff] at F157
          obtain ⟨gg, hf_gg⟩ : ∃ f : Nat → Int32, f = (upd (upd (upd (fun _ => 0) 0 (f4 t0 u4)) 1 (f4 t1 u4)) 2 (f4 t2 u4)) := ⟨_, rfl⟩
          rw [← hf_gg] at V156
          obtain ⟨T160, h160, X160, e160, E160, A160, D160, -, st160⟩ := newO X156 hx hZ hown (hw _ (List.mem_of_getElem? (i := 1) rfl)) (hw _ (List.mem_of_getElem? (i := 2) rfl)) (hw _ (List.mem_of_getElem? (i := 3) rfl)) e156 (g := (mkF m 130 #[.val (.int u0), .val (.int u1), .val (.int u2), .val (.int u3), .val (.int u4), .val (.int (3 : Int32)), .val (.int t0), .val (.int t1), .val (.int t2), .val (.ref b129), .val (.ref b130), .unset, .unset] [])) rfl (hb hby at_130) (by decide) (by decide)
          obtain ⟨b160, g160⟩ : ∃ z, z = h156.size := ⟨_, rfl⟩
          rw [← g160] at A160 D160 st160
          have ne_b129_b160 : b129 ≠ b160 := Nat.ne_of_lt (Nat.lt_of_lt_of_le F157.lt (Nat.le_of_eq g160.symm))
          have ne_b130_b160 : b130 ≠ b160 := Nat.ne_of_lt (Nat.lt_of_lt_of_le V156.lt (Nat.le_of_eq g160.symm))
          have g_b160 : n0 ≤ b160 := Nat.le_trans Z156 (Nat.le_of_eq g160.symm)
          have F161 := F157.ext E160
          have F162 := Exa.ext E160 F158
          have F163 := V156.ext E160
          have F164 := Exa.ext E160 F159
          have Z160 : n0 ≤ h160.size := Nat.le_trans Z156 E160.1
          have F_timeslots_b160 : Fld Z h160 b160 "com/example/slotwright/slotwright/problems/postenrolment/Timetable" "timeslots" "[I" .null := D160 (Or.inr (hw _ (List.mem_of_getElem? (i := 20) rfl))) (ty := (.array .int)) (by decide)
          have F_rooms_b160 : Fld Z h160 b160 "com/example/slotwright/slotwright/problems/postenrolment/Timetable" "rooms" "[I" .null := D160 (Or.inr (hw _ (List.mem_of_getElem? (i := 22) rfl))) (ty := (.array .int)) (by decide)
          refine Goes.of st160 ?_
          show Goes _ _ _ _ _ _ _ (T160.setTop (mkF m 133 #[.val (.int u0), .val (.int u1), .val (.int u2), .val (.int u3), .val (.int u4), .val (.int (3 : Int32)), .val (.int t0), .val (.int t1), .val (.int t2), .val (.ref b129), .val (.ref b130), .unset, .unset] [(.ref b160)]))
          refine Goes.of (fun t k => XS.dup X160.here hx rfl (hb hby at_133) rfl rfl k) ?_
          show Goes _ _ _ _ _ _ _ (T160.setTop (mkF m 134 #[.val (.int u0), .val (.int u1), .val (.int u2), .val (.int u3), .val (.int u4), .val (.int (3 : Int32)), .val (.int t0), .val (.int t1), .val (.int t2), .val (.ref b129), .val (.ref b130), .unset, .unset] [(.ref b160), (.ref b160)]))
          refine Goes.of (fun t k => XS.aload X160.here hx rfl (hb hby at_134) rfl rfl k) ?_
          show Goes _ _ _ _ _ _ _ (T160.setTop (mkF m 136 #[.val (.int u0), .val (.int u1), .val (.int u2), .val (.int u3), .val (.int u4), .val (.int (3 : Int32)), .val (.int t0), .val (.int t1), .val (.int t2), .val (.ref b129), .val (.ref b130), .unset, .unset] [(.ref b129), (.ref b160), (.ref b160)]))
          refine Goes.of (fun t k => XS.aload X160.here hx rfl (hb hby at_136) rfl rfl k) ?_
          show Goes _ _ _ _ _ _ _ (T160.setTop (mkF m 138 #[.val (.int u0), .val (.int u1), .val (.int u2), .val (.int u3), .val (.int u4), .val (.int (3 : Int32)), .val (.int t0), .val (.int t1), .val (.int t2), .val (.ref b129), .val (.ref b130), .unset, .unset] [(.ref b130), (.ref b129), (.ref b160), (.ref b160)]))
          obtain ⟨_, _, ⟨T165, L165, k165, n165⟩, -, X165, ⟨Lc165, hQ165, l165, y165, z165⟩, st165⟩ := X160.specialBack hx (y := (⟨"com/example/slotwright/slotwright/problems/postenrolment/Timetable", "<init>", "([I[I)V"⟩ : MethodName)) rfl hown (mvT hZ (hw _ (List.mem_of_getElem? (i := 4) rfl))) (mvT hZ (hw _ (List.mem_of_getElem? (i := 5) rfl))) (mvT hZ (hw _ (List.mem_of_getElem? (i := 6) rfl))) (by decide) (backOf (W := 1) (rm1 l Z a0 hw [] b160 b129 b130 3 (3 : Int32) ff gg h160 n0 Z160 A160 F_timeslots_b160 F_rooms_b160 g_b160 F161 F163 F162 F164 (Ne.symm ne_b129_b160) (Ne.symm ne_b130_b160) (by decide) (by decide)) hZ (hw _ (List.mem_of_getElem? (i := 6) rfl)) (hw _ (List.mem_of_getElem? (i := 3) rfl)) (by decide) (by decide)) (g := (mkF m 138 #[.val (.int u0), .val (.int u1), .val (.int u2), .val (.int u3), .val (.int u4), .val (.int (3 : Int32)), .val (.int t0), .val (.int t1), .val (.int t2), .val (.ref b129), .val (.ref b130), .unset, .unset] [(.ref b130), (.ref b129), (.ref b160), (.ref b160)])) rfl (by rw [hml]; rfl) (Steps.refl _) (a := b160) (argsL := [(.ref b129), (.ref b130)]) (rest := [(.ref b160)]) (lenOf pd_3 rfl) rfl (by show 2 * 0 + _ ≤ _; exact Nat.le_of_eq rfl) (hb hby at_138) (fun _ _ => ⟨rfl, e160, (by decide : 3 + 2 ≤ _), (by decide : 8 + 6 ≤ _)⟩)
          dsimp only [Pt.U, Pt.locs, Pt.cells, Pt.slots] at X165 l165 y165 z165 st165 hQ165
          subst l165 y165 z165
          obtain ⟨rfl, N165q, ta165, K165, sz165, Eo165, Ft165, Vt165⟩ := hQ165
          have F166 := F161.keep K165 (ninS ne_b129_b160 nin0)
          have F167 := F162.keep K165
          have F168 := F163.keep K165 (ninS ne_b130_b160 nin0)
          have F169 := F164.keep K165
          have F170 := A160.keep K165
          have Z165 : n0 ≤ T165.heap.size := Nat.le_trans Z160 K165.1
          have N165 := Fr.app N156 N165q
          refine Goes.of (fun t k => st165.trans k) ?_
          show Goes _ _ _ _ _ _ _ (T165.setTop (mkF m 141 #[.val (.int u0), .val (.int u1), .val (.int u2), .val (.int u3), .val (.int u4), .val (.int (3 : Int32)), .val (.int t0), .val (.int t1), .val (.int t2), .val (.ref b129), .val (.ref b130), .unset, .unset] [(.ref b160)]))
          refine Goes.of (fun t k => XS.astore X165.here hx rfl (hb hby at_141) rfl rfl (l' := #[.val (.int u0), .val (.int u1), .val (.int u2), .val (.int u3), .val (.int u4), .val (.int (3 : Int32)), .val (.int t0), .val (.int t1), .val (.int t2), .val (.ref b129), .val (.ref b130), .val (.ref b160), .unset]) rfl k) ?_
          show Goes _ _ _ _ _ _ _ (T165.setTop (mkF m 143 #[.val (.int u0), .val (.int u1), .val (.int u2), .val (.int u3), .val (.int u4), .val (.int (3 : Int32)), .val (.int t0), .val (.int t1), .val (.int t2), .val (.ref b129), .val (.ref b130), .val (.ref b160), .unset] []))
          refine Goes.of (fun t k => XS.iload X165.here hx rfl (hb hby at_143) rfl k) ?_
          show Goes _ _ _ _ _ _ _ (T165.setTop (mkF m 145 #[.val (.int u0), .val (.int u1), .val (.int u2), .val (.int u3), .val (.int u4), .val (.int (3 : Int32)), .val (.int t0), .val (.int t1), .val (.int t2), .val (.ref b129), .val (.ref b130), .val (.ref b160), .unset] [(.int (3 : Int32))]))
          refine Goes.of (fun t k => XS.ifNo X165.here hx rfl (hb hby at_145) rfl ((if0 _ _).trans (tlt (by decide : (0 : Int32) < (3 : Int32))).2.2.2) k) ?_
          show Goes _ _ _ _ _ _ _ (T165.setTop (mkF m 148 #[.val (.int u0), .val (.int u1), .val (.int u2), .val (.int u3), .val (.int u4), .val (.int (3 : Int32)), .val (.int t0), .val (.int t1), .val (.int t2), .val (.ref b129), .val (.ref b130), .val (.ref b160), .unset] []))
          refine Goes.of (fun t k => XS.iload X165.here hx rfl (hb hby at_148) rfl k) ?_
          show Goes _ _ _ _ _ _ _ (T165.setTop (mkF m 150 #[.val (.int u0), .val (.int u1), .val (.int u2), .val (.int u3), .val (.int u4), .val (.int (3 : Int32)), .val (.int t0), .val (.int t1), .val (.int t2), .val (.ref b129), .val (.ref b130), .val (.ref b160), .unset] [(.int t0)]))
          refine Goes.of (fun t k => XS.iconst X165.here hx rfl (hb hby at_150) k) ?_
          show Goes _ _ _ _ _ _ _ (T165.setTop (mkF m 151 #[.val (.int u0), .val (.int u1), .val (.int u2), .val (.int u3), .val (.int u4), .val (.int (3 : Int32)), .val (.int t0), .val (.int t1), .val (.int t2), .val (.ref b129), .val (.ref b130), .val (.ref b160), .unset] [(.int (-1 : Int32)), (.int t0)]))
          by_cases hc171 : t0 = (-1 : Int32)
          · refine Goes.of (fun t k => XS.icmpYes X165.here hx rfl (pc0 := 151) (pc' := 182) rfl (hb hby at_151) rfl (teq hc171).1 (by decide) (by decide) k) ?_
            show Goes _ _ _ _ _ _ _ (T165.setTop (mkF m 182 #[.val (.int u0), .val (.int u1), .val (.int u2), .val (.int u3), .val (.int u4), .val (.int (3 : Int32)), .val (.int t0), .val (.int t1), .val (.int t2), .val (.ref b129), .val (.ref b130), .val (.ref b160), .unset] []))
            refine Goes.of (fun t k => XS.iconst X165.here hx rfl (hb hby at_182) k) ?_
            show Goes _ _ _ _ _ _ _ (T165.setTop (mkF m 183 #[.val (.int u0), .val (.int u1), .val (.int u2), .val (.int u3), .val (.int u4), .val (.int (3 : Int32)), .val (.int t0), .val (.int t1), .val (.int t2), .val (.ref b129), .val (.ref b130), .val (.ref b160), .unset] [(.int (0 : Int32))]))
            refine Goes.of (fun t k => XS.istore X165.here hx rfl (hb hby at_183) rfl (l' := #[.val (.int u0), .val (.int u1), .val (.int u2), .val (.int u3), .val (.int u4), .val (.int (3 : Int32)), .val (.int t0), .val (.int t1), .val (.int t2), .val (.ref b129), .val (.ref b130), .val (.ref b160), .val (.int (0 : Int32))]) rfl k) ?_
            show Goes _ _ _ _ _ _ _ (T165.setTop (mkF m 185 #[.val (.int u0), .val (.int u1), .val (.int u2), .val (.int u3), .val (.int u4), .val (.int (3 : Int32)), .val (.int t0), .val (.int t1), .val (.int t2), .val (.ref b129), .val (.ref b130), .val (.ref b160), .val (.int (0 : Int32))] []))
            refine Goes.of (fun t k => XS.aload X165.here hx rfl (hb hby at_185) rfl rfl k) ?_
            show Goes _ _ _ _ _ _ _ (T165.setTop (mkF m 187 #[.val (.int u0), .val (.int u1), .val (.int u2), .val (.int u3), .val (.int u4), .val (.int (3 : Int32)), .val (.int t0), .val (.int t1), .val (.int t2), .val (.ref b129), .val (.ref b130), .val (.ref b160), .val (.int (0 : Int32))] [(.ref b160)]))
            obtain ⟨cq172, kq172, q172a, q172b, q172c⟩ := isOf hZ rfl Eo165
            obtain ⟨_, _, ⟨T172, L172, k172, n172⟩, -, X172, ⟨Lc172, hQ172, l172, y172, z172⟩, st172⟩ := X165.virtualBack hx (y := (⟨"com/example/slotwright/slotwright/problems/postenrolment/Timetable", "isComplete", "()Z"⟩ : MethodName)) (z := (⟨"com/example/slotwright/slotwright/problems/postenrolment/Timetable", "isComplete", "()Z"⟩ : MethodName)) hown (mvT hZ (hw _ (List.mem_of_getElem? (i := 23) rfl))) (mvT hZ (hw _ (List.mem_of_getElem? (i := 24) rfl))) (notFace_of_selects (args := #[]) (mvT hZ (hw _ (List.mem_of_getElem? (i := 26) rfl)))) (mvT hZ (hw _ (List.mem_of_getElem? (i := 26) rfl))) (mvT hZ (hw _ (List.mem_of_getElem? (i := 25) rfl))) (by decide) (backOf (W := 0) (rm3 l Z a0 hw [] b160 ta165 3 (3 : Int32) ff T165.heap n0 Z165 Ft165 Vt165 (by decide)) hZ (hw _ (List.mem_of_getElem? (i := 27) rfl)) (hw _ (List.mem_of_getElem? (i := 3) rfl)) (by decide) (by decide)) q172a q172c (g := (mkF m 187 #[.val (.int u0), .val (.int u1), .val (.int u2), .val (.int u3), .val (.int u4), .val (.int (3 : Int32)), .val (.int t0), .val (.int t1), .val (.int t2), .val (.ref b129), .val (.ref b130), .val (.ref b160), .val (.int (0 : Int32))] [(.ref b160)])) rfl (by rw [hml]; rfl) (Steps.refl _) (argsL := []) (rest := []) (lenOf pd_4 rfl) rfl (by show 2 * 0 + _ ≤ _; exact Nat.le_of_eq rfl) (hb hby at_187) (fun _ _ => ⟨rfl, rfl, (by decide : 5 + 0 ≤ _), (by decide : 14 + 0 ≤ _)⟩)
            dsimp only [Pt.U, Pt.locs, Pt.cells, Pt.slots] at X172 l172 y172 z172 st172 hQ172
            subst l172 y172 z172
            obtain ⟨rfl, N172q, e172⟩ := hQ172
            have N172 := Fr.app N165 N172q
            refine Goes.of (fun t k => st172.trans k) ?_
            show Goes _ _ _ _ _ _ _ (T172.setTop (mkF m 190 #[.val (.int u0), .val (.int u1), .val (.int u2), .val (.int u3), .val (.int u4), .val (.int (3 : Int32)), .val (.int t0), .val (.int t1), .val (.int t2), .val (.ref b129), .val (.ref b130), .val (.ref b160), .val (.int (0 : Int32))] [(.int (own_cmp ff 3 0))]))
            refine Goes.of (fun t k => XS.iload X172.here hx rfl (hb hby at_190) rfl k) ?_
            show Goes _ _ _ _ _ _ _ (T172.setTop (mkF m 192 #[.val (.int u0), .val (.int u1), .val (.int u2), .val (.int u3), .val (.int u4), .val (.int (3 : Int32)), .val (.int t0), .val (.int t1), .val (.int t2), .val (.ref b129), .val (.ref b130), .val (.ref b160), .val (.int (0 : Int32))] [(.int (0 : Int32)), (.int (own_cmp ff 3 0))]))
            refine Goes.of (fun t k => XS.icmpNo X172.here hx rfl (hb hby at_192) rfl (teq (by rw [hf_ff]; show (if t0 = (-1 : Int32) then (0 : Int32) else (if t1 = (-1 : Int32) then (0 : Int32) else (if t2 = (-1 : Int32) then (0 : Int32) else (1 : Int32)))) = _; rw [if_pos hc171])).2 k) ?_
            show Goes _ _ _ _ _ _ _ (T172.setTop (mkF m 195 #[.val (.int u0), .val (.int u1), .val (.int u2), .val (.int u3), .val (.int u4), .val (.int (3 : Int32)), .val (.int t0), .val (.int t1), .val (.int t2), .val (.ref b129), .val (.ref b130), .val (.ref b160), .val (.int (0 : Int32))] []))
            refine Goes.of (fun t k => XS.iconst X172.here hx rfl (hb hby at_195) k) ?_
            show Goes _ _ _ _ _ _ _ (T172.setTop (mkF m 196 #[.val (.int u0), .val (.int u1), .val (.int u2), .val (.int u3), .val (.int u4), .val (.int (3 : Int32)), .val (.int t0), .val (.int t1), .val (.int t2), .val (.ref b129), .val (.ref b130), .val (.ref b160), .val (.int (0 : Int32))] [(.int (1 : Int32))]))
            refine Goes.of (fun t k => XS.goto X172.here hx rfl (pc0 := 196) (pc' := 200) rfl (hb hby at_196) (by decide) (by decide) k) ?_
            show Goes _ _ _ _ _ _ _ (T172.setTop (mkF m 200 #[.val (.int u0), .val (.int u1), .val (.int u2), .val (.int u3), .val (.int u4), .val (.int (3 : Int32)), .val (.int t0), .val (.int t1), .val (.int t2), .val (.ref b129), .val (.ref b130), .val (.ref b160), .val (.int (0 : Int32))] [(.int (1 : Int32))]))
            exact Goes.fin X172 hlk (v := some (.int (1 : Int32))) (fun h => by rw [Bd.returns] at h; cases h) (fun fs hr => retN X172 hx (t := .boolean) Bd.returns (by simp) (hb hby at_200) hr) ⟨rfl, N172⟩ (by decide) (by decide)
          · refine Goes.of (fun t k => XS.icmpNo X165.here hx rfl (hb hby at_151) rfl (feq hc171).1 k) ?_
            show Goes _ _ _ _ _ _ _ (T165.setTop (mkF m 154 #[.val (.int u0), .val (.int u1), .val (.int u2), .val (.int u3), .val (.int u4), .val (.int (3 : Int32)), .val (.int t0), .val (.int t1), .val (.int t2), .val (.ref b129), .val (.ref b130), .val (.ref b160), .unset] []))
            refine Goes.of (fun t k => XS.iload X165.here hx rfl (hb hby at_154) rfl k) ?_
            show Goes _ _ _ _ _ _ _ (T165.setTop (mkF m 156 #[.val (.int u0), .val (.int u1), .val (.int u2), .val (.int u3), .val (.int u4), .val (.int (3 : Int32)), .val (.int t0), .val (.int t1), .val (.int t2), .val (.ref b129), .val (.ref b130), .val (.ref b160), .unset] [(.int (3 : Int32))]))
            refine Goes.of (fun t k => XS.iconst X165.here hx rfl (hb hby at_156) k) ?_
            show Goes _ _ _ _ _ _ _ (T165.setTop (mkF m 157 #[.val (.int u0), .val (.int u1), .val (.int u2), .val (.int u3), .val (.int u4), .val (.int (3 : Int32)), .val (.int t0), .val (.int t1), .val (.int t2), .val (.ref b129), .val (.ref b130), .val (.ref b160), .unset] [(.int (1 : Int32)), (.int (3 : Int32))]))
            refine Goes.of (fun t k => XS.icmpNo X165.here hx rfl (hb hby at_157) rfl (tlt (by decide : (1 : Int32) < (3 : Int32))).2.2.2 k) ?_
            show Goes _ _ _ _ _ _ _ (T165.setTop (mkF m 160 #[.val (.int u0), .val (.int u1), .val (.int u2), .val (.int u3), .val (.int u4), .val (.int (3 : Int32)), .val (.int t0), .val (.int t1), .val (.int t2), .val (.ref b129), .val (.ref b130), .val (.ref b160), .unset] []))
            refine Goes.of (fun t k => XS.iload X165.here hx rfl (hb hby at_160) rfl k) ?_
            show Goes _ _ _ _ _ _ _ (T165.setTop (mkF m 162 #[.val (.int u0), .val (.int u1), .val (.int u2), .val (.int u3), .val (.int u4), .val (.int (3 : Int32)), .val (.int t0), .val (.int t1), .val (.int t2), .val (.ref b129), .val (.ref b130), .val (.ref b160), .unset] [(.int t1)]))
            refine Goes.of (fun t k => XS.iconst X165.here hx rfl (hb hby at_162) k) ?_
            show Goes _ _ _ _ _ _ _ (T165.setTop (mkF m 163 #[.val (.int u0), .val (.int u1), .val (.int u2), .val (.int u3), .val (.int u4), .val (.int (3 : Int32)), .val (.int t0), .val (.int t1), .val (.int t2), .val (.ref b129), .val (.ref b130), .val (.ref b160), .unset] [(.int (-1 : Int32)), (.int t1)]))
            by_cases hc173 : t1 = (-1 : Int32)
            · refine Goes.of (fun t k => XS.icmpYes X165.here hx rfl (pc0 := 163) (pc' := 182) rfl (hb hby at_163) rfl (teq hc173).1 (by decide) (by decide) k) ?_
              show Goes _ _ _ _ _ _ _ (T165.setTop (mkF m 182 #[.val (.int u0), .val (.int u1), .val (.int u2), .val (.int u3), .val (.int u4), .val (.int (3 : Int32)), .val (.int t0), .val (.int t1), .val (.int t2), .val (.ref b129), .val (.ref b130), .val (.ref b160), .unset] []))
              refine Goes.of (fun t k => XS.iconst X165.here hx rfl (hb hby at_182) k) ?_
              show Goes _ _ _ _ _ _ _ (T165.setTop (mkF m 183 #[.val (.int u0), .val (.int u1), .val (.int u2), .val (.int u3), .val (.int u4), .val (.int (3 : Int32)), .val (.int t0), .val (.int t1), .val (.int t2), .val (.ref b129), .val (.ref b130), .val (.ref b160), .unset] [(.int (0 : Int32))]))
              refine Goes.of (fun t k => XS.istore X165.here hx rfl (hb hby at_183) rfl (l' := #[.val (.int u0), .val (.int u1), .val (.int u2), .val (.int u3), .val (.int u4), .val (.int (3 : Int32)), .val (.int t0), .val (.int t1), .val (.int t2), .val (.ref b129), .val (.ref b130), .val (.ref b160), .val (.int (0 : Int32))]) rfl k) ?_
              show Goes _ _ _ _ _ _ _ (T165.setTop (mkF m 185 #[.val (.int u0), .val (.int u1), .val (.int u2), .val (.int u3), .val (.int u4), .val (.int (3 : Int32)), .val (.int t0), .val (.int t1), .val (.int t2), .val (.ref b129), .val (.ref b130), .val (.ref b160), .val (.int (0 : Int32))] []))
              refine Goes.of (fun t k => XS.aload X165.here hx rfl (hb hby at_185) rfl rfl k) ?_
              show Goes _ _ _ _ _ _ _ (T165.setTop (mkF m 187 #[.val (.int u0), .val (.int u1), .val (.int u2), .val (.int u3), .val (.int u4), .val (.int (3 : Int32)), .val (.int t0), .val (.int t1), .val (.int t2), .val (.ref b129), .val (.ref b130), .val (.ref b160), .val (.int (0 : Int32))] [(.ref b160)]))
              obtain ⟨cq174, kq174, q174a, q174b, q174c⟩ := isOf hZ rfl Eo165
              obtain ⟨_, _, ⟨T174, L174, k174, n174⟩, -, X174, ⟨Lc174, hQ174, l174, y174, z174⟩, st174⟩ := X165.virtualBack hx (y := (⟨"com/example/slotwright/slotwright/problems/postenrolment/Timetable", "isComplete", "()Z"⟩ : MethodName)) (z := (⟨"com/example/slotwright/slotwright/problems/postenrolment/Timetable", "isComplete", "()Z"⟩ : MethodName)) hown (mvT hZ (hw _ (List.mem_of_getElem? (i := 23) rfl))) (mvT hZ (hw _ (List.mem_of_getElem? (i := 24) rfl))) (notFace_of_selects (args := #[]) (mvT hZ (hw _ (List.mem_of_getElem? (i := 26) rfl)))) (mvT hZ (hw _ (List.mem_of_getElem? (i := 26) rfl))) (mvT hZ (hw _ (List.mem_of_getElem? (i := 25) rfl))) (by decide) (backOf (W := 0) (rm3 l Z a0 hw [] b160 ta165 3 (3 : Int32) ff T165.heap n0 Z165 Ft165 Vt165 (by decide)) hZ (hw _ (List.mem_of_getElem? (i := 27) rfl)) (hw _ (List.mem_of_getElem? (i := 3) rfl)) (by decide) (by decide)) q174a q174c (g := (mkF m 187 #[.val (.int u0), .val (.int u1), .val (.int u2), .val (.int u3), .val (.int u4), .val (.int (3 : Int32)), .val (.int t0), .val (.int t1), .val (.int t2), .val (.ref b129), .val (.ref b130), .val (.ref b160), .val (.int (0 : Int32))] [(.ref b160)])) rfl (by rw [hml]; rfl) (Steps.refl _) (argsL := []) (rest := []) (lenOf pd_4 rfl) rfl (by show 2 * 0 + _ ≤ _; exact Nat.le_of_eq rfl) (hb hby at_187) (fun _ _ => ⟨rfl, rfl, (by decide : 5 + 0 ≤ _), (by decide : 14 + 0 ≤ _)⟩)
              dsimp only [Pt.U, Pt.locs, Pt.cells, Pt.slots] at X174 l174 y174 z174 st174 hQ174
              subst l174 y174 z174
              obtain ⟨rfl, N174q, e174⟩ := hQ174
              have N174 := Fr.app N165 N174q
              refine Goes.of (fun t k => st174.trans k) ?_
              show Goes _ _ _ _ _ _ _ (T174.setTop (mkF m 190 #[.val (.int u0), .val (.int u1), .val (.int u2), .val (.int u3), .val (.int u4), .val (.int (3 : Int32)), .val (.int t0), .val (.int t1), .val (.int t2), .val (.ref b129), .val (.ref b130), .val (.ref b160), .val (.int (0 : Int32))] [(.int (own_cmp ff 3 0))]))
              refine Goes.of (fun t k => XS.iload X174.here hx rfl (hb hby at_190) rfl k) ?_
              show Goes _ _ _ _ _ _ _ (T174.setTop (mkF m 192 #[.val (.int u0), .val (.int u1), .val (.int u2), .val (.int u3), .val (.int u4), .val (.int (3 : Int32)), .val (.int t0), .val (.int t1), .val (.int t2), .val (.ref b129), .val (.ref b130), .val (.ref b160), .val (.int (0 : Int32))] [(.int (0 : Int32)), (.int (own_cmp ff 3 0))]))
              refine Goes.of (fun t k => XS.icmpNo X174.here hx rfl (hb hby at_192) rfl (teq (by rw [hf_ff]; show (if t0 = (-1 : Int32) then (0 : Int32) else (if t1 = (-1 : Int32) then (0 : Int32) else (if t2 = (-1 : Int32) then (0 : Int32) else (1 : Int32)))) = _; rw [if_neg hc171, if_pos hc173])).2 k) ?_
              show Goes _ _ _ _ _ _ _ (T174.setTop (mkF m 195 #[.val (.int u0), .val (.int u1), .val (.int u2), .val (.int u3), .val (.int u4), .val (.int (3 : Int32)), .val (.int t0), .val (.int t1), .val (.int t2), .val (.ref b129), .val (.ref b130), .val (.ref b160), .val (.int (0 : Int32))] []))
              refine Goes.of (fun t k => XS.iconst X174.here hx rfl (hb hby at_195) k) ?_
              show Goes _ _ _ _ _ _ _ (T174.setTop (mkF m 196 #[.val (.int u0), .val (.int u1), .val (.int u2), .val (.int u3), .val (.int u4), .val (.int (3 : Int32)), .val (.int t0), .val (.int t1), .val (.int t2), .val (.ref b129), .val (.ref b130), .val (.ref b160), .val (.int (0 : Int32))] [(.int (1 : Int32))]))
              refine Goes.of (fun t k => XS.goto X174.here hx rfl (pc0 := 196) (pc' := 200) rfl (hb hby at_196) (by decide) (by decide) k) ?_
              show Goes _ _ _ _ _ _ _ (T174.setTop (mkF m 200 #[.val (.int u0), .val (.int u1), .val (.int u2), .val (.int u3), .val (.int u4), .val (.int (3 : Int32)), .val (.int t0), .val (.int t1), .val (.int t2), .val (.ref b129), .val (.ref b130), .val (.ref b160), .val (.int (0 : Int32))] [(.int (1 : Int32))]))
              exact Goes.fin X174 hlk (v := some (.int (1 : Int32))) (fun h => by rw [Bd.returns] at h; cases h) (fun fs hr => retN X174 hx (t := .boolean) Bd.returns (by simp) (hb hby at_200) hr) ⟨rfl, N174⟩ (by decide) (by decide)
            · refine Goes.of (fun t k => XS.icmpNo X165.here hx rfl (hb hby at_163) rfl (feq hc173).1 k) ?_
              show Goes _ _ _ _ _ _ _ (T165.setTop (mkF m 166 #[.val (.int u0), .val (.int u1), .val (.int u2), .val (.int u3), .val (.int u4), .val (.int (3 : Int32)), .val (.int t0), .val (.int t1), .val (.int t2), .val (.ref b129), .val (.ref b130), .val (.ref b160), .unset] []))
              refine Goes.of (fun t k => XS.iload X165.here hx rfl (hb hby at_166) rfl k) ?_
              show Goes _ _ _ _ _ _ _ (T165.setTop (mkF m 168 #[.val (.int u0), .val (.int u1), .val (.int u2), .val (.int u3), .val (.int u4), .val (.int (3 : Int32)), .val (.int t0), .val (.int t1), .val (.int t2), .val (.ref b129), .val (.ref b130), .val (.ref b160), .unset] [(.int (3 : Int32))]))
              refine Goes.of (fun t k => XS.iconst X165.here hx rfl (hb hby at_168) k) ?_
              show Goes _ _ _ _ _ _ _ (T165.setTop (mkF m 169 #[.val (.int u0), .val (.int u1), .val (.int u2), .val (.int u3), .val (.int u4), .val (.int (3 : Int32)), .val (.int t0), .val (.int t1), .val (.int t2), .val (.ref b129), .val (.ref b130), .val (.ref b160), .unset] [(.int (2 : Int32)), (.int (3 : Int32))]))
              refine Goes.of (fun t k => XS.icmpNo X165.here hx rfl (hb hby at_169) rfl (tlt (by decide : (2 : Int32) < (3 : Int32))).2.2.2 k) ?_
              show Goes _ _ _ _ _ _ _ (T165.setTop (mkF m 172 #[.val (.int u0), .val (.int u1), .val (.int u2), .val (.int u3), .val (.int u4), .val (.int (3 : Int32)), .val (.int t0), .val (.int t1), .val (.int t2), .val (.ref b129), .val (.ref b130), .val (.ref b160), .unset] []))
              refine Goes.of (fun t k => XS.iload X165.here hx rfl (hb hby at_172) rfl k) ?_
              show Goes _ _ _ _ _ _ _ (T165.setTop (mkF m 174 #[.val (.int u0), .val (.int u1), .val (.int u2), .val (.int u3), .val (.int u4), .val (.int (3 : Int32)), .val (.int t0), .val (.int t1), .val (.int t2), .val (.ref b129), .val (.ref b130), .val (.ref b160), .unset] [(.int t2)]))
              refine Goes.of (fun t k => XS.iconst X165.here hx rfl (hb hby at_174) k) ?_
              show Goes _ _ _ _ _ _ _ (T165.setTop (mkF m 175 #[.val (.int u0), .val (.int u1), .val (.int u2), .val (.int u3), .val (.int u4), .val (.int (3 : Int32)), .val (.int t0), .val (.int t1), .val (.int t2), .val (.ref b129), .val (.ref b130), .val (.ref b160), .unset] [(.int (-1 : Int32)), (.int t2)]))
              by_cases hc175 : t2 = (-1 : Int32)
              · refine Goes.of (fun t k => XS.icmpYes X165.here hx rfl (pc0 := 175) (pc' := 182) rfl (hb hby at_175) rfl (teq hc175).1 (by decide) (by decide) k) ?_
                show Goes _ _ _ _ _ _ _ (T165.setTop (mkF m 182 #[.val (.int u0), .val (.int u1), .val (.int u2), .val (.int u3), .val (.int u4), .val (.int (3 : Int32)), .val (.int t0), .val (.int t1), .val (.int t2), .val (.ref b129), .val (.ref b130), .val (.ref b160), .unset] []))
                refine Goes.of (fun t k => XS.iconst X165.here hx rfl (hb hby at_182) k) ?_
                show Goes _ _ _ _ _ _ _ (T165.setTop (mkF m 183 #[.val (.int u0), .val (.int u1), .val (.int u2), .val (.int u3), .val (.int u4), .val (.int (3 : Int32)), .val (.int t0), .val (.int t1), .val (.int t2), .val (.ref b129), .val (.ref b130), .val (.ref b160), .unset] [(.int (0 : Int32))]))
                refine Goes.of (fun t k => XS.istore X165.here hx rfl (hb hby at_183) rfl (l' := #[.val (.int u0), .val (.int u1), .val (.int u2), .val (.int u3), .val (.int u4), .val (.int (3 : Int32)), .val (.int t0), .val (.int t1), .val (.int t2), .val (.ref b129), .val (.ref b130), .val (.ref b160), .val (.int (0 : Int32))]) rfl k) ?_
                show Goes _ _ _ _ _ _ _ (T165.setTop (mkF m 185 #[.val (.int u0), .val (.int u1), .val (.int u2), .val (.int u3), .val (.int u4), .val (.int (3 : Int32)), .val (.int t0), .val (.int t1), .val (.int t2), .val (.ref b129), .val (.ref b130), .val (.ref b160), .val (.int (0 : Int32))] []))
                refine Goes.of (fun t k => XS.aload X165.here hx rfl (hb hby at_185) rfl rfl k) ?_
                show Goes _ _ _ _ _ _ _ (T165.setTop (mkF m 187 #[.val (.int u0), .val (.int u1), .val (.int u2), .val (.int u3), .val (.int u4), .val (.int (3 : Int32)), .val (.int t0), .val (.int t1), .val (.int t2), .val (.ref b129), .val (.ref b130), .val (.ref b160), .val (.int (0 : Int32))] [(.ref b160)]))
                obtain ⟨cq176, kq176, q176a, q176b, q176c⟩ := isOf hZ rfl Eo165
                obtain ⟨_, _, ⟨T176, L176, k176, n176⟩, -, X176, ⟨Lc176, hQ176, l176, y176, z176⟩, st176⟩ := X165.virtualBack hx (y := (⟨"com/example/slotwright/slotwright/problems/postenrolment/Timetable", "isComplete", "()Z"⟩ : MethodName)) (z := (⟨"com/example/slotwright/slotwright/problems/postenrolment/Timetable", "isComplete", "()Z"⟩ : MethodName)) hown (mvT hZ (hw _ (List.mem_of_getElem? (i := 23) rfl))) (mvT hZ (hw _ (List.mem_of_getElem? (i := 24) rfl))) (notFace_of_selects (args := #[]) (mvT hZ (hw _ (List.mem_of_getElem? (i := 26) rfl)))) (mvT hZ (hw _ (List.mem_of_getElem? (i := 26) rfl))) (mvT hZ (hw _ (List.mem_of_getElem? (i := 25) rfl))) (by decide) (backOf (W := 0) (rm3 l Z a0 hw [] b160 ta165 3 (3 : Int32) ff T165.heap n0 Z165 Ft165 Vt165 (by decide)) hZ (hw _ (List.mem_of_getElem? (i := 27) rfl)) (hw _ (List.mem_of_getElem? (i := 3) rfl)) (by decide) (by decide)) q176a q176c (g := (mkF m 187 #[.val (.int u0), .val (.int u1), .val (.int u2), .val (.int u3), .val (.int u4), .val (.int (3 : Int32)), .val (.int t0), .val (.int t1), .val (.int t2), .val (.ref b129), .val (.ref b130), .val (.ref b160), .val (.int (0 : Int32))] [(.ref b160)])) rfl (by rw [hml]; rfl) (Steps.refl _) (argsL := []) (rest := []) (lenOf pd_4 rfl) rfl (by show 2 * 0 + _ ≤ _; exact Nat.le_of_eq rfl) (hb hby at_187) (fun _ _ => ⟨rfl, rfl, (by decide : 5 + 0 ≤ _), (by decide : 14 + 0 ≤ _)⟩)
                dsimp only [Pt.U, Pt.locs, Pt.cells, Pt.slots] at X176 l176 y176 z176 st176 hQ176
                subst l176 y176 z176
                obtain ⟨rfl, N176q, e176⟩ := hQ176
                have N176 := Fr.app N165 N176q
                refine Goes.of (fun t k => st176.trans k) ?_
                show Goes _ _ _ _ _ _ _ (T176.setTop (mkF m 190 #[.val (.int u0), .val (.int u1), .val (.int u2), .val (.int u3), .val (.int u4), .val (.int (3 : Int32)), .val (.int t0), .val (.int t1), .val (.int t2), .val (.ref b129), .val (.ref b130), .val (.ref b160), .val (.int (0 : Int32))] [(.int (own_cmp ff 3 0))]))
                refine Goes.of (fun t k => XS.iload X176.here hx rfl (hb hby at_190) rfl k) ?_
                show Goes _ _ _ _ _ _ _ (T176.setTop (mkF m 192 #[.val (.int u0), .val (.int u1), .val (.int u2), .val (.int u3), .val (.int u4), .val (.int (3 : Int32)), .val (.int t0), .val (.int t1), .val (.int t2), .val (.ref b129), .val (.ref b130), .val (.ref b160), .val (.int (0 : Int32))] [(.int (0 : Int32)), (.int (own_cmp ff 3 0))]))
                refine Goes.of (fun t k => XS.icmpNo X176.here hx rfl (hb hby at_192) rfl (teq (by rw [hf_ff]; show (if t0 = (-1 : Int32) then (0 : Int32) else (if t1 = (-1 : Int32) then (0 : Int32) else (if t2 = (-1 : Int32) then (0 : Int32) else (1 : Int32)))) = _; rw [if_neg hc171, if_neg hc173, if_pos hc175])).2 k) ?_
                show Goes _ _ _ _ _ _ _ (T176.setTop (mkF m 195 #[.val (.int u0), .val (.int u1), .val (.int u2), .val (.int u3), .val (.int u4), .val (.int (3 : Int32)), .val (.int t0), .val (.int t1), .val (.int t2), .val (.ref b129), .val (.ref b130), .val (.ref b160), .val (.int (0 : Int32))] []))
                refine Goes.of (fun t k => XS.iconst X176.here hx rfl (hb hby at_195) k) ?_
                show Goes _ _ _ _ _ _ _ (T176.setTop (mkF m 196 #[.val (.int u0), .val (.int u1), .val (.int u2), .val (.int u3), .val (.int u4), .val (.int (3 : Int32)), .val (.int t0), .val (.int t1), .val (.int t2), .val (.ref b129), .val (.ref b130), .val (.ref b160), .val (.int (0 : Int32))] [(.int (1 : Int32))]))
                refine Goes.of (fun t k => XS.goto X176.here hx rfl (pc0 := 196) (pc' := 200) rfl (hb hby at_196) (by decide) (by decide) k) ?_
                show Goes _ _ _ _ _ _ _ (T176.setTop (mkF m 200 #[.val (.int u0), .val (.int u1), .val (.int u2), .val (.int u3), .val (.int u4), .val (.int (3 : Int32)), .val (.int t0), .val (.int t1), .val (.int t2), .val (.ref b129), .val (.ref b130), .val (.ref b160), .val (.int (0 : Int32))] [(.int (1 : Int32))]))
                exact Goes.fin X176 hlk (v := some (.int (1 : Int32))) (fun h => by rw [Bd.returns] at h; cases h) (fun fs hr => retN X176 hx (t := .boolean) Bd.returns (by simp) (hb hby at_200) hr) ⟨rfl, N176⟩ (by decide) (by decide)
              · refine Goes.of (fun t k => XS.icmpNo X165.here hx rfl (hb hby at_175) rfl (feq hc175).1 k) ?_
                show Goes _ _ _ _ _ _ _ (T165.setTop (mkF m 178 #[.val (.int u0), .val (.int u1), .val (.int u2), .val (.int u3), .val (.int u4), .val (.int (3 : Int32)), .val (.int t0), .val (.int t1), .val (.int t2), .val (.ref b129), .val (.ref b130), .val (.ref b160), .unset] []))
                refine Goes.of (fun t k => XS.iconst X165.here hx rfl (hb hby at_178) k) ?_
                show Goes _ _ _ _ _ _ _ (T165.setTop (mkF m 179 #[.val (.int u0), .val (.int u1), .val (.int u2), .val (.int u3), .val (.int u4), .val (.int (3 : Int32)), .val (.int t0), .val (.int t1), .val (.int t2), .val (.ref b129), .val (.ref b130), .val (.ref b160), .unset] [(.int (1 : Int32))]))
                refine Goes.of (fun t k => XS.goto X165.here hx rfl (pc0 := 179) (pc' := 183) rfl (hb hby at_179) (by decide) (by decide) k) ?_
                show Goes _ _ _ _ _ _ _ (T165.setTop (mkF m 183 #[.val (.int u0), .val (.int u1), .val (.int u2), .val (.int u3), .val (.int u4), .val (.int (3 : Int32)), .val (.int t0), .val (.int t1), .val (.int t2), .val (.ref b129), .val (.ref b130), .val (.ref b160), .unset] [(.int (1 : Int32))]))
                refine Goes.of (fun t k => XS.istore X165.here hx rfl (hb hby at_183) rfl (l' := #[.val (.int u0), .val (.int u1), .val (.int u2), .val (.int u3), .val (.int u4), .val (.int (3 : Int32)), .val (.int t0), .val (.int t1), .val (.int t2), .val (.ref b129), .val (.ref b130), .val (.ref b160), .val (.int (1 : Int32))]) rfl k) ?_
                show Goes _ _ _ _ _ _ _ (T165.setTop (mkF m 185 #[.val (.int u0), .val (.int u1), .val (.int u2), .val (.int u3), .val (.int u4), .val (.int (3 : Int32)), .val (.int t0), .val (.int t1), .val (.int t2), .val (.ref b129), .val (.ref b130), .val (.ref b160), .val (.int (1 : Int32))] []))
                refine Goes.of (fun t k => XS.aload X165.here hx rfl (hb hby at_185) rfl rfl k) ?_
                show Goes _ _ _ _ _ _ _ (T165.setTop (mkF m 187 #[.val (.int u0), .val (.int u1), .val (.int u2), .val (.int u3), .val (.int u4), .val (.int (3 : Int32)), .val (.int t0), .val (.int t1), .val (.int t2), .val (.ref b129), .val (.ref b130), .val (.ref b160), .val (.int (1 : Int32))] [(.ref b160)]))
                obtain ⟨cq177, kq177, q177a, q177b, q177c⟩ := isOf hZ rfl Eo165
                obtain ⟨_, _, ⟨T177, L177, k177, n177⟩, -, X177, ⟨Lc177, hQ177, l177, y177, z177⟩, st177⟩ := X165.virtualBack hx (y := (⟨"com/example/slotwright/slotwright/problems/postenrolment/Timetable", "isComplete", "()Z"⟩ : MethodName)) (z := (⟨"com/example/slotwright/slotwright/problems/postenrolment/Timetable", "isComplete", "()Z"⟩ : MethodName)) hown (mvT hZ (hw _ (List.mem_of_getElem? (i := 23) rfl))) (mvT hZ (hw _ (List.mem_of_getElem? (i := 24) rfl))) (notFace_of_selects (args := #[]) (mvT hZ (hw _ (List.mem_of_getElem? (i := 26) rfl)))) (mvT hZ (hw _ (List.mem_of_getElem? (i := 26) rfl))) (mvT hZ (hw _ (List.mem_of_getElem? (i := 25) rfl))) (by decide) (backOf (W := 0) (rm3 l Z a0 hw [] b160 ta165 3 (3 : Int32) ff T165.heap n0 Z165 Ft165 Vt165 (by decide)) hZ (hw _ (List.mem_of_getElem? (i := 27) rfl)) (hw _ (List.mem_of_getElem? (i := 3) rfl)) (by decide) (by decide)) q177a q177c (g := (mkF m 187 #[.val (.int u0), .val (.int u1), .val (.int u2), .val (.int u3), .val (.int u4), .val (.int (3 : Int32)), .val (.int t0), .val (.int t1), .val (.int t2), .val (.ref b129), .val (.ref b130), .val (.ref b160), .val (.int (1 : Int32))] [(.ref b160)])) rfl (by rw [hml]; rfl) (Steps.refl _) (argsL := []) (rest := []) (lenOf pd_4 rfl) rfl (by show 2 * 0 + _ ≤ _; exact Nat.le_of_eq rfl) (hb hby at_187) (fun _ _ => ⟨rfl, rfl, (by decide : 5 + 0 ≤ _), (by decide : 14 + 0 ≤ _)⟩)
                dsimp only [Pt.U, Pt.locs, Pt.cells, Pt.slots] at X177 l177 y177 z177 st177 hQ177
                subst l177 y177 z177
                obtain ⟨rfl, N177q, e177⟩ := hQ177
                have N177 := Fr.app N165 N177q
                refine Goes.of (fun t k => st177.trans k) ?_
                show Goes _ _ _ _ _ _ _ (T177.setTop (mkF m 190 #[.val (.int u0), .val (.int u1), .val (.int u2), .val (.int u3), .val (.int u4), .val (.int (3 : Int32)), .val (.int t0), .val (.int t1), .val (.int t2), .val (.ref b129), .val (.ref b130), .val (.ref b160), .val (.int (1 : Int32))] [(.int (own_cmp ff 3 0))]))
                refine Goes.of (fun t k => XS.iload X177.here hx rfl (hb hby at_190) rfl k) ?_
                show Goes _ _ _ _ _ _ _ (T177.setTop (mkF m 192 #[.val (.int u0), .val (.int u1), .val (.int u2), .val (.int u3), .val (.int u4), .val (.int (3 : Int32)), .val (.int t0), .val (.int t1), .val (.int t2), .val (.ref b129), .val (.ref b130), .val (.ref b160), .val (.int (1 : Int32))] [(.int (1 : Int32)), (.int (own_cmp ff 3 0))]))
                refine Goes.of (fun t k => XS.icmpNo X177.here hx rfl (hb hby at_192) rfl (teq (by rw [hf_ff]; show (if t0 = (-1 : Int32) then (0 : Int32) else (if t1 = (-1 : Int32) then (0 : Int32) else (if t2 = (-1 : Int32) then (0 : Int32) else (1 : Int32)))) = _; rw [if_neg hc171, if_neg hc173, if_neg hc175])).2 k) ?_
                show Goes _ _ _ _ _ _ _ (T177.setTop (mkF m 195 #[.val (.int u0), .val (.int u1), .val (.int u2), .val (.int u3), .val (.int u4), .val (.int (3 : Int32)), .val (.int t0), .val (.int t1), .val (.int t2), .val (.ref b129), .val (.ref b130), .val (.ref b160), .val (.int (1 : Int32))] []))
                refine Goes.of (fun t k => XS.iconst X177.here hx rfl (hb hby at_195) k) ?_
                show Goes _ _ _ _ _ _ _ (T177.setTop (mkF m 196 #[.val (.int u0), .val (.int u1), .val (.int u2), .val (.int u3), .val (.int u4), .val (.int (3 : Int32)), .val (.int t0), .val (.int t1), .val (.int t2), .val (.ref b129), .val (.ref b130), .val (.ref b160), .val (.int (1 : Int32))] [(.int (1 : Int32))]))
                refine Goes.of (fun t k => XS.goto X177.here hx rfl (pc0 := 196) (pc' := 200) rfl (hb hby at_196) (by decide) (by decide) k) ?_
                show Goes _ _ _ _ _ _ _ (T177.setTop (mkF m 200 #[.val (.int u0), .val (.int u1), .val (.int u2), .val (.int u3), .val (.int u4), .val (.int (3 : Int32)), .val (.int t0), .val (.int t1), .val (.int t2), .val (.ref b129), .val (.ref b130), .val (.ref b160), .val (.int (1 : Int32))] [(.int (1 : Int32))]))
                exact Goes.fin X177 hlk (v := some (.int (1 : Int32))) (fun h => by rw [Bd.returns] at h; cases h) (fun fs hr => retN X177 hx (t := .boolean) Bd.returns (by simp) (hb hby at_200) hr) ⟨rfl, N177⟩ (by decide) (by decide)
      refine Goes.of (fun t k => XS.iloadN X46.here hx rfl (hb hby at_35) rfl k) ?_
      show Goes _ _ _ _ _ _ _ (T46.setTop (mkF m 36 #[.val (.int u0), .val (.int u1), .val (.int u2), .val (.int u3), .val (.int u4), .val (.int zz), .val (.int t0), .val (.int t1), .unset, .unset, .unset, .unset, .unset] [(.int u0)]))
      refine Goes.of (fun t k => XS.iconst X46.here hx rfl (hb hby at_36) k) ?_
      show Goes _ _ _ _ _ _ _ (T46.setTop (mkF m 37 #[.val (.int u0), .val (.int u1), .val (.int u2), .val (.int u3), .val (.int u4), .val (.int zz), .val (.int t0), .val (.int t1), .unset, .unset, .unset, .unset, .unset] [(.int (4 : Int32)), (.int u0)]))
      refine Goes.of (fun t k => XS.iushr X46.here hx rfl (hb hby at_37) rfl k) ?_
      show Goes _ _ _ _ _ _ _ (T46.setTop (mkF m 38 #[.val (.int u0), .val (.int u1), .val (.int u2), .val (.int u3), .val (.int u4), .val (.int zz), .val (.int t0), .val (.int t1), .unset, .unset, .unset, .unset, .unset] [(.int ((u0.toUInt32 >>> ((4 : Int32) &&& 31).toUInt32).toInt32))]))
      refine Goes.of (fun t k => XS.iconst X46.here hx rfl (hb hby at_38) k) ?_
      show Goes _ _ _ _ _ _ _ (T46.setTop (mkF m 39 #[.val (.int u0), .val (.int u1), .val (.int u2), .val (.int u3), .val (.int u4), .val (.int zz), .val (.int t0), .val (.int t1), .unset, .unset, .unset, .unset, .unset] [(.int (1 : Int32)), (.int ((u0.toUInt32 >>> ((4 : Int32) &&& 31).toUInt32).toInt32))]))
      refine Goes.of (fun t k => XS.iand X46.here hx rfl (hb hby at_39) rfl k) ?_
      show Goes _ _ _ _ _ _ _ (T46.setTop (mkF m 40 #[.val (.int u0), .val (.int u1), .val (.int u2), .val (.int u3), .val (.int u4), .val (.int zz), .val (.int t0), .val (.int t1), .unset, .unset, .unset, .unset, .unset] [(.int (((u0.toUInt32 >>> ((4 : Int32) &&& 31).toUInt32).toInt32) &&& (1 : Int32)))]))
      by_cases hc178 : (((u0.toUInt32 >>> ((4 : Int32) &&& 31).toUInt32).toInt32) &&& (1 : Int32)) = (0 : Int32)
      · refine Goes.of (fun t k => XS.ifYes X46.here hx rfl (pc0 := 40) (pc' := 47) rfl (hb hby at_40) rfl ((if0 _ _).trans (teq hc178).1) (by decide) (by decide) k) ?_
        show Goes _ _ _ _ _ _ _ (T46.setTop (mkF m 47 #[.val (.int u0), .val (.int u1), .val (.int u2), .val (.int u3), .val (.int u4), .val (.int zz), .val (.int t0), .val (.int t1), .unset, .unset, .unset, .unset, .unset] []))
        refine Goes.of (fun t k => XS.iloadN X46.here hx rfl (hb hby at_47) rfl k) ?_
        show Goes _ _ _ _ _ _ _ (T46.setTop (mkF m 48 #[.val (.int u0), .val (.int u1), .val (.int u2), .val (.int u3), .val (.int u4), .val (.int zz), .val (.int t0), .val (.int t1), .unset, .unset, .unset, .unset, .unset] [(.int u3)]))
        refine Goes.of (fun t k => XS.istore X46.here hx rfl (hb hby at_48) rfl (l' := #[.val (.int u0), .val (.int u1), .val (.int u2), .val (.int u3), .val (.int u4), .val (.int zz), .val (.int t0), .val (.int t1), .val (.int u3), .unset, .unset, .unset, .unset]) rfl k) ?_
        show Goes _ _ _ _ _ _ _ (T46.setTop (mkF m 50 #[.val (.int u0), .val (.int u1), .val (.int u2), .val (.int u3), .val (.int u4), .val (.int zz), .val (.int t0), .val (.int t1), .val (.int u3), .unset, .unset, .unset, .unset] []))
        exact j47 _ _ u3 X46 e46 N46 
      · refine Goes.of (fun t k => XS.ifNo X46.here hx rfl (hb hby at_40) rfl ((if0 _ _).trans (feq hc178).1) k) ?_
        show Goes _ _ _ _ _ _ _ (T46.setTop (mkF m 43 #[.val (.int u0), .val (.int u1), .val (.int u2), .val (.int u3), .val (.int u4), .val (.int zz), .val (.int t0), .val (.int t1), .unset, .unset, .unset, .unset, .unset] []))
        refine Goes.of (fun t k => XS.iconst X46.here hx rfl (hb hby at_43) k) ?_
        show Goes _ _ _ _ _ _ _ (T46.setTop (mkF m 44 #[.val (.int u0), .val (.int u1), .val (.int u2), .val (.int u3), .val (.int u4), .val (.int zz), .val (.int t0), .val (.int t1), .unset, .unset, .unset, .unset, .unset] [(.int (-1 : Int32))]))
        refine Goes.of (fun t k => XS.goto X46.here hx rfl (pc0 := 44) (pc' := 48) rfl (hb hby at_44) (by decide) (by decide) k) ?_
        show Goes _ _ _ _ _ _ _ (T46.setTop (mkF m 48 #[.val (.int u0), .val (.int u1), .val (.int u2), .val (.int u3), .val (.int u4), .val (.int zz), .val (.int t0), .val (.int t1), .unset, .unset, .unset, .unset, .unset] [(.int (-1 : Int32))]))
        refine Goes.of (fun t k => XS.istore X46.here hx rfl (hb hby at_48) rfl (l' := #[.val (.int u0), .val (.int u1), .val (.int u2), .val (.int u3), .val (.int u4), .val (.int zz), .val (.int t0), .val (.int t1), .val (.int (-1 : Int32)), .unset, .unset, .unset, .unset]) rfl k) ?_
        show Goes _ _ _ _ _ _ _ (T46.setTop (mkF m 50 #[.val (.int u0), .val (.int u1), .val (.int u2), .val (.int u3), .val (.int u4), .val (.int zz), .val (.int t0), .val (.int t1), .val (.int (-1 : Int32)), .unset, .unset, .unset, .unset] []))
        exact j47 _ _ (-1 : Int32) X46 e46 N46 
    refine Goes.of (fun t k => XS.iloadN X45.here hx rfl (hb hby at_20) rfl k) ?_
    show Goes _ _ _ _ _ _ _ (T45.setTop (mkF m 21 #[.val (.int u0), .val (.int u1), .val (.int u2), .val (.int u3), .val (.int u4), .val (.int zz), .val (.int t0), .unset, .unset, .unset, .unset, .unset, .unset] [(.int u0)]))
    refine Goes.of (fun t k => XS.iconst X45.here hx rfl (hb hby at_21) k) ?_
    show Goes _ _ _ _ _ _ _ (T45.setTop (mkF m 22 #[.val (.int u0), .val (.int u1), .val (.int u2), .val (.int u3), .val (.int u4), .val (.int zz), .val (.int t0), .unset, .unset, .unset, .unset, .unset, .unset] [(.int (3 : Int32)), (.int u0)]))
    refine Goes.of (fun t k => XS.iushr X45.here hx rfl (hb hby at_22) rfl k) ?_
    show Goes _ _ _ _ _ _ _ (T45.setTop (mkF m 23 #[.val (.int u0), .val (.int u1), .val (.int u2), .val (.int u3), .val (.int u4), .val (.int zz), .val (.int t0), .unset, .unset, .unset, .unset, .unset, .unset] [(.int ((u0.toUInt32 >>> ((3 : Int32) &&& 31).toUInt32).toInt32))]))
    refine Goes.of (fun t k => XS.iconst X45.here hx rfl (hb hby at_23) k) ?_
    show Goes _ _ _ _ _ _ _ (T45.setTop (mkF m 24 #[.val (.int u0), .val (.int u1), .val (.int u2), .val (.int u3), .val (.int u4), .val (.int zz), .val (.int t0), .unset, .unset, .unset, .unset, .unset, .unset] [(.int (1 : Int32)), (.int ((u0.toUInt32 >>> ((3 : Int32) &&& 31).toUInt32).toInt32))]))
    refine Goes.of (fun t k => XS.iand X45.here hx rfl (hb hby at_24) rfl k) ?_
    show Goes _ _ _ _ _ _ _ (T45.setTop (mkF m 25 #[.val (.int u0), .val (.int u1), .val (.int u2), .val (.int u3), .val (.int u4), .val (.int zz), .val (.int t0), .unset, .unset, .unset, .unset, .unset, .unset] [(.int (((u0.toUInt32 >>> ((3 : Int32) &&& 31).toUInt32).toInt32) &&& (1 : Int32)))]))
    by_cases hc179 : (((u0.toUInt32 >>> ((3 : Int32) &&& 31).toUInt32).toInt32) &&& (1 : Int32)) = (0 : Int32)
    · refine Goes.of (fun t k => XS.ifYes X45.here hx rfl (pc0 := 25) (pc' := 32) rfl (hb hby at_25) rfl ((if0 _ _).trans (teq hc179).1) (by decide) (by decide) k) ?_
      show Goes _ _ _ _ _ _ _ (T45.setTop (mkF m 32 #[.val (.int u0), .val (.int u1), .val (.int u2), .val (.int u3), .val (.int u4), .val (.int zz), .val (.int t0), .unset, .unset, .unset, .unset, .unset, .unset] []))
      refine Goes.of (fun t k => XS.iloadN X45.here hx rfl (hb hby at_32) rfl k) ?_
      show Goes _ _ _ _ _ _ _ (T45.setTop (mkF m 33 #[.val (.int u0), .val (.int u1), .val (.int u2), .val (.int u3), .val (.int u4), .val (.int zz), .val (.int t0), .unset, .unset, .unset, .unset, .unset, .unset] [(.int u2)]))
      refine Goes.of (fun t k => XS.istore X45.here hx rfl (hb hby at_33) rfl (l' := #[.val (.int u0), .val (.int u1), .val (.int u2), .val (.int u3), .val (.int u4), .val (.int zz), .val (.int t0), .val (.int u2), .unset, .unset, .unset, .unset, .unset]) rfl k) ?_
      show Goes _ _ _ _ _ _ _ (T45.setTop (mkF m 35 #[.val (.int u0), .val (.int u1), .val (.int u2), .val (.int u3), .val (.int u4), .val (.int zz), .val (.int t0), .val (.int u2), .unset, .unset, .unset, .unset, .unset] []))
      exact j46 _ _ u2 X45 e45 N45 
    · refine Goes.of (fun t k => XS.ifNo X45.here hx rfl (hb hby at_25) rfl ((if0 _ _).trans (feq hc179).1) k) ?_
      show Goes _ _ _ _ _ _ _ (T45.setTop (mkF m 28 #[.val (.int u0), .val (.int u1), .val (.int u2), .val (.int u3), .val (.int u4), .val (.int zz), .val (.int t0), .unset, .unset, .unset, .unset, .unset, .unset] []))
      refine Goes.of (fun t k => XS.iconst X45.here hx rfl (hb hby at_28) k) ?_
      show Goes _ _ _ _ _ _ _ (T45.setTop (mkF m 29 #[.val (.int u0), .val (.int u1), .val (.int u2), .val (.int u3), .val (.int u4), .val (.int zz), .val (.int t0), .unset, .unset, .unset, .unset, .unset, .unset] [(.int (-1 : Int32))]))
      refine Goes.of (fun t k => XS.goto X45.here hx rfl (pc0 := 29) (pc' := 33) rfl (hb hby at_29) (by decide) (by decide) k) ?_
      show Goes _ _ _ _ _ _ _ (T45.setTop (mkF m 33 #[.val (.int u0), .val (.int u1), .val (.int u2), .val (.int u3), .val (.int u4), .val (.int zz), .val (.int t0), .unset, .unset, .unset, .unset, .unset, .unset] [(.int (-1 : Int32))]))
      refine Goes.of (fun t k => XS.istore X45.here hx rfl (hb hby at_33) rfl (l' := #[.val (.int u0), .val (.int u1), .val (.int u2), .val (.int u3), .val (.int u4), .val (.int zz), .val (.int t0), .val (.int (-1 : Int32)), .unset, .unset, .unset, .unset, .unset]) rfl k) ?_
      show Goes _ _ _ _ _ _ _ (T45.setTop (mkF m 35 #[.val (.int u0), .val (.int u1), .val (.int u2), .val (.int u3), .val (.int u4), .val (.int zz), .val (.int t0), .val (.int (-1 : Int32)), .unset, .unset, .unset, .unset, .unset] []))
      exact j46 _ _ (-1 : Int32) X45 e45 N45 
  refine Goes.of (fun t k => XS.iloadN X0.here hx rfl (hb hby at_5) rfl k) ?_
  show Goes _ _ _ _ _ _ _ (s₁.setTop (mkF m 6 #[.val (.int u0), .val (.int u1), .val (.int u2), .val (.int u3), .val (.int u4), .val (.int zz), .unset, .unset, .unset, .unset, .unset, .unset, .unset] [(.int u0)]))
  refine Goes.of (fun t k => XS.iconst X0.here hx rfl (hb hby at_6) k) ?_
  show Goes _ _ _ _ _ _ _ (s₁.setTop (mkF m 7 #[.val (.int u0), .val (.int u1), .val (.int u2), .val (.int u3), .val (.int u4), .val (.int zz), .unset, .unset, .unset, .unset, .unset, .unset, .unset] [(.int (2 : Int32)), (.int u0)]))
  refine Goes.of (fun t k => XS.iushr X0.here hx rfl (hb hby at_7) rfl k) ?_
  show Goes _ _ _ _ _ _ _ (s₁.setTop (mkF m 8 #[.val (.int u0), .val (.int u1), .val (.int u2), .val (.int u3), .val (.int u4), .val (.int zz), .unset, .unset, .unset, .unset, .unset, .unset, .unset] [(.int ((u0.toUInt32 >>> ((2 : Int32) &&& 31).toUInt32).toInt32))]))
  refine Goes.of (fun t k => XS.iconst X0.here hx rfl (hb hby at_8) k) ?_
  show Goes _ _ _ _ _ _ _ (s₁.setTop (mkF m 9 #[.val (.int u0), .val (.int u1), .val (.int u2), .val (.int u3), .val (.int u4), .val (.int zz), .unset, .unset, .unset, .unset, .unset, .unset, .unset] [(.int (1 : Int32)), (.int ((u0.toUInt32 >>> ((2 : Int32) &&& 31).toUInt32).toInt32))]))
  refine Goes.of (fun t k => XS.iand X0.here hx rfl (hb hby at_9) rfl k) ?_
  show Goes _ _ _ _ _ _ _ (s₁.setTop (mkF m 10 #[.val (.int u0), .val (.int u1), .val (.int u2), .val (.int u3), .val (.int u4), .val (.int zz), .unset, .unset, .unset, .unset, .unset, .unset, .unset] [(.int (((u0.toUInt32 >>> ((2 : Int32) &&& 31).toUInt32).toInt32) &&& (1 : Int32)))]))
  by_cases hc180 : (((u0.toUInt32 >>> ((2 : Int32) &&& 31).toUInt32).toInt32) &&& (1 : Int32)) = (0 : Int32)
  · refine Goes.of (fun t k => XS.ifYes X0.here hx rfl (pc0 := 10) (pc' := 17) rfl (hb hby at_10) rfl ((if0 _ _).trans (teq hc180).1) (by decide) (by decide) k) ?_
    show Goes _ _ _ _ _ _ _ (s₁.setTop (mkF m 17 #[.val (.int u0), .val (.int u1), .val (.int u2), .val (.int u3), .val (.int u4), .val (.int zz), .unset, .unset, .unset, .unset, .unset, .unset, .unset] []))
    refine Goes.of (fun t k => XS.iloadN X0.here hx rfl (hb hby at_17) rfl k) ?_
    show Goes _ _ _ _ _ _ _ (s₁.setTop (mkF m 18 #[.val (.int u0), .val (.int u1), .val (.int u2), .val (.int u3), .val (.int u4), .val (.int zz), .unset, .unset, .unset, .unset, .unset, .unset, .unset] [(.int u1)]))
    refine Goes.of (fun t k => XS.istore X0.here hx rfl (hb hby at_18) rfl (l' := #[.val (.int u0), .val (.int u1), .val (.int u2), .val (.int u3), .val (.int u4), .val (.int zz), .val (.int u1), .unset, .unset, .unset, .unset, .unset, .unset]) rfl k) ?_
    show Goes _ _ _ _ _ _ _ (s₁.setTop (mkF m 20 #[.val (.int u0), .val (.int u1), .val (.int u2), .val (.int u3), .val (.int u4), .val (.int zz), .val (.int u1), .unset, .unset, .unset, .unset, .unset, .unset] []))
    exact j45 _ _ u1 X0 e0 N0 
  · refine Goes.of (fun t k => XS.ifNo X0.here hx rfl (hb hby at_10) rfl ((if0 _ _).trans (feq hc180).1) k) ?_
    show Goes _ _ _ _ _ _ _ (s₁.setTop (mkF m 13 #[.val (.int u0), .val (.int u1), .val (.int u2), .val (.int u3), .val (.int u4), .val (.int zz), .unset, .unset, .unset, .unset, .unset, .unset, .unset] []))
    refine Goes.of (fun t k => XS.iconst X0.here hx rfl (hb hby at_13) k) ?_
    show Goes _ _ _ _ _ _ _ (s₁.setTop (mkF m 14 #[.val (.int u0), .val (.int u1), .val (.int u2), .val (.int u3), .val (.int u4), .val (.int zz), .unset, .unset, .unset, .unset, .unset, .unset, .unset] [(.int (-1 : Int32))]))
    refine Goes.of (fun t k => XS.goto X0.here hx rfl (pc0 := 14) (pc' := 18) rfl (hb hby at_14) (by decide) (by decide) k) ?_
    show Goes _ _ _ _ _ _ _ (s₁.setTop (mkF m 18 #[.val (.int u0), .val (.int u1), .val (.int u2), .val (.int u3), .val (.int u4), .val (.int zz), .unset, .unset, .unset, .unset, .unset, .unset, .unset] [(.int (-1 : Int32))]))
    refine Goes.of (fun t k => XS.istore X0.here hx rfl (hb hby at_18) rfl (l' := #[.val (.int u0), .val (.int u1), .val (.int u2), .val (.int u3), .val (.int u4), .val (.int zz), .val (.int (-1 : Int32)), .unset, .unset, .unset, .unset, .unset, .unset]) rfl k) ?_
    show Goes _ _ _ _ _ _ _ (s₁.setTop (mkF m 20 #[.val (.int u0), .val (.int u1), .val (.int u2), .val (.int u3), .val (.int u4), .val (.int zz), .val (.int (-1 : Int32)), .unset, .unset, .unset, .unset, .unset, .unset] []))
    exact j45 _ _ (-1 : Int32) X0 e0 N0 
set_option maxRecDepth 65536 in
set_option maxHeartbeats 40000000 in
theorem comes_1 {Post : Tables → Env → Array Value → State → Outcome → State → Prop} (hpost : ∀ tb e args s v u, (limb_1_1.after args s (.returned v) u = true ∧ limb_1_2.after args s (.returned v) u = true ∧ True) → FrameEnd s (.returned v) u (Jvm.fieldLocs frame_1_writes args s ++ Jvm.arrayLocs frame_1_arrays args s ++ Jvm.staticLocs frame_1_statics s) 24 128 → Post tb e args s (.returned v) u) :
    ArmFor flags0 classFile x code maxLocals ret World_1 tables_1 room_1 Calls_1 rest_1 Pre_1 Post := by
  intro l hfl _ _ p e ha hc hk s m args below hf hA hF happ hP
  obtain ⟨hcalls, hrest, hpre⟩ := hP
  obtain ⟨-, -, -, hnamed, -, -, -, hat⟩ := (Spec.applies_iff hf).mp happ
  obtain ⟨hg, hn⟩ := and_e (Cond.before_iff.mp (show (Jvm.Cond.and given_1 narrow_1).before args s = true from hpre))
  obtain ⟨g181, g182⟩ := and_e hg
  obtain ⟨g183, g184⟩ := and_e g182
  obtain ⟨g185, g186⟩ := and_e g184
  obtain ⟨g187, g188⟩ := and_e g186
  obtain ⟨g189, g190⟩ := and_e g188
  obtain ⟨w0, w1, w2, w3, w4, rfl⟩ : ∃ w0 w1 w2 w3 w4 : Value, args = #[w0, w1, w2, w3, w4] := by
    have hs : args.size = 5 := by simpa [Cond.value, given_1] using g181
    obtain ⟨L⟩ := args
    match L, hs with
    | [w0, w1, w2, w3, w4], _ => exact ⟨w0, w1, w2, w3, w4, rfl⟩
  have hw := fun d (hd : d ∈ tables_1) => atoms_spec (ws := Jvm.Cond.code x code maxLocals ret :: tables_1) hat d (List.mem_cons_of_mem _ hd)
  obtain ⟨i0, ei0⟩ := is_v g183
  obtain rfl : w0 = (.int i0) := Option.some.inj ei0
  obtain ⟨i1, ei1⟩ := is_v g185
  obtain rfl : w1 = (.int i1) := Option.some.inj ei1
  obtain ⟨i2, ei2⟩ := is_v g187
  obtain rfl : w2 = (.int i2) := Option.some.inj ei2
  obtain ⟨i3, ei3⟩ := is_v g189
  obtain rfl : w3 = (.int i3) := Option.some.inj ei3
  obtain ⟨i4, ei4⟩ := is_v g190
  obtain rfl : w4 = (.int i4) := Option.some.inj ei4
  obtain ⟨n, o, h1, h2, h3, _, L, rfl, ⟨rfl, N⟩, hq⟩ := rm0 l s _ hw tables_1 i0 i1 i2 i3 i4 s.heap s.heap.size (Nat.le_refl _) p e ha hc hk s m _ below hf ((Spec.applies_iff_loose hf).mp happ).1 ⟨rfl, State.Warmed39.refl s, rfl⟩ trivial
  exact ⟨n, _, h1, h2, h3, hpost _ _ _ _ _ _ ⟨Cond.after_iff.mpr rfl, Cond.after_iff.mpr (eq_i res_at (Term.int_eval (1)) rfl), trivial⟩ ⟨hq.1, hq.2.1, (hq.2.2.sift fun y hy => Or.inr (N y hy)).mono (by decide) (by decide)⟩⟩
theorem main_1_1 : Claimed_1_1 := comes_1 fun _ _ _ _ _ _ h hF => ⟨h.1, hF⟩
theorem main_1_2 : Claimed_1_2 := comes_1 fun _ _ _ _ _ _ h hF => ⟨h.2.1, hF⟩
end Jvm.Pilot.@@N@@
namespace Jvm.Pilot.@@N@@
open Jvm Jvm.ClassFile Sem Op Lib Jvm.Free Jvm.Stand Jvm.Pilot.@@N@@.Jvm.D
/-! MADE BY PROGRAM (witnessworld.py) out of the Statement's table words and the real class files: 9 classes; the members and pool entries that the words name. The judged class is class 1, her method 1. -/
namespace start1
open Jvm.ClassFile
def u (s : String) : CpInfo := .utf8 (stringToUtf16 s)
/-- a pool by its gaps: so many unusable entries, then the entry; so many at the end -/
def gap : Nat → List CpInfo → List CpInfo
  | 0, r => r
  | n + 1, r => .unusable :: gap n r
def poolList (es : List (Nat × CpInfo)) (last : Nat) : List CpInfo := es.foldr (fun e r => gap e.1 (e.2 :: r)) (gap last [])
def pool (es : List (Nat × CpInfo)) (last : Nat) : Array CpInfo := ⟨poolList es last⟩
def fileOf (pool : Array CpInfo) (this : Nat) (attrs : Array Attribute := #[]) (ms : Array MethodInfo := #[]) (fl : Nat := 33) (sup : Nat := 0) (ifs : Array Nat := #[]) (fds : Array FieldInfo := #[]) : ClassFile where
  minorVersion := 0
  majorVersion := 65
  constantPool := pool
  accessFlags := fl
  thisClass := this
  superClass := sup
  interfaces := ifs
  fields := fds
  methods := ms
  attributes := attrs
def plain (name : String) (sup : Option ClassId) : Class where
  name := name
  kind := .ordinary
  loader := none
  accessFlags := 33
  super := sup
  interfaces := #[]
  cf := none
  fields := #[]
  methods := #[]
  instanceTypes := #[]
  staticTypes := #[]
  resolved := #[]
  callSites := []
  init := .initialized
  statics := none
  mirror := none

def pool0 : Array CpInfo := pool [(5, u "<init>"), (0, u "()V"), (1, .class_ 10), (1, u "java/lang/Object"), (85, u "clone"), (0, u "()Ljava/lang/Object;")] 26

def k0c0 : Code := { maxStack := 0, maxLocals := 1, code := object_method_1_code, exceptionTable := #[], attributes := #[] }
def k0m0 : Method := { name := "<init>", desc := "()V", sig := { parameters := [], returnType := none }, accessFlags := 1, code := some k0c0 }
def k0m1 : Method := { name := "clone", desc := "()Ljava/lang/Object;", sig := { parameters := [], returnType := some (.object "java/lang/Object") }, accessFlags := 260, code := none }
/-- java/lang/Object -/
def k0 : Class := { plain "java/lang/Object" none with
  accessFlags := 33
  interfaces := #[]
  cf := some (fileOf pool0 8 #[] #[{ accessFlags := 1, nameIndex := 5, descriptorIndex := 6, attributes := #[] }, { accessFlags := 260, nameIndex := 96, descriptorIndex := 97, attributes := #[] }] 33 0 #[] #[])
  fields := #[]
  methods := #[k0m0, k0m1]
  instanceTypes := #[]
  staticTypes := #[]
  resolved := Array.replicate 124 none
  statics := none }

def pool1 : Array CpInfo := pool [(2, .class_ 4), (1, u "java/lang/Object"), (0, u "<init>"), (0, u "()V"), (0, .class_ 8), (0, u "com/example/slotwright/slotwright/problems/postenrolment/Timetable"), (0, .methodref 10 11), (0, .class_ 12), (0, .nameAndType 13 14), (0, u "com/example/slotwright/slotwright/problems/postenrolment/TimetableIsCompletePinLaw"), (0, u "room"), (0, u "(II)I"), (0, .methodref 7 16), (0, .nameAndType 5 17), (0, u "([I[I)V"), (0, .methodref 7 19), (0, .nameAndType 20 21), (0, u "isComplete"), (0, u "()Z"), (0, .integer 2147483647), (2, u "law"), (0, u "(IIIII)Z")] 5

def k1m0 : Method := { name := "<init>", desc := "()V", sig := { parameters := [], returnType := none }, accessFlags := 1, code := none }
def k1c1 : Code := { maxStack := 4, maxLocals := 13, code := code, exceptionTable := #[], attributes := #[] }
def k1m1 : Method := { name := "law", desc := "(IIIII)Z", sig := { parameters := [.int, .int, .int, .int, .int], returnType := some .boolean }, accessFlags := 9, code := some k1c1 }
def k1c2 : Code := { maxStack := 2, maxLocals := 2, code := method_3_code, exceptionTable := #[], attributes := #[] }
def k1m2 : Method := { name := "room", desc := "(II)I", sig := { parameters := [.int, .int], returnType := some .int }, accessFlags := 10, code := some k1c2 }
/-- com/example/slotwright/slotwright/problems/postenrolment/TimetableIsCompletePinLaw -/
def k1 : Class := { plain "com/example/slotwright/slotwright/problems/postenrolment/TimetableIsCompletePinLaw" (some 0) with
  accessFlags := 49
  interfaces := #[]
  cf := some (fileOf pool1 10 #[] #[{ accessFlags := 1, nameIndex := 5, descriptorIndex := 6, attributes := #[] }, { accessFlags := 9, nameIndex := 25, descriptorIndex := 26, attributes := #[] }, { accessFlags := 10, nameIndex := 13, descriptorIndex := 14, attributes := #[] }] 49 2 #[] #[])
  fields := #[]
  methods := #[k1m0, k1m1, k1m2]
  instanceTypes := #[]
  staticTypes := #[]
  resolved := Array.replicate 32 none
  statics := none }

def pool2 : Array CpInfo := pool [(1, .methodref 2 3), (0, .class_ 4), (0, .nameAndType 5 6), (0, u "java/lang/Object"), (0, u "<init>"), (0, u "()V"), (9, .methodref 17 18), (0, .class_ 19), (0, .nameAndType 20 21), (0, u "[I"), (0, u "clone"), (0, u "()Ljava/lang/Object;"), (0, .fieldref 23 24), (0, .class_ 25), (0, .nameAndType 26 19), (0, u "com/example/slotwright/slotwright/problems/postenrolment/Timetable"), (0, u "timeslots"), (0, .fieldref 23 28), (0, .nameAndType 29 19), (0, u "rooms"), (0, u "UNPLACED"), (0, u "I"), (2, u "([I[I)V"), (7, u "isComplete"), (0, u "()Z")] 20

def k2c0 : Code := { maxStack := 4, maxLocals := 3, code := prog_40_method_1_code, exceptionTable := #[], attributes := #[] }
def k2m0 : Method := { name := "<init>", desc := "([I[I)V", sig := { parameters := [(.array .int), (.array .int)], returnType := none }, accessFlags := 0, code := some k2c0 }
def k2c1 : Code := { maxStack := 2, maxLocals := 5, code := prog_40_method_4_code, exceptionTable := #[], attributes := #[] }
def k2m1 : Method := { name := "isComplete", desc := "()Z", sig := { parameters := [], returnType := some .boolean }, accessFlags := 1, code := some k2c1 }
/-- com/example/slotwright/slotwright/problems/postenrolment/Timetable -/
def k2 : Class := { plain "com/example/slotwright/slotwright/problems/postenrolment/Timetable" (some 0) with
  accessFlags := 49
  interfaces := #[]
  cf := some (fileOf pool2 23 #[] #[{ accessFlags := 0, nameIndex := 5, descriptorIndex := 34, attributes := #[] }, { accessFlags := 1, nameIndex := 42, descriptorIndex := 43, attributes := #[] }] 49 2 #[] #[{ accessFlags := 25, nameIndex := 30, descriptorIndex := 31, attributes := #[] }, { accessFlags := 18, nameIndex := 26, descriptorIndex := 19, attributes := #[] }, { accessFlags := 18, nameIndex := 29, descriptorIndex := 19, attributes := #[] }])
  fields := #[{ name := "UNPLACED", type := .int, accessFlags := 25, slot := 0, constantValue := 0 }, { name := "timeslots", type := (.array .int), accessFlags := 18, slot := 0, constantValue := 0 }, { name := "rooms", type := (.array .int), accessFlags := 18, slot := 1, constantValue := 0 }]
  methods := #[k2m0, k2m1]
  instanceTypes := #[(.array .int), (.array .int)]
  staticTypes := #[.int]
  resolved := Array.replicate 64 none
  statics := none }

def pool3 : Array CpInfo := pool [(1, .class_ 2), (0, u "java/lang/Cloneable"), (0, .class_ 4), (0, u "java/lang/Object")] 2

/-- java/lang/Cloneable -/
def k3 : Class := { plain "java/lang/Cloneable" (some 0) with
  accessFlags := 1537
  interfaces := #[]
  cf := some (fileOf pool3 1 #[] #[] 1537 3 #[] #[])
  fields := #[]
  methods := #[]
  instanceTypes := #[]
  staticTypes := #[]
  resolved := Array.replicate 7 none
  statics := none }

def pool4 : Array CpInfo := pool [(1, u "java/io/Serializable"), (0, .class_ 1), (0, u "java/lang/Object"), (0, .class_ 3)] 3

/-- java/io/Serializable -/
def k4 : Class := { plain "java/io/Serializable" (some 0) with
  accessFlags := 1537
  interfaces := #[]
  cf := some (fileOf pool4 2 #[] #[] 1537 4 #[] #[])
  fields := #[]
  methods := #[]
  instanceTypes := #[]
  staticTypes := #[]
  resolved := Array.replicate 8 none
  statics := none }

/-- the primitive byte -/
def k5 : Class := { plain "byte" none with kind := .primitive 'B', accessFlags := 0x411 }
/-- [B -/
def k6 : Class := { plain "[B" (some 0) with kind := .array 5 .byte, interfaces := #[3, 4], accessFlags := 1041 }

/-- the primitive int -/
def k7 : Class := { plain "int" none with kind := .primitive 'I', accessFlags := 0x411 }
/-- [I -/
def k8 : Class := { plain "[I" (some 0) with kind := .array 7 .int, interfaces := #[3, 4], accessFlags := 1041 }

def heap : Heap := #[]
def classes : Array Class := #[k0, k1, k2, k3, k4, k5, k6, k7, k8]
def interned : List (Array UInt16 × Addr) := []
def slotsUsed : Nat := 0
def theMethod : MethodId := ⟨1, 1⟩
def args0 : Array Value := #[.int 5, .int 7, .int 3, .int 4, .int 6]
def aboutOver (below : List Frame) : State where
  vm := { classes := classes, interned := interned.toArray }
  heap := heap
  slotsUsed := slotsUsed
  threads := #[{ frames := .invoking theMethod args0 :: below }]
def below0 : List Frame := [.native { method := ⟨0, 0⟩, args := #[] }]
def about1 : State := aboutOver below0
def p0 : Program := .bare "" "" ""
def e0 : Env := launch0.env 0 0 0
theorem w_frames : about1.frames = Frame.invoking theMethod args0 :: below0 := rfl
set_option maxRecDepth 65536 in
theorem w_args : argsFit about1.vm theMethod args0 = true := by decide +kernel
set_option maxRecDepth 65536 in
theorem w_heap : heapFits about1 = true := by decide +kernel
set_option maxRecDepth 65536 in
theorem w_runnable : about1.curStatus? = some .runnable := by decide +kernel
set_option maxRecDepth 65536 in
theorem w_alone : about1.alone = true := by decide +kernel
set_option maxRecDepth 65536 in
theorem w_named : about1.methodNamed? x = some theMethod := by decide +kernel
set_option maxRecDepth 65536 in
theorem w_hears : about1.hears theMethod below0 = true := by decide +kernel
set_option maxRecDepth 65536 in
theorem w_ripe : about1.ripe theMethod args0 below0 = true := by decide +kernel
theorem w_running : about1.status = .running := rfl
set_option maxRecDepth 65536 in
theorem w_room : about1.hasRoom e0.platform room_1 = true :=
  launch0.hasRoom_least _ room_1 (by decide +kernel) (by decide +kernel) (by decide +kernel) (by decide +kernel) (by decide +kernel) (by decide +kernel)
theorem allAtoms_all (ts : List Jvm.Cond) (a : Array Jvm.Value) (st : Jvm.State) : (allAtoms ts).before a st = ts.all (fun c => c.before a st) := by
  induction ts with
  | nil => rfl
  | cons c t ih =>
    show (Jvm.Cond.and c (allAtoms t)).before a st = _
    rw [Jvm.Cond.before_and, ih, List.all_cons]
def words1 : List Jvm.Cond := Jvm.Cond.code x code maxLocals ret :: tables_1
/-- a 'code' word, met by the world's own term for the bytes: nothing is compared byte by byte -/
theorem code_word {y : MethodName} {bytes : ByteArray} {mx : Nat} {rt : Option FieldType} {a : Array Value} {s : State} {m : MethodId} {meth : Method} {c : Code} (h1 : s.methodNamed? y = some m) (h2 : s.vm.method? m = some meth) (h3 : meth.code = some c) (h4 : c.code = bytes)
    (h5 : (c.maxLocals == mx && c.exceptionTable.isEmpty && decide (c.maxStack ≤ mostOperands) && decide (meth.sig.returnType = rt) && !meth.locks && decide (parseMethodDescriptor y.desc = some meth.sig)) = true) : (Jvm.Cond.code y bytes mx rt).before a s = true := by
  simp only [Bool.and_eq_true, beq_iff_eq, Bool.not_eq_true', decide_eq_true_eq] at h5
  obtain ⟨⟨⟨⟨⟨g1, g2⟩, g3⟩, g4⟩, g5⟩, g6⟩ := h5
  simp [Cond.before, Cond.holds, Cond.value, h1, h2, h3, h4, g1, g2, g3, g4, g5, g6]
def isCode : Jvm.Cond → Bool
  | .code _ _ _ _ => true
  | _ => false
theorem all_split {L : List Jvm.Cond} {P : Jvm.Cond → Bool} (h1 : L.all (fun c => isCode c || P c) = true) (h2 : ∀ c ∈ L.filter isCode, P c = true) : L.all P = true := by
  refine List.all_eq_true.mpr fun c hc => ?_
  have h := List.all_eq_true.mp h1 c hc
  rcases Bool.eq_false_or_eq_true (isCode c) with hi | hi
  · exact h2 c (List.mem_filter.mpr ⟨hc, hi⟩)
  · simpa [hi] using h
set_option maxRecDepth 65536 in
theorem w_c0 : (Jvm.Cond.code x code maxLocals ret).before args0 about1 = true := code_word (m := ⟨1, 1⟩) (meth := k1m1) (c := k1c1) (by decide +kernel) rfl rfl rfl (by decide +kernel)
set_option maxRecDepth 65536 in
theorem w_c1 : (Jvm.Cond.code ({ cls := "com/example/slotwright/slotwright/problems/postenrolment/Timetable", name := "<init>", desc := "([I[I)V" } : Jvm.MethodName) prog_40_method_1_code (3 : Nat) (Option.none : Option Jvm.ClassFile.FieldType)).before args0 about1 = true := code_word (m := ⟨2, 0⟩) (meth := k2m0) (c := k2c0) (by decide +kernel) rfl rfl rfl (by decide +kernel)
set_option maxRecDepth 65536 in
theorem w_c2 : (Jvm.Cond.code ({ cls := "java/lang/Object", name := "<init>", desc := "()V" } : Jvm.MethodName) object_method_1_code (1 : Nat) (Option.none : Option Jvm.ClassFile.FieldType)).before args0 about1 = true := code_word (m := ⟨0, 0⟩) (meth := k0m0) (c := k0c0) (by decide +kernel) rfl rfl rfl (by decide +kernel)
set_option maxRecDepth 65536 in
theorem w_c3 : (Jvm.Cond.code ({ cls := "com/example/slotwright/slotwright/problems/postenrolment/Timetable", name := "isComplete", desc := "()Z" } : Jvm.MethodName) prog_40_method_4_code (5 : Nat) (Option.some Jvm.ClassFile.FieldType.boolean)).before args0 about1 = true := code_word (m := ⟨2, 1⟩) (meth := k2m1) (c := k2c1) (by decide +kernel) rfl rfl rfl (by decide +kernel)
set_option maxRecDepth 65536 in
theorem w_c4 : (Jvm.Cond.code ({ cls := "com/example/slotwright/slotwright/problems/postenrolment/TimetableIsCompletePinLaw", name := "room", desc := "(II)I" } : Jvm.MethodName) method_3_code (2 : Nat) (Option.some Jvm.ClassFile.FieldType.int)).before args0 about1 = true := code_word (m := ⟨1, 2⟩) (meth := k1m2) (c := k1c2) (by decide +kernel) rfl rfl rfl (by decide +kernel)
def codes1 : List Jvm.Cond := [Jvm.Cond.code x code maxLocals ret, Jvm.Cond.code ({ cls := "com/example/slotwright/slotwright/problems/postenrolment/Timetable", name := "<init>", desc := "([I[I)V" } : Jvm.MethodName) prog_40_method_1_code (3 : Nat) (Option.none : Option Jvm.ClassFile.FieldType), Jvm.Cond.code ({ cls := "java/lang/Object", name := "<init>", desc := "()V" } : Jvm.MethodName) object_method_1_code (1 : Nat) (Option.none : Option Jvm.ClassFile.FieldType), Jvm.Cond.code ({ cls := "com/example/slotwright/slotwright/problems/postenrolment/Timetable", name := "isComplete", desc := "()Z" } : Jvm.MethodName) prog_40_method_4_code (5 : Nat) (Option.some Jvm.ClassFile.FieldType.boolean), Jvm.Cond.code ({ cls := "com/example/slotwright/slotwright/problems/postenrolment/TimetableIsCompletePinLaw", name := "room", desc := "(II)I" } : Jvm.MethodName) method_3_code (2 : Nat) (Option.some Jvm.ClassFile.FieldType.int)]
set_option maxRecDepth 65536 in
theorem codes_eq : words1.filter isCode = codes1 := rfl
theorem w_codes : ∀ c ∈ words1.filter isCode, c.before args0 about1 = true := by
  rw [codes_eq]
  intro c hc
  simp only [codes1, List.mem_cons, List.not_mem_nil, or_false] at hc
  rcases hc with rfl | rfl | rfl | rfl | rfl
  · exact w_c0
  · exact w_c1
  · exact w_c2
  · exact w_c3
  · exact w_c4
set_option maxRecDepth 65536 in
theorem w_t1 : (words1.take 24).all (fun c => isCode c || c.before args0 about1) = true := by decide +kernel
set_option maxRecDepth 65536 in
theorem w_t2 : (words1.drop 24).all (fun c => isCode c || c.before args0 about1) = true := by decide +kernel
theorem w_tables : (allAtoms (Jvm.Cond.code x code maxLocals ret :: tables_1)).before args0 about1 = true := by
  rw [allAtoms_all]
  show words1.all (fun c => c.before args0 about1) = true
  refine all_split ?_ w_codes
  rw [← List.take_append_drop 24 words1, List.all_append, w_t1, w_t2]
  rfl
set_option maxRecDepth 65536 in
theorem w_case : (Jvm.Cond.and given_1 narrow_1).before args0 about1 = true := by decide +kernel
theorem w_applies : (headSpec (Jvm.Cond.code x code maxLocals ret :: tables_1) room_1).applies x e0.platform about1 = true :=
  (Spec.applies_iff w_frames).mpr ⟨w_running, w_runnable, w_alone, w_named, w_hears, w_ripe, w_room, w_tables⟩
theorem atStart : AtStart classFile x code maxLocals ret World_1 tables_1 room_1 Calls_1 rest_1 Pre_1 launch0 p0 e0 about1 theMethod args0 below0 :=
  ⟨lists_1, trivial, launch0.admits_env _ _ _, launch0.least_env, fairChoices_fair.cas, fairChoices_fair.clock, w_frames, w_args, w_heap, w_applies, trivial, trivial, w_case⟩
end start1
theorem witness_1 : WitnessClaimed_1 := ⟨start1.p0, start1.e0, start1.about1, start1.theMethod, start1.args0, start1.below0, start1.atStart⟩
end Jvm.Pilot.@@N@@
