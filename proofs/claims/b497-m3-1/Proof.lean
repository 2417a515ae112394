import JvmDerived
import JvmDerived.Pilot.@@N@@Statement
import JvmDerived.Pilot.@@N@@Code
set_option linter.unusedVariables false
set_option linter.unusedSimpArgs false
namespace Jvm.RoadKit
open Sem ClassFile Op Lib Jvm.Stand Jvm.Free Jvm.LawKit
section New
variable {p : Program} {l : Launch} {e : Env} {R : Room} {s : State} {m : MethodId} {args : Array Value} {below : List Frame} {meth : Method} {c : Code} {T : State} {locs : List Loc} {cells slots : Nat}
theorem retI (X : Stand p l e R s m args below meth c T locs cells slots) (hx : p.tables.exec = Jvm.exec) {pc : Nat} {Ls : Array Slot} {z : Int32} {rest : List Value} (hret : meth.sig.returnType = some .int) (hd : decode c.code pc = .ok (.ireturn, 1)) {fs : List Frame}
    (hl : ∀ (f : JFrame) (acts : List Action), f.method = m → f.locked = none → f.entered = [] → (doReturn e (T.setTop f) acts (some (.int z))).1 = T.setFrames fs) : Steps p.tables e below (T.setTop (mkF m pc Ls (.int z :: rest))) (T.setFrames fs) := by
  have hm' : T.vm.method? m = some meth := X.method'
  have hn : narrow .int (.int z) = .int z := rfl
  show Steps p.tables e below (T.setTop { method := m, pc := pc, locals := Ls, stack := _ :: rest, locked := none }) _
  jvm_step X.here [X.here.top, hx, hd, hm', hret, hn]
  first | (intro acts; rw [hl _ acts rfl rfl rfl]) | rw [hl _ _ rfl rfl rfl]
  exact Steps.refl _
end New
end Jvm.RoadKit
namespace Jvm.Pilot.@@N@@
open Jvm Jvm.ClassFile Sem Op Lib Jvm.Free Jvm.Stand Jvm.LawKit Jvm.RoadKit Bundle Jvm.Pilot.@@N@@.Jvm.D
section OwnKit
variable {p : Program} {l : Launch} {e : Env} {R : Room} {s : State} {m : MethodId} {args : Array Value} {below : List Frame} {meth : Method} {c : Code} {T : State} {locs : List Loc} {cells slots : Nat}
/-- from S the run comes to a return of which F holds -/
def Goes (tb : Tables) (e : Env) (below : List Frame) (s : State) (F : Option Value → Heap → List Loc → Prop) (k n : Nat) (S : State) : Prop :=
  ∃ s₂ o, Steps tb e below S s₂ ∧ s₂.status = .running ∧ Ended s₂ below o ∧ ∃ v L, o = .returned v ∧ F v s₂.heap L ∧ FrameEnd s o s₂ L k n
theorem Goes.of {tb : Tables} {F : Option Value → Heap → List Loc → Prop} {k n : Nat} {S S' : State} (h : ∀ t, Steps tb e below S' t → Steps tb e below S t) (g : Goes tb e below s F k n S') : Goes tb e below s F k n S := by
  obtain ⟨s₂, o, h1, r⟩ := g
  exact ⟨s₂, o, h _ h1, r⟩
theorem Goes.mono {tb : Tables} {F G : Option Value → Heap → List Loc → Prop} {k n : Nat} {S : State} (h : ∀ v h L, F v h L → G v h L) (g : Goes tb e below s F k n S) : Goes tb e below s G k n S := by
  obtain ⟨s₂, o, h1, h2, h3, v, L, h4, h5, h6⟩ := g
  exact ⟨s₂, o, h1, h2, h3, v, L, h4, h _ _ _ h5, h6⟩
theorem Goes.fin (X : Stand p l e R s m args below meth c T locs cells slots) (hlk : meth.locks = false) {v : Option Value} {F : Option Value → Heap → List Loc → Prop} {k n : Nat} {S : State} (hv : meth.sig.returnType = none → v = none)
    (step : ∀ fs, (∀ (f : JFrame) (acts : List Action), f.method = m → f.locked = none → f.entered = [] → (doReturn e (T.setTop f) acts v).1 = T.setFrames fs) → Steps p.tables e below S (T.setFrames fs)) (hF : F v T.heap locs) (hk : cells ≤ k) (hn : slots ≤ n) : Goes p.tables e below s F k n S := by
  obtain ⟨fs, hr, hrun, hended, hW, hsame⟩ := X.leave hv hlk
  exact ⟨_, _, step fs hr, hrun, hended, v, locs, rfl, hF, ⟨_, rfl⟩, hW, hsame.mono hk hn⟩
end OwnKit
section OwnArr
variable {p : Program} {l : Launch} {e : Env} {R : Room} {s : State} {m : MethodId} {args : Array Value} {below : List Frame} {meth : Method} {c : Code} {T : State} {locs : List Loc} {cells slots : Nat} {Z : State} {h h' : Heap} {a b : Addr} {ty : FieldType} {n i : Nat} {f : Nat → Int32} {ws : List Addr} {sl : Nat} {w : Value}
/-- at a stands an array of n places; place j holds f j -/
def AI (Z : State) (h : Heap) (a : Addr) (ty : FieldType) (n : Nat) (f : Nat → Int32) : Prop :=
  ∃ c : Cell, Arr Z h a c ty ∧ c.slots.size = n ∧ n < 2147483648 ∧ ∀ j, j < n → c.slots[j]? = some (.int (f j)) ∧ fits ty (.int (f j)) = true
def upd (f : Nat → Int32) (i : Nat) (v : Int32) : Nat → Int32 := fun j => if j = i then v else f j
theorem AI.lt (F : AI Z h a ty n f) : a < h.size := by obtain ⟨c, A, -⟩ := F; exact A.lt
theorem AI.ext (F : AI Z h a ty n f) (E : Ext h h') : AI Z h' a ty n f := by obtain ⟨c, A, r⟩ := F; exact ⟨c, A.ext E, r⟩
theorem AI.other (F : AI Z h a ty n f) (W : Wr h h' b sl w) (q : a ≠ b) : AI Z h' a ty n f := by obtain ⟨c, A, r⟩ := F; exact ⟨c, A.other W q, r⟩
theorem AI.keep (F : AI Z h a ty n f) (K : Keep h h' ws) (q : a ∉ ws) : AI Z h' a ty n f := by obtain ⟨c, A, r⟩ := F; exact ⟨c, ⟨K.2.1 a c A.1 q, A.2⟩, r⟩
theorem AI.congr {f' : Nat → Int32} (F : AI Z h a ty n f) (q : ∀ j, j < n → f j = f' j) : AI Z h a ty n f' := by
  obtain ⟨c, A, S, M, H⟩ := F
  exact ⟨c, A, S, M, fun j hj => by rw [← q j hj]; exact H j hj⟩
theorem AI.fits (F : AI Z h a ty n f) {j : Nat} (hj : j < n) : Jvm.fits ty (.int (f j)) = true := by
  obtain ⟨c, A, S, M, H⟩ := F
  exact (H j hj).2
theorem AI.new {cA : ClassId} {z : Int32} (hd : defaultValue ty = .int 0) (hf : Jvm.fits ty (.int 0) = true) (A : Arr Z h a (newA cA ty z) ty) (q : ¬ z < 0) (hn : z.toNatClampNeg = n) : AI Z h a ty n (fun _ => 0) := by
  subst hn
  refine ⟨_, A, sz_new _ _ _, (back32 q).2, fun j hj => ⟨?_, hf⟩⟩
  show (Array.replicate z.toNatClampNeg (defaultValue ty))[j]? = _
  rw [hd, Array.getElem?_replicate, if_pos hj]
theorem AI.set {v : Int32} (F : AI Z h a ty n f) (W : Wr h h' a i (.int v)) (hv : Jvm.fits ty (.int v) = true) : AI Z h' a ty n (upd f i v) := by
  obtain ⟨c, A, S, M, H⟩ := F
  refine ⟨c.setSlot i (.int v), A.same W, by rw [sz_set]; exact S, M, fun j hj => ?_⟩
  show (c.slots.setIfInBounds i (.int v))[j]? = _ ∧ _
  by_cases q : j = i
  · subst q
    rw [Array.getElem?_setIfInBounds_self_of_lt (by omega)]
    have e : upd f j v j = v := if_pos rfl
    rw [e]; exact ⟨rfl, hv⟩
  · rw [Array.getElem?_setIfInBounds_ne (Ne.symm q)]
    have e : upd f i v j = f j := if_neg q
    rw [e]; exact H j hj
theorem own_nn {j : Int32} (h : 0 ≤ j.toInt) : ¬ j < 0 := by
  rw [Int32.lt_iff_toInt_lt, show (0 : Int32).toInt = 0 from rfl]; omega
theorem own_ltn {j : Int32} {n : Nat} (h0 : 0 ≤ j.toInt) (h : j.toInt < n) : j.toNatClampNeg < n := by
  simp only [Int32.toNatClampNeg]; omega
theorem own_tn {z : Int32} {n : Nat} (h : z.toInt = n) : z.toNatClampNeg = n := by
  simp only [Int32.toNatClampNeg]; omega
theorem own_inc {i : Int32} (h : i.toInt < 2147483647) : (i + (1 : Int32)).toInt = i.toInt + 1 := by
  have a := c_iadd i 1
  have r := rng32 (i + 1)
  have r2 := rng32 i
  rw [show (1 : Int32).toInt = 1 from rfl] at a
  omega
theorem own_ilt {a b : Int32} (h : a.toInt < b.toInt) : a < b := by rw [Int32.lt_iff_toInt_lt]; exact h
theorem own_nlt {a b : Int32} (h : b.toInt ≤ a.toInt) : ¬ a < b := by rw [Int32.lt_iff_toInt_lt]; omega
theorem own_ltI {a b : Int32} (h : a < b) : a.toInt < b.toInt := Int32.lt_iff_toInt_lt.mp h
theorem own_geI {a b : Int32} (h : ¬ a < b) : b.toInt ≤ a.toInt := by rw [Int32.lt_iff_toInt_lt] at h; omega
theorem own_neI {a b : Int32} (h : ¬ a = b) : a.toInt ≠ b.toInt := fun q => h (Int32.toInt_inj.mp q)
theorem own_turn {G : Nat → Int32} {n k i : Nat} {w : Int32} (hi : i + (k + 1) = n) (hw : w = G i) : ∀ j, j < n → upd (fun j => if j + (k + 1) < n then G j else 0) i w j = if j + k < n then G j else 0 := by
  intro j hj
  by_cases q : j = i
  · subst q
    rw [if_pos (by omega)]
    exact (if_pos rfl).trans hw
  · refine (if_neg q).trans ?_
    by_cases r : j + (k + 1) < n
    · show (if _ then _ else _) = _
      rw [if_pos r, if_pos (by omega)]
    · show (if _ then _ else _) = _
      rw [if_neg r, if_neg (by omega)]
theorem own_turn2 {D : Nat → Int32} {n k i : Nat} {w : Int32} (hi : i + (k + 1) = n) : ∀ j, j < n → upd (fun j => if j + (k + 1) < n then w else D j) i w j = if j + k < n then w else D j := by
  intro j hj
  by_cases q : j = i
  · subst q
    rw [if_pos (by omega)]
    exact if_pos rfl
  · refine (if_neg q).trans ?_
    by_cases r : j + (k + 1) < n
    · show (if _ then _ else _) = _
      rw [if_pos r, if_pos (by omega)]
    · show (if _ then _ else _) = _
      rw [if_neg r, if_neg (by omega)]
theorem own_in {cl : Cell} {j : Int32} (S : cl.slots.size = n) (h0 : ¬ j < 0) (hi : j.toNatClampNeg = i) (hn : i < n) : ¬ (j < 0 ∨ cl.slots.size ≤ j.toNatClampNeg) := by
  rintro (q | q)
  · exact h0 q
  · omega
theorem ldI (X : Stand p l e R s m args below meth c T locs cells slots) (hx : p.tables.exec = Jvm.exec) (hZ : Z.Warmed39 s.vm) (eT : T.heap = h) (F : AI Z h a .int n f) {j v : Int32} (h0 : ¬ j < 0) (hi : j.toNatClampNeg = i) (hn : i < n) (hv : f i = v) {g : JFrame} (hg : g.method = m) {rest : List Value} (hs : g.stack = .int j :: .ref a :: rest) (hd : decode c.code g.pc = .ok (.iaload, 1)) (t : State)
    (k : Steps p.tables e below (T.setTop { g with pc := g.pc + 1, stack := .int v :: rest }) t) : Steps p.tables e below (T.setTop g) t := by
  obtain ⟨cl, A, S, M, H⟩ := F
  exact X.iaload hx (j := j) (v := .int v) (by rw [eT]; exact A.1) (State.isArrayOf_alike hZ.alike A.2.1) A.2.2 (own_in S h0 hi hn) (by rw [hi, (H i hn).1, hv]) hg hs hd t k
theorem ldB (X : Stand p l e R s m args below meth c T locs cells slots) (hx : p.tables.exec = Jvm.exec) (hZ : Z.Warmed39 s.vm) (eT : T.heap = h) (F : AI Z h a .byte n f) {j v : Int32} (h0 : ¬ j < 0) (hi : j.toNatClampNeg = i) (hn : i < n) (hv : f i = v) {g : JFrame} (hg : g.method = m) {rest : List Value} (hs : g.stack = .int j :: .ref a :: rest) (hd : decode c.code g.pc = .ok (.baload, 1)) (t : State)
    (k : Steps p.tables e below (T.setTop { g with pc := g.pc + 1, stack := .int v :: rest }) t) : Steps p.tables e below (T.setTop g) t := by
  obtain ⟨cl, A, S, M, H⟩ := F
  exact X.baloadBytes hx (j := j) (v := .int v) (by rw [eT]; exact A.1) (State.isArrayOf_alike hZ.alike A.2.1) A.2.2 (own_in S h0 hi hn) (by rw [hi, (H i hn).1, hv]) hg hs hd t k
theorem ldZ (X : Stand p l e R s m args below meth c T locs cells slots) (hx : p.tables.exec = Jvm.exec) (hZ : Z.Warmed39 s.vm) (eT : T.heap = h) (F : AI Z h a .boolean n f) {j v : Int32} (h0 : ¬ j < 0) (hi : j.toNatClampNeg = i) (hn : i < n) (hv : f i = v) {g : JFrame} (hg : g.method = m) {rest : List Value} (hs : g.stack = .int j :: .ref a :: rest) (hd : decode c.code g.pc = .ok (.baload, 1)) (t : State)
    (k : Steps p.tables e below (T.setTop { g with pc := g.pc + 1, stack := .int v :: rest }) t) : Steps p.tables e below (T.setTop g) t := by
  obtain ⟨cl, A, S, M, H⟩ := F
  exact X.baloadBooleans hx (j := j) (v := .int v) (by rw [eT]; exact A.1) (State.isArrayOf_alike hZ.alike A.2.1) A.2.2 (own_in S h0 hi hn) (by rw [hi, (H i hn).1, hv]) hg hs hd t k
theorem putI (X : Stand p l e R s m args below meth c T locs cells slots) (hx : p.tables.exec = Jvm.exec) (hZ : Z.Warmed39 s.vm) (eT : T.heap = h) (F : AI Z h a .int n f) {j x : Int32} (h0 : ¬ j < 0) (hi : j.toNatClampNeg = i) (hn : i < n) {g : JFrame} (hg : g.method = m) {rest : List Value} (hs : g.stack = .int x :: .int j :: .ref a :: rest) (hd : decode c.code g.pc = .ok (.iastore, 1)) :
    ∃ T' h', Stand p l e R s m args below meth c T' (locs ++ [⟨a, i⟩]) cells slots ∧ T'.heap = h' ∧ Wr h h' a i (.int x) ∧ AI Z h' a .int n (upd f i x) ∧ ∀ t, Steps p.tables e below (T'.setTop { g with pc := g.pc + 1, stack := rest }) t → Steps p.tables e below (T.setTop g) t := by
  have F0 := F
  obtain ⟨cl, A, S, M, H⟩ := F
  subst hi
  obtain ⟨T', h', X', e', W, st⟩ := stI X hx hZ eT A (own_in S h0 rfl hn) hg hs hd
  exact ⟨T', h', X', e', W, F0.set W rfl, st⟩
theorem putB (X : Stand p l e R s m args below meth c T locs cells slots) (hx : p.tables.exec = Jvm.exec) (hZ : Z.Warmed39 s.vm) (eT : T.heap = h) (F : AI Z h a .byte n f) {j x : Int32} (h0 : ¬ j < 0) (hi : j.toNatClampNeg = i) (hn : i < n) {g : JFrame} (hg : g.method = m) {rest : List Value} (hs : g.stack = .int x :: .int j :: .ref a :: rest) (hd : decode c.code g.pc = .ok (.bastore, 1)) :
    ∃ T' h', Stand p l e R s m args below meth c T' (locs ++ [⟨a, i⟩]) cells slots ∧ T'.heap = h' ∧ Wr h h' a i (.int x.toInt8.toInt32) ∧ AI Z h' a .byte n (upd f i x.toInt8.toInt32) ∧ ∀ t, Steps p.tables e below (T'.setTop { g with pc := g.pc + 1, stack := rest }) t → Steps p.tables e below (T.setTop g) t := by
  have F0 := F
  obtain ⟨cl, A, S, M, H⟩ := F
  subst hi
  obtain ⟨T', h', X', e', W, st⟩ := stB X hx hZ eT A (own_in S h0 rfl hn) hg hs hd
  exact ⟨T', h', X', e', W, F0.set W (fits_nar_byte x), st⟩
theorem putZ (X : Stand p l e R s m args below meth c T locs cells slots) (hx : p.tables.exec = Jvm.exec) (hZ : Z.Warmed39 s.vm) (eT : T.heap = h) (F : AI Z h a .boolean n f) {j x : Int32} (h0 : ¬ j < 0) (hi : j.toNatClampNeg = i) (hn : i < n) {g : JFrame} (hg : g.method = m) {rest : List Value} (hs : g.stack = .int x :: .int j :: .ref a :: rest) (hd : decode c.code g.pc = .ok (.bastore, 1)) :
    ∃ T' h', Stand p l e R s m args below meth c T' (locs ++ [⟨a, i⟩]) cells slots ∧ T'.heap = h' ∧ Wr h h' a i (.int (x &&& 1)) ∧ AI Z h' a .boolean n (upd f i (x &&& 1)) ∧ ∀ t, Steps p.tables e below (T'.setTop { g with pc := g.pc + 1, stack := rest }) t → Steps p.tables e below (T.setTop g) t := by
  have F0 := F
  obtain ⟨cl, A, S, M, H⟩ := F
  subst hi
  obtain ⟨T', h', X', e', W, st⟩ := stZ X hx hZ eT A (own_in S h0 rfl hn) hg hs hd
  exact ⟨T', h', X', e', W, F0.set W (fits_nar_bool x), st⟩
theorem lenA (X : Stand p l e R s m args below meth c T locs cells slots) (hx : p.tables.exec = Jvm.exec) (hZ : Z.Warmed39 s.vm) (eT : T.heap = h) (F : AI Z h a ty n f) {z : Int32} (hz : z.toInt = n) {g : JFrame} (hg : g.method = m) {rest : List Value} (hs : g.stack = .ref a :: rest) (hd : decode c.code g.pc = .ok (.arraylength, 1)) (t : State)
    (k : Steps p.tables e below (T.setTop { g with pc := g.pc + 1, stack := .int z :: rest }) t) : Steps p.tables e below (T.setTop g) t := by
  obtain ⟨cl, A, S, M, H⟩ := F
  have e1 : cl.slots.size.toInt32 = z := by rw [S]; exact Int32.toInt_inj.mp (by rw [len_toInt M, hz])
  exact X.arraylength hx (by rw [eT]; exact A.1) (State.isArrayOf_alike hZ.alike A.2.1) hg hs hd t (by rw [e1]; exact k)
end OwnArr
theorem d3_0 : decode jdk_65_method_103_code 0 = .ok (.iconst 0, 1) := by decide +kernel
theorem d3_1 : decode jdk_65_method_103_code 1 = .ok (.istore_n 2, 1) := by decide +kernel
theorem d3_2 : decode jdk_65_method_103_code 2 = .ok (.aload_n 0, 1) := by decide +kernel
theorem d3_3 : decode jdk_65_method_103_code 3 = .ok (.arraylength, 1) := by decide +kernel
theorem d3_4 : decode jdk_65_method_103_code 4 = .ok (.istore_n 3, 1) := by decide +kernel
theorem d3_5 : decode jdk_65_method_103_code 5 = .ok (.iload_n 2, 1) := by decide +kernel
theorem d3_6 : decode jdk_65_method_103_code 6 = .ok (.iload_n 3, 1) := by decide +kernel
theorem d3_7 : decode jdk_65_method_103_code 7 = .ok (.if_icmp .ge 13, 3) := by decide +kernel
theorem d3_10 : decode jdk_65_method_103_code 10 = .ok (.aload_n 0, 1) := by decide +kernel
theorem d3_11 : decode jdk_65_method_103_code 11 = .ok (.iload_n 2, 1) := by decide +kernel
theorem d3_12 : decode jdk_65_method_103_code 12 = .ok (.iload_n 1, 1) := by decide +kernel
theorem d3_13 : decode jdk_65_method_103_code 13 = .ok (.iastore, 1) := by decide +kernel
theorem d3_14 : decode jdk_65_method_103_code 14 = .ok (.iinc 2 1, 3) := by decide +kernel
theorem d3_17 : decode jdk_65_method_103_code 17 = .ok (.goto (-12), 3) := by decide +kernel
theorem d3_20 : decode jdk_65_method_103_code 20 = .ok (.return_, 1) := by decide +kernel
theorem pn_0 : plainName "java/util/Arrays" = true := by first | (simp [plainName, overriddenIn]; done) | decide +kernel
theorem ef_3 (m : MethodId) (a : Addr) (w0 : Int32) : entryFrame m #[(.ref a), (.int w0)] 4 = mkF m 0 #[.val (.ref a), .val (.int w0), .unset, .unset] [] := by first | (simp [entryFrame, mkF, argsToLocals, Value.category]; done) | rfl
def Q3 (Z : State) (a : Addr) (w0 : Int32) (n : Nat) (h0 : Heap) (n0 : Nat) (v : Option Value) (h : Heap) (L : List Loc) : Prop := v = none ∧ Fr n0 L ∧ Keep h0 h [a] ∧ AI Z h a .int n (fun _ => w0)
set_option maxRecDepth 65536 in
set_option maxHeartbeats 40000000 in
theorem rm3 (l : Launch) (Z : State) (a0 : Array Value) (hw : ∀ d ∈ tables_1, d.before a0 Z = true) (ws : List Jvm.Cond) (a : Addr) (w0 : Int32) (n : Nat) (z : Int32) (f : Nat → Int32) (h0 : Heap) (n0 : Nat) (Z0 : n0 ≤ h0.size) (V_a : AI Z h0 a .int n f) (hz : z.toInt = n) (g_a : n0 ≤ a) :
    MetFree l (⟨"java/util/Arrays", "fill", "([II)V"⟩ : MethodName) (head1 (Jvm.Cond.code (⟨"java/util/Arrays", "fill", "([II)V"⟩ : MethodName) jdk_65_method_103_code 4 none :: ws) ({ frames := 0, cells := 0, slots := 0, locals := 0 } : Room)) (fun ar' Ur => ar' = #[(.ref a), (.int w0)] ∧ Z.Warmed39 Ur.vm ∧ Ur.heap = h0) (fun _ _ _ _ _ => True) (fun _ Ur or' Us => ∃ v L, or' = .returned v ∧ Q3 Z a w0 n h0 n0 v Us.heap L ∧ FrameEnd Ur or' Us L 0 0) := by
  refine MetFree.of_bodySF (plainFor_of_name pn_0) hisR ?_
  intro p e s m args below meth c s₁ Bd hml0 hP hK
  obtain ⟨rfl, hZ, hh⟩ := hP
  have hx := Bd.exec
  have hby := Bd.bytes
  have hlk : meth.locks = false := BodyLoose.notSynchronized Bd
  have hml : c.maxLocals = 4 := hml0
  have hown : s.vm.findClass "java/util/Arrays" = some m.cls := findClass_of_methodNamed Bd.named
  have hnm := (name_of_methodNamed Bd.named Bd.method).1
  have X0 : Stand p l e ({ frames := 0, cells := 0, slots := 0, locals := 0 } : Room) s m #[(.ref a), (.int w0)] below meth c s₁ [] 0 0 := Stand.of_body Bd
  have e0 : s₁.heap = h0 := by rw [← hh, Bd.state]; rfl
  have N0 := Fr.nil n0
  show Goes p.tables e below s (Q3 Z a w0 n h0 n0) 0 0 (s₁.setTop (entryFrame m #[(.ref a), (.int w0)] 4))
  refine Goes.of (fun t k => castTop (ef_3 m a w0) k) ?_
  show Goes _ _ _ _ _ _ _ (s₁.setTop (mkF m 0 #[.val (.ref a), .val (.int w0), .unset, .unset] []))
  refine Goes.of (fun t k => XS.iconst X0.here hx rfl (hb hby d3_0) k) ?_
  show Goes _ _ _ _ _ _ _ (s₁.setTop (mkF m 1 #[.val (.ref a), .val (.int w0), .unset, .unset] [(.int (0 : Int32))]))
  refine Goes.of (fun t k => XS.istoreN X0.here hx rfl (hb hby d3_1) rfl (l' := #[.val (.ref a), .val (.int w0), .val (.int (0 : Int32)), .unset]) rfl k) ?_
  show Goes _ _ _ _ _ _ _ (s₁.setTop (mkF m 2 #[.val (.ref a), .val (.int w0), .val (.int (0 : Int32)), .unset] []))
  refine Goes.of (fun t k => XS.aloadN X0.here hx rfl (hb hby d3_2) rfl rfl k) ?_
  show Goes _ _ _ _ _ _ _ (s₁.setTop (mkF m 3 #[.val (.ref a), .val (.int w0), .val (.int (0 : Int32)), .unset] [(.ref a)]))
  refine Goes.of (fun t k => lenA X0 hx hZ e0 V_a (z := z) hz (g := (mkF m 3 #[.val (.ref a), .val (.int w0), .val (.int (0 : Int32)), .unset] [(.ref a)])) rfl rfl (hb hby d3_3) t k) ?_
  show Goes _ _ _ _ _ _ _ (s₁.setTop (mkF m 4 #[.val (.ref a), .val (.int w0), .val (.int (0 : Int32)), .unset] [(.int z)]))
  refine Goes.of (fun t k => XS.istoreN X0.here hx rfl (hb hby d3_4) rfl (l' := #[.val (.ref a), .val (.int w0), .val (.int (0 : Int32)), .val (.int z)]) rfl k) ?_
  show Goes _ _ _ _ _ _ _ (s₁.setTop (mkF m 5 #[.val (.ref a), .val (.int w0), .val (.int (0 : Int32)), .val (.int z)] []))
  have hn31 : n < 2147483648 := by obtain ⟨_, _, _, M, _⟩ := V_a; exact M
  have loop : ∀ (k : Nat), ∀ (i : Int32) (TT : State) (hp : Heap) (lc : List Loc), Stand p l e ({ frames := 0, cells := 0, slots := 0, locals := 0 } : Room) s m #[(.ref a), (.int w0)] below meth c TT lc 0 0 → TT.heap = hp → Fr n0 lc → Keep h0 hp [a] → AI Z hp a .int n (fun j => if j + k < n then w0 else f j) → i.toInt + (k : Nat) = n → 0 ≤ i.toInt → Goes p.tables e below s (Q3 Z a w0 n h0 n0) 0 0 (TT.setTop (mkF m 5 #[.val (.ref a), .val (.int w0), .val (.int i), .val (.int z)] [])) := by
    intro k
    induction k with
    | zero =>
      intro i TT hp lc XT eT NT KT VT hi hnn
      have ZT : n0 ≤ hp.size := Nat.le_trans Z0 KT.1
      have hlt : ¬ i < z := own_nlt (by omega)
      show Goes _ _ _ _ _ _ _ (TT.setTop (mkF m 5 #[.val (.ref a), .val (.int w0), .val (.int i), .val (.int z)] []))
      refine Goes.of (fun t k => XS.iloadN XT.here hx rfl (hb hby d3_5) rfl k) ?_
      show Goes _ _ _ _ _ _ _ (TT.setTop (mkF m 6 #[.val (.ref a), .val (.int w0), .val (.int i), .val (.int z)] [(.int i)]))
      refine Goes.of (fun t k => XS.iloadN XT.here hx rfl (hb hby d3_6) rfl k) ?_
      show Goes _ _ _ _ _ _ _ (TT.setTop (mkF m 7 #[.val (.ref a), .val (.int w0), .val (.int i), .val (.int z)] [(.int z), (.int i)]))
      refine Goes.of (fun t k => XS.icmpYes XT.here hx rfl (pc0 := 7) (pc' := 20) rfl (hb hby d3_7) rfl (flt hlt).2.1 (by decide) (by decide) k) ?_
      show Goes _ _ _ _ _ _ _ (TT.setTop (mkF m 20 #[.val (.ref a), .val (.int w0), .val (.int i), .val (.int z)] []))
      exact Goes.fin XT hlk (v := none) (fun _ => rfl) (fun fs hr => XT.returnOut hx Bd.returns (hb hby d3_20) hr) (by rw [eT]; exact ⟨rfl, NT, KT, VT.congr fun j hj => if_pos hj⟩) (by decide) (by decide)
    | succ k ih =>
      intro i TT hp lc XT eT NT KT VT hi hnn
      have ZT : n0 ≤ hp.size := Nat.le_trans Z0 KT.1
      have hlt : i < z := own_ilt (by omega)
      show Goes _ _ _ _ _ _ _ (TT.setTop (mkF m 5 #[.val (.ref a), .val (.int w0), .val (.int i), .val (.int z)] []))
      refine Goes.of (fun t k => XS.iloadN XT.here hx rfl (hb hby d3_5) rfl k) ?_
      show Goes _ _ _ _ _ _ _ (TT.setTop (mkF m 6 #[.val (.ref a), .val (.int w0), .val (.int i), .val (.int z)] [(.int i)]))
      refine Goes.of (fun t k => XS.iloadN XT.here hx rfl (hb hby d3_6) rfl k) ?_
      show Goes _ _ _ _ _ _ _ (TT.setTop (mkF m 7 #[.val (.ref a), .val (.int w0), .val (.int i), .val (.int z)] [(.int z), (.int i)]))
      refine Goes.of (fun t k => XS.icmpNo XT.here hx rfl (hb hby d3_7) rfl (tlt hlt).2.1 k) ?_
      show Goes _ _ _ _ _ _ _ (TT.setTop (mkF m 10 #[.val (.ref a), .val (.int w0), .val (.int i), .val (.int z)] []))
      refine Goes.of (fun t k => XS.aloadN XT.here hx rfl (hb hby d3_10) rfl rfl k) ?_
      show Goes _ _ _ _ _ _ _ (TT.setTop (mkF m 11 #[.val (.ref a), .val (.int w0), .val (.int i), .val (.int z)] [(.ref a)]))
      refine Goes.of (fun t k => XS.iloadN XT.here hx rfl (hb hby d3_11) rfl k) ?_
      show Goes _ _ _ _ _ _ _ (TT.setTop (mkF m 12 #[.val (.ref a), .val (.int w0), .val (.int i), .val (.int z)] [(.int i), (.ref a)]))
      refine Goes.of (fun t k => XS.iloadN XT.here hx rfl (hb hby d3_12) rfl k) ?_
      show Goes _ _ _ _ _ _ _ (TT.setTop (mkF m 13 #[.val (.ref a), .val (.int w0), .val (.int i), .val (.int z)] [(.int w0), (.int i), (.ref a)]))
      obtain ⟨T1, h1, X1, e1, W1, V1, st1⟩ := putI XT hx hZ eT VT (j := i) (x := w0) (i := i.toNatClampNeg) (own_nn (by omega)) rfl (own_ltn (by omega) (by omega)) (g := (mkF m 13 #[.val (.ref a), .val (.int w0), .val (.int i), .val (.int z)] [(.int w0), (.int i), (.ref a)])) rfl rfl (hb hby d3_13)
      have Z1 : n0 ≤ h1.size := Nat.le_trans ZT (Keep.of_wr W1).1
      have K1 : Keep h0 h1 [a] := KT.wr W1 (Or.inl (List.mem_of_getElem? (i := 0) rfl))
      have N1 := Fr.snoc X1 NT g_a
      refine Goes.of st1 ?_
      show Goes _ _ _ _ _ _ _ (T1.setTop (mkF m 14 #[.val (.ref a), .val (.int w0), .val (.int i), .val (.int z)] []))
      refine Goes.of (fun t k => XS.iinc X1.here hx rfl (hb hby d3_14) rfl (l' := #[.val (.ref a), .val (.int w0), .val (.int (i + (1 : Int32))), .val (.int z)]) rfl k) ?_
      show Goes _ _ _ _ _ _ _ (T1.setTop (mkF m 17 #[.val (.ref a), .val (.int w0), .val (.int (i + (1 : Int32))), .val (.int z)] []))
      refine Goes.of (fun t k => XS.goto X1.here hx rfl (pc0 := 17) (pc' := 5) rfl (hb hby d3_17) (by decide) (by decide) k) ?_
      show Goes _ _ _ _ _ _ _ (T1.setTop (mkF m 5 #[.val (.ref a), .val (.int w0), .val (.int (i + (1 : Int32))), .val (.int z)] []))
      exact ih _ _ _ _ X1 e1 N1 K1 (V1.congr (own_turn2 (by have := nat_of (own_nn (j := i) (by omega)); omega))) (by rw [own_inc (by omega)]; omega) (by rw [own_inc (by omega)]; omega)
  exact loop n _ _ _ _ X0 e0 N0 (Keep.refl h0 [a]) (V_a.congr fun j hj => (if_neg (by omega)).symm) (by rw [show (0 : Int32).toInt = 0 from rfl]; omega) (by decide)
theorem d1_0 : decode prog_12_method_1_code 0 = .ok (.aload_n 0, 1) := by decide +kernel
theorem d1_1 : decode prog_12_method_1_code 1 = .ok (.invokespecial 1, 3) := by decide +kernel
theorem d1_4 : decode prog_12_method_1_code 4 = .ok (.aload_n 0, 1) := by decide +kernel
theorem d1_5 : decode prog_12_method_1_code 5 = .ok (.iload_n 1, 1) := by decide +kernel
theorem d1_6 : decode prog_12_method_1_code 6 = .ok (.newarray .int, 2) := by decide +kernel
theorem d1_8 : decode prog_12_method_1_code 8 = .ok (.putfield 7, 3) := by decide +kernel
theorem d1_11 : decode prog_12_method_1_code 11 = .ok (.aload_n 0, 1) := by decide +kernel
theorem d1_12 : decode prog_12_method_1_code 12 = .ok (.iload_n 1, 1) := by decide +kernel
theorem d1_13 : decode prog_12_method_1_code 13 = .ok (.newarray .int, 2) := by decide +kernel
theorem d1_15 : decode prog_12_method_1_code 15 = .ok (.putfield 13, 3) := by decide +kernel
theorem d1_18 : decode prog_12_method_1_code 18 = .ok (.aload_n 0, 1) := by decide +kernel
theorem d1_19 : decode prog_12_method_1_code 19 = .ok (.getfield 13, 3) := by decide +kernel
theorem d1_22 : decode prog_12_method_1_code 22 = .ok (.iconst (-1), 1) := by decide +kernel
theorem d1_23 : decode prog_12_method_1_code 23 = .ok (.invokestatic 16, 3) := by decide +kernel
theorem d1_26 : decode prog_12_method_1_code 26 = .ok (.return_, 1) := by decide +kernel
theorem pn_1 : plainName "com/example/slotwright/slotwright/problems/IndexSet" = true := by first | (simp [plainName, overriddenIn]; done) | decide +kernel
theorem pd_0 : parseMethodDescriptor "()V" = some ⟨[], none⟩ := by decide +kernel
theorem pd_1 : parseMethodDescriptor "([II)V" = some ⟨[(.array .int), .int], none⟩ := by decide +kernel
theorem ef_1 (m : MethodId) (o : Addr) (z : Int32) : entryFrame m #[(.ref o), (.int z)] 2 = mkF m 0 #[.val (.ref o), .val (.int z)] [] := by first | (simp [entryFrame, mkF, argsToLocals, Value.category]; done) | rfl
def Q1 (Z : State) (o : Addr) (n : Nat) (h0 : Heap) (n0 : Nat) (v : Option Value) (h : Heap) (L : List Loc) : Prop := v = none ∧ Fr n0 L ∧ ∃ mm pp : Addr, Keep h0 h [o] ∧ h0.size ≤ mm ∧ h0.size ≤ pp ∧ mm ≠ pp ∧ Exa Z h o "com/example/slotwright/slotwright/problems/IndexSet" ∧ Fld Z h o "com/example/slotwright/slotwright/problems/IndexSet" "members" "[I" (.ref mm) ∧ Fld Z h o "com/example/slotwright/slotwright/problems/IndexSet" "positions" "[I" (.ref pp) ∧ Fld Z h o "com/example/slotwright/slotwright/problems/IndexSet" "size" "I" (.int (0 : Int32)) ∧ AI Z h mm .int n (fun _ => 0) ∧ AI Z h pp .int n (fun _ => (-1 : Int32))
set_option maxRecDepth 65536 in
set_option maxHeartbeats 40000000 in
theorem rm1 (l : Launch) (Z : State) (a0 : Array Value) (hw : ∀ d ∈ tables_1, d.before a0 Z = true) (ws : List Jvm.Cond) (o : Addr) (z : Int32) (n : Nat) (h0 : Heap) (n0 : Nat) (Z0 : n0 ≤ h0.size) (E_o : Exa Z h0 o "com/example/slotwright/slotwright/problems/IndexSet") (F_members : Fld Z h0 o "com/example/slotwright/slotwright/problems/IndexSet" "members" "[I" .null) (F_positions : Fld Z h0 o "com/example/slotwright/slotwright/problems/IndexSet" "positions" "[I" .null) (F_size : Fld Z h0 o "com/example/slotwright/slotwright/problems/IndexSet" "size" "I" (.int (0 : Int32))) (g_o : n0 ≤ o) (hz : z.toInt = n) (hcap : n ≤ 9) :
    MetFree l (⟨"com/example/slotwright/slotwright/problems/IndexSet", "<init>", "(I)V"⟩ : MethodName) (head1 (Jvm.Cond.code (⟨"com/example/slotwright/slotwright/problems/IndexSet", "<init>", "(I)V"⟩ : MethodName) prog_12_method_1_code 2 none :: ws) ({ frames := 1, cells := 2, slots := 18, locals := 15 } : Room)) (fun ar' Ur => ar' = #[(.ref o), (.int z)] ∧ Z.Warmed39 Ur.vm ∧ Ur.heap = h0) (fun _ _ _ _ _ => True) (fun _ Ur or' Us => ∃ v L, or' = .returned v ∧ Q1 Z o n h0 n0 v Us.heap L ∧ FrameEnd Ur or' Us L 2 18) := by
  refine MetFree.of_bodySF (plainFor_of_name pn_1) hisR ?_
  intro p e s m args below meth c s₁ Bd hml0 hP hK
  obtain ⟨rfl, hZ, hh⟩ := hP
  have hx := Bd.exec
  have hby := Bd.bytes
  have hlk : meth.locks = false := BodyLoose.notSynchronized Bd
  have hml : c.maxLocals = 2 := hml0
  have hown : s.vm.findClass "com/example/slotwright/slotwright/problems/IndexSet" = some m.cls := findClass_of_methodNamed Bd.named
  have hnm := (name_of_methodNamed Bd.named Bd.method).1
  have X0 : Stand p l e ({ frames := 1, cells := 2, slots := 18, locals := 15 } : Room) s m #[(.ref o), (.int z)] below meth c s₁ [] 0 0 := Stand.of_body Bd
  have e0 : s₁.heap = h0 := by rw [← hh, Bd.state]; rfl
  have N0 := Fr.nil n0
  show Goes p.tables e below s (Q1 Z o n h0 n0) 2 18 (s₁.setTop (entryFrame m #[(.ref o), (.int z)] 2))
  refine Goes.of (fun t k => castTop (ef_1 m o z) k) ?_
  show Goes _ _ _ _ _ _ _ (s₁.setTop (mkF m 0 #[.val (.ref o), .val (.int z)] []))
  refine Goes.of (fun t k => XS.aloadN X0.here hx rfl (hb hby d1_0) rfl rfl k) ?_
  show Goes _ _ _ _ _ _ _ (s₁.setTop (mkF m 1 #[.val (.ref o), .val (.int z)] [(.ref o)]))
  obtain ⟨T2, X2, e2, st2⟩ := initO X0 hx hZ hown (hw _ (List.mem_of_getElem? (i := 7) rfl)) (hw _ (List.mem_of_getElem? (i := 8) rfl)) (hw _ (List.mem_of_getElem? (i := 9) rfl)) e0 (g := (mkF m 1 #[.val (.ref o), .val (.int z)] [(.ref o)])) rfl (by rw [hml]; rfl) rfl (hb hby d1_1) (by decide) (W := 0) (by show 2 * 0 + _ ≤ _; exact Nat.le_of_eq rfl) (by decide)
  refine Goes.of st2 ?_
  show Goes _ _ _ _ _ _ _ (T2.setTop (mkF m 4 #[.val (.ref o), .val (.int z)] []))
  refine Goes.of (fun t k => XS.aloadN X2.here hx rfl (hb hby d1_4) rfl rfl k) ?_
  show Goes _ _ _ _ _ _ _ (T2.setTop (mkF m 5 #[.val (.ref o), .val (.int z)] [(.ref o)]))
  refine Goes.of (fun t k => XS.iloadN X2.here hx rfl (hb hby d1_5) rfl k) ?_
  show Goes _ _ _ _ _ _ _ (T2.setTop (mkF m 6 #[.val (.ref o), .val (.int z)] [(.int z), (.ref o)]))
  obtain ⟨T3, h3, k3, X3, e3, E3, A3, Ea3, st3⟩ := newPE X2 hx hZ (hw _ (List.mem_of_getElem? (i := 10) rfl)) e2 (g := (mkF m 6 #[.val (.ref o), .val (.int z)] [(.int z), (.ref o)])) rfl (hb hby d1_6) rfl (own_nn (by omega)) (cap := 9) (by rw [own_tn hz]; exact hcap) (by decide) (by decide) (by decide) (ad := "[I") (by decide)
  obtain ⟨b3, g3⟩ : ∃ z, z = h0.size := ⟨_, rfl⟩
  rw [← g3] at A3 Ea3 st3
  have V3 : AI Z h3 b3 .int n (fun _ => 0) := AI.new rfl rfl A3 (own_nn (by omega)) (own_tn hz)
  have ne_o_b3 : o ≠ b3 := Nat.ne_of_lt (Nat.lt_of_lt_of_le E_o.lt (Nat.le_of_eq g3.symm))
  have g_b3 : n0 ≤ b3 := Nat.le_trans Z0 (Nat.le_of_eq g3.symm)
  have sz_b3 : h0.size ≤ b3 := Nat.le_trans (Keep.refl h0 [o]).1 (Nat.le_of_eq g3.symm)
  have F4 := Exa.ext E3 E_o
  have F5 := Fld.ext E3 F_members
  have F6 := Fld.ext E3 F_positions
  have F7 := Fld.ext E3 F_size
  have Z3 : n0 ≤ h3.size := Nat.le_trans Z0 E3.1
  have K3 : Keep h0 h3 [o] := (Keep.refl h0 [o]).ext E3
  refine Goes.of st3 ?_
  show Goes _ _ _ _ _ _ _ (T3.setTop (mkF m 8 #[.val (.ref o), .val (.int z)] [(.ref b3), (.ref o)]))
  obtain ⟨T8, h8, X8, e8, W8, st8⟩ := putF X3 hx hZ hown (host := "") (Or.inl (hw _ (List.mem_of_getElem? (i := 11) rfl))) Via.refl e3 F5 F4 (Or.inr ⟨(hw _ (List.mem_of_getElem? (i := 12) rfl)), rfl, hnm⟩) (hw _ (List.mem_of_getElem? (i := 2) rfl)) (ty := (.array .int)) (by decide) rfl rfl (g := (mkF m 8 #[.val (.ref o), .val (.int z)] [(.ref b3), (.ref o)])) rfl rfl (hb hby d1_8)
  have Fw8 := Fld.same W8 F5
  have F9 := Exa.wr W8 F4
  have F10 := Fld.other W8 F6 (Or.inr (slot_ne (Or.inr (hw _ (List.mem_of_getElem? (i := 14) rfl))) (Or.inr (hw _ (List.mem_of_getElem? (i := 12) rfl))) (by decide) (t := (.array .int)) (t' := (.array .int)) (by decide) (by decide)))
  have F11 := Fld.other W8 F7 (Or.inr (slot_ne (Or.inl (hw _ (List.mem_of_getElem? (i := 25) rfl))) (Or.inr (hw _ (List.mem_of_getElem? (i := 12) rfl))) (by decide) (t := .int) (t' := (.array .int)) (by decide) (by decide)))
  have F12 := V3.other W8 (Ne.symm ne_o_b3)
  have Z8 : n0 ≤ h8.size := Nat.le_trans Z3 (Keep.of_wr W8).1
  have K8 : Keep h0 h8 [o] := K3.wr W8 (Or.inl (List.mem_of_getElem? (i := 0) rfl))
  have N8 := Fr.snoc X8 N0 g_o
  refine Goes.of st8 ?_
  show Goes _ _ _ _ _ _ _ (T8.setTop (mkF m 11 #[.val (.ref o), .val (.int z)] []))
  refine Goes.of (fun t k => XS.aloadN X8.here hx rfl (hb hby d1_11) rfl rfl k) ?_
  show Goes _ _ _ _ _ _ _ (T8.setTop (mkF m 12 #[.val (.ref o), .val (.int z)] [(.ref o)]))
  refine Goes.of (fun t k => XS.iloadN X8.here hx rfl (hb hby d1_12) rfl k) ?_
  show Goes _ _ _ _ _ _ _ (T8.setTop (mkF m 13 #[.val (.ref o), .val (.int z)] [(.int z), (.ref o)]))
  obtain ⟨T13, h13, k13, X13, e13, E13, A13, Ea13, st13⟩ := newPE X8 hx hZ (hw _ (List.mem_of_getElem? (i := 10) rfl)) e8 (g := (mkF m 13 #[.val (.ref o), .val (.int z)] [(.int z), (.ref o)])) rfl (hb hby d1_13) rfl (own_nn (by omega)) (cap := 9) (by rw [own_tn hz]; exact hcap) (by decide) (by decide) (by decide) (ad := "[I") (by decide)
  obtain ⟨b13, g13⟩ : ∃ z, z = h8.size := ⟨_, rfl⟩
  rw [← g13] at A13 Ea13 st13
  have V13 : AI Z h13 b13 .int n (fun _ => 0) := AI.new rfl rfl A13 (own_nn (by omega)) (own_tn hz)
  have ne_o_b13 : o ≠ b13 := Nat.ne_of_lt (Nat.lt_of_lt_of_le F9.lt (Nat.le_of_eq g13.symm))
  have ne_b3_b13 : b3 ≠ b13 := Nat.ne_of_lt (Nat.lt_of_lt_of_le F12.lt (Nat.le_of_eq g13.symm))
  have g_b13 : n0 ≤ b13 := Nat.le_trans Z8 (Nat.le_of_eq g13.symm)
  have sz_b13 : h0.size ≤ b13 := Nat.le_trans K8.1 (Nat.le_of_eq g13.symm)
  have F14 := Exa.ext E13 F9
  have F15 := Fld.ext E13 Fw8
  have F16 := Fld.ext E13 F10
  have F17 := Fld.ext E13 F11
  have F18 := F12.ext E13
  have Z13 : n0 ≤ h13.size := Nat.le_trans Z8 E13.1
  have K13 : Keep h0 h13 [o] := K8.ext E13
  refine Goes.of st13 ?_
  show Goes _ _ _ _ _ _ _ (T13.setTop (mkF m 15 #[.val (.ref o), .val (.int z)] [(.ref b13), (.ref o)]))
  obtain ⟨T19, h19, X19, e19, W19, st19⟩ := putF X13 hx hZ hown (host := "") (Or.inl (hw _ (List.mem_of_getElem? (i := 13) rfl))) Via.refl e13 F16 F14 (Or.inr ⟨(hw _ (List.mem_of_getElem? (i := 14) rfl)), rfl, hnm⟩) (hw _ (List.mem_of_getElem? (i := 2) rfl)) (ty := (.array .int)) (by decide) rfl rfl (g := (mkF m 15 #[.val (.ref o), .val (.int z)] [(.ref b13), (.ref o)])) rfl rfl (hb hby d1_15)
  have Fw19 := Fld.same W19 F16
  have F20 := Exa.wr W19 F14
  have F21 := Fld.other W19 F15 (Or.inr (slot_ne (Or.inr (hw _ (List.mem_of_getElem? (i := 12) rfl))) (Or.inr (hw _ (List.mem_of_getElem? (i := 14) rfl))) (by decide) (t := (.array .int)) (t' := (.array .int)) (by decide) (by decide)))
  have F22 := Fld.other W19 F17 (Or.inr (slot_ne (Or.inl (hw _ (List.mem_of_getElem? (i := 25) rfl))) (Or.inr (hw _ (List.mem_of_getElem? (i := 14) rfl))) (by decide) (t := .int) (t' := (.array .int)) (by decide) (by decide)))
  have F23 := F18.other W19 (Ne.symm ne_o_b3)
  have F24 := V13.other W19 (Ne.symm ne_o_b13)
  have Z19 : n0 ≤ h19.size := Nat.le_trans Z13 (Keep.of_wr W19).1
  have K19 : Keep h0 h19 [o] := K13.wr W19 (Or.inl (List.mem_of_getElem? (i := 0) rfl))
  have N19 := Fr.snoc X19 N8 g_o
  refine Goes.of st19 ?_
  show Goes _ _ _ _ _ _ _ (T19.setTop (mkF m 18 #[.val (.ref o), .val (.int z)] []))
  refine Goes.of (fun t k => XS.aloadN X19.here hx rfl (hb hby d1_18) rfl rfl k) ?_
  show Goes _ _ _ _ _ _ _ (T19.setTop (mkF m 19 #[.val (.ref o), .val (.int z)] [(.ref o)]))
  obtain ⟨T25, X25, e25, st25⟩ := getF X19 hx hZ hown (host := "") (Or.inl (hw _ (List.mem_of_getElem? (i := 13) rfl))) Via.refl e19 Fw19 (g := (mkF m 19 #[.val (.ref o), .val (.int z)] [(.ref o)])) rfl rfl (hb hby d1_19)
  refine Goes.of st25 ?_
  show Goes _ _ _ _ _ _ _ (T25.setTop (mkF m 22 #[.val (.ref o), .val (.int z)] [(.ref b13)]))
  refine Goes.of (fun t k => XS.iconst X25.here hx rfl (hb hby d1_22) k) ?_
  show Goes _ _ _ _ _ _ _ (T25.setTop (mkF m 23 #[.val (.ref o), .val (.int z)] [(.int (-1 : Int32)), (.ref b13)]))
  obtain ⟨_, _, ⟨T26, L26, k26, n26⟩, -, X26, ⟨Lc26, hQ26, l26, y26, z26⟩, st26⟩ := Jvm.LawKit.callS X25 hx (y := (⟨"java/util/Arrays", "fill", "([II)V"⟩ : MethodName)) hown (mvT hZ (hw _ (List.mem_of_getElem? (i := 15) rfl))) (mvT hZ (hw _ (List.mem_of_getElem? (i := 16) rfl))) (mvT hZ (hw _ (List.mem_of_getElem? (i := 17) rfl))) (mvT hZ (hw _ (List.mem_of_getElem? (i := 18) rfl))) (by decide) (backOf (W := 0) (rm3 l Z a0 hw [] b13 (-1 : Int32) n z (fun _ => 0) h19 n0 Z19 F24 hz g_b13) hZ (hw _ (List.mem_of_getElem? (i := 18) rfl)) (hw _ (List.mem_of_getElem? (i := 17) rfl)) (by decide) (by decide)) (g := (mkF m 23 #[.val (.ref o), .val (.int z)] [(.int (-1 : Int32)), (.ref b13)])) rfl (by rw [hml]; rfl) (argsL := [(.ref b13), (.int (-1 : Int32))]) (rest := []) (lenOf pd_1 rfl) rfl (by show 2 * 0 + _ ≤ _; exact Nat.le_of_eq rfl) (hb hby d1_23) (fun _ _ => ⟨rfl, e25, (by decide : 2 + 0 ≤ _), (by decide : 18 + 0 ≤ _)⟩)
  dsimp only [Pt.U, Pt.locs, Pt.cells, Pt.slots] at X26 l26 y26 z26 st26 hQ26
  subst l26 y26 z26
  obtain ⟨rfl, N26q, K26, V26⟩ := hQ26
  have F27 := F20.keep K26
  have F28 := F21.keep K26 (ninS ne_o_b13 nin0)
  have F29 := Fw19.keep K26 (ninS ne_o_b13 nin0)
  have F30 := F22.keep K26 (ninS ne_o_b13 nin0)
  have F31 := F23.keep K26 (ninS ne_b3_b13 nin0)
  have Z26 : n0 ≤ T26.heap.size := Nat.le_trans Z19 K26.1
  have KK26 : Keep h0 T26.heap [o] := K19.trans K26 (allS (Or.inr sz_b13) all0)
  have N26 := Fr.app N19 N26q
  refine Goes.of st26 ?_
  show Goes _ _ _ _ _ _ _ (T26.setTop (mkF m 26 #[.val (.ref o), .val (.int z)] []))
  exact Goes.fin X26 hlk (v := none) (fun _ => rfl) (fun fs hr => X26.returnOut hx Bd.returns (hb hby d1_26) hr) (by rw [show T26.heap = T26.heap from rfl]; exact ⟨rfl, N26, b3, b13, KK26, sz_b3, sz_b13, ne_b3_b13, F27, F28, F29, F30, F31, V26⟩) (by decide) (by decide)
theorem d4_0 : decode prog_12_method_5_code 0 = .ok (.aload_n 0, 1) := by decide +kernel
theorem d4_1 : decode prog_12_method_5_code 1 = .ok (.getfield 7, 3) := by decide +kernel
theorem d4_4 : decode prog_12_method_5_code 4 = .ok (.aload_n 0, 1) := by decide +kernel
theorem d4_5 : decode prog_12_method_5_code 5 = .ok (.getfield 22, 3) := by decide +kernel
theorem d4_8 : decode prog_12_method_5_code 8 = .ok (.iload_n 1, 1) := by decide +kernel
theorem d4_9 : decode prog_12_method_5_code 9 = .ok (.iastore, 1) := by decide +kernel
theorem d4_10 : decode prog_12_method_5_code 10 = .ok (.aload_n 0, 1) := by decide +kernel
theorem d4_11 : decode prog_12_method_5_code 11 = .ok (.getfield 13, 3) := by decide +kernel
theorem d4_14 : decode prog_12_method_5_code 14 = .ok (.iload_n 1, 1) := by decide +kernel
theorem d4_15 : decode prog_12_method_5_code 15 = .ok (.aload_n 0, 1) := by decide +kernel
theorem d4_16 : decode prog_12_method_5_code 16 = .ok (.dup, 1) := by decide +kernel
theorem d4_17 : decode prog_12_method_5_code 17 = .ok (.getfield 22, 3) := by decide +kernel
theorem d4_20 : decode prog_12_method_5_code 20 = .ok (.dup_x1, 1) := by decide +kernel
theorem d4_21 : decode prog_12_method_5_code 21 = .ok (.iconst 1, 1) := by decide +kernel
theorem d4_22 : decode prog_12_method_5_code 22 = .ok (.iadd, 1) := by decide +kernel
theorem d4_23 : decode prog_12_method_5_code 23 = .ok (.putfield 22, 3) := by decide +kernel
theorem d4_26 : decode prog_12_method_5_code 26 = .ok (.iastore, 1) := by decide +kernel
theorem d4_27 : decode prog_12_method_5_code 27 = .ok (.return_, 1) := by decide +kernel
theorem ef_4 (m : MethodId) (o : Addr) (v0 : Int32) : entryFrame m #[(.ref o), (.int v0)] 2 = mkF m 0 #[.val (.ref o), .val (.int v0)] [] := by first | (simp [entryFrame, mkF, argsToLocals, Value.category]; done) | rfl
def Q4 (Z : State) (o mm pp : Addr) (n : Nat) (M P : Nat → Int32) (sz v0 : Int32) (h0 : Heap) (n0 : Nat) (v : Option Value) (h : Heap) (L : List Loc) : Prop := v = none ∧ Fr n0 L ∧ Keep h0 h [o, mm, pp] ∧ Exa Z h o "com/example/slotwright/slotwright/problems/IndexSet" ∧ Fld Z h o "com/example/slotwright/slotwright/problems/IndexSet" "members" "[I" (.ref mm) ∧ Fld Z h o "com/example/slotwright/slotwright/problems/IndexSet" "positions" "[I" (.ref pp) ∧ Fld Z h o "com/example/slotwright/slotwright/problems/IndexSet" "size" "I" (.int (sz + (1 : Int32))) ∧ AI Z h mm .int n (upd M sz.toNatClampNeg v0) ∧ AI Z h pp .int n (upd P v0.toNatClampNeg sz)
set_option maxRecDepth 65536 in
set_option maxHeartbeats 40000000 in
theorem rm4 (l : Launch) (Z : State) (a0 : Array Value) (hw : ∀ d ∈ tables_1, d.before a0 Z = true) (ws : List Jvm.Cond) (o : Addr) (v0 : Int32) (mm pp : Addr) (n : Nat) (M P : Nat → Int32) (sz : Int32) (h0 : Heap) (n0 : Nat) (Z0 : n0 ≤ h0.size) (E_o : Exa Z h0 o "com/example/slotwright/slotwright/problems/IndexSet") (F_members : Fld Z h0 o "com/example/slotwright/slotwright/problems/IndexSet" "members" "[I" (.ref mm)) (F_positions : Fld Z h0 o "com/example/slotwright/slotwright/problems/IndexSet" "positions" "[I" (.ref pp)) (F_size : Fld Z h0 o "com/example/slotwright/slotwright/problems/IndexSet" "size" "I" (.int sz)) (V_mm : AI Z h0 mm .int n M) (V_pp : AI Z h0 pp .int n P) (ne_om : o ≠ mm) (ne_op : o ≠ pp) (ne_mp : mm ≠ pp) (g_o : n0 ≤ o) (g_mm : n0 ≤ mm) (g_pp : n0 ≤ pp) (hsz : 0 ≤ sz.toInt ∧ sz.toInt < n) (hv : 0 ≤ v0.toInt ∧ v0.toInt < n) :
    MetFree l (⟨"com/example/slotwright/slotwright/problems/IndexSet", "add", "(I)V"⟩ : MethodName) (head1 (Jvm.Cond.code (⟨"com/example/slotwright/slotwright/problems/IndexSet", "add", "(I)V"⟩ : MethodName) prog_12_method_5_code 2 none :: ws) ({ frames := 0, cells := 0, slots := 0, locals := 0 } : Room)) (fun ar' Ur => ar' = #[(.ref o), (.int v0)] ∧ Z.Warmed39 Ur.vm ∧ Ur.heap = h0) (fun _ _ _ _ _ => True) (fun _ Ur or' Us => ∃ v L, or' = .returned v ∧ Q4 Z o mm pp n M P sz v0 h0 n0 v Us.heap L ∧ FrameEnd Ur or' Us L 0 0) := by
  refine MetFree.of_bodySF (plainFor_of_name pn_1) hisR ?_
  intro p e s m args below meth c s₁ Bd hml0 hP hK
  obtain ⟨rfl, hZ, hh⟩ := hP
  have hx := Bd.exec
  have hby := Bd.bytes
  have hlk : meth.locks = false := BodyLoose.notSynchronized Bd
  have hml : c.maxLocals = 2 := hml0
  have hown : s.vm.findClass "com/example/slotwright/slotwright/problems/IndexSet" = some m.cls := findClass_of_methodNamed Bd.named
  have hnm := (name_of_methodNamed Bd.named Bd.method).1
  have X0 : Stand p l e ({ frames := 0, cells := 0, slots := 0, locals := 0 } : Room) s m #[(.ref o), (.int v0)] below meth c s₁ [] 0 0 := Stand.of_body Bd
  have e0 : s₁.heap = h0 := by rw [← hh, Bd.state]; rfl
  have N0 := Fr.nil n0
  show Goes p.tables e below s (Q4 Z o mm pp n M P sz v0 h0 n0) 0 0 (s₁.setTop (entryFrame m #[(.ref o), (.int v0)] 2))
  refine Goes.of (fun t k => castTop (ef_4 m o v0) k) ?_
  show Goes _ _ _ _ _ _ _ (s₁.setTop (mkF m 0 #[.val (.ref o), .val (.int v0)] []))
  refine Goes.of (fun t k => XS.aloadN X0.here hx rfl (hb hby d4_0) rfl rfl k) ?_
  show Goes _ _ _ _ _ _ _ (s₁.setTop (mkF m 1 #[.val (.ref o), .val (.int v0)] [(.ref o)]))
  obtain ⟨T32, X32, e32, st32⟩ := getF X0 hx hZ hown (host := "") (Or.inl (hw _ (List.mem_of_getElem? (i := 11) rfl))) Via.refl e0 F_members (g := (mkF m 1 #[.val (.ref o), .val (.int v0)] [(.ref o)])) rfl rfl (hb hby d4_1)
  refine Goes.of st32 ?_
  show Goes _ _ _ _ _ _ _ (T32.setTop (mkF m 4 #[.val (.ref o), .val (.int v0)] [(.ref mm)]))
  refine Goes.of (fun t k => XS.aloadN X32.here hx rfl (hb hby d4_4) rfl rfl k) ?_
  show Goes _ _ _ _ _ _ _ (T32.setTop (mkF m 5 #[.val (.ref o), .val (.int v0)] [(.ref o), (.ref mm)]))
  obtain ⟨T33, X33, e33, st33⟩ := getF X32 hx hZ hown (host := "") (Or.inl (hw _ (List.mem_of_getElem? (i := 24) rfl))) Via.refl e32 F_size (g := (mkF m 5 #[.val (.ref o), .val (.int v0)] [(.ref o), (.ref mm)])) rfl rfl (hb hby d4_5)
  refine Goes.of st33 ?_
  show Goes _ _ _ _ _ _ _ (T33.setTop (mkF m 8 #[.val (.ref o), .val (.int v0)] [(.int sz), (.ref mm)]))
  refine Goes.of (fun t k => XS.iloadN X33.here hx rfl (hb hby d4_8) rfl k) ?_
  show Goes _ _ _ _ _ _ _ (T33.setTop (mkF m 9 #[.val (.ref o), .val (.int v0)] [(.int v0), (.int sz), (.ref mm)]))
  obtain ⟨T34, h34, X34, e34, W34, V34, st34⟩ := putI X33 hx hZ e33 V_mm (j := sz) (x := v0) (i := sz.toNatClampNeg) (own_nn (by omega)) rfl (own_ltn (by omega) (by omega)) (g := (mkF m 9 #[.val (.ref o), .val (.int v0)] [(.int v0), (.int sz), (.ref mm)])) rfl rfl (hb hby d4_9)
  have F35 := Exa.wr W34 E_o
  have F36 := Fld.other W34 F_members (Or.inl ne_om)
  have F37 := Fld.other W34 F_positions (Or.inl ne_om)
  have F38 := Fld.other W34 F_size (Or.inl ne_om)
  have F39 := V_pp.other W34 (Ne.symm ne_mp)
  have Z34 : n0 ≤ h34.size := Nat.le_trans Z0 (Keep.of_wr W34).1
  have K34 : Keep h0 h34 [o, mm, pp] := (Keep.refl h0 [o, mm, pp]).wr W34 (Or.inl (List.mem_of_getElem? (i := 1) rfl))
  have N34 := Fr.snoc X34 N0 g_mm
  refine Goes.of st34 ?_
  show Goes _ _ _ _ _ _ _ (T34.setTop (mkF m 10 #[.val (.ref o), .val (.int v0)] []))
  refine Goes.of (fun t k => XS.aloadN X34.here hx rfl (hb hby d4_10) rfl rfl k) ?_
  show Goes _ _ _ _ _ _ _ (T34.setTop (mkF m 11 #[.val (.ref o), .val (.int v0)] [(.ref o)]))
  obtain ⟨T40, X40, e40, st40⟩ := getF X34 hx hZ hown (host := "") (Or.inl (hw _ (List.mem_of_getElem? (i := 13) rfl))) Via.refl e34 F37 (g := (mkF m 11 #[.val (.ref o), .val (.int v0)] [(.ref o)])) rfl rfl (hb hby d4_11)
  refine Goes.of st40 ?_
  show Goes _ _ _ _ _ _ _ (T40.setTop (mkF m 14 #[.val (.ref o), .val (.int v0)] [(.ref pp)]))
  refine Goes.of (fun t k => XS.iloadN X40.here hx rfl (hb hby d4_14) rfl k) ?_
  show Goes _ _ _ _ _ _ _ (T40.setTop (mkF m 15 #[.val (.ref o), .val (.int v0)] [(.int v0), (.ref pp)]))
  refine Goes.of (fun t k => XS.aloadN X40.here hx rfl (hb hby d4_15) rfl rfl k) ?_
  show Goes _ _ _ _ _ _ _ (T40.setTop (mkF m 16 #[.val (.ref o), .val (.int v0)] [(.ref o), (.int v0), (.ref pp)]))
  refine Goes.of (fun t k => XS.dup X40.here hx rfl (hb hby d4_16) rfl rfl k) ?_
  show Goes _ _ _ _ _ _ _ (T40.setTop (mkF m 17 #[.val (.ref o), .val (.int v0)] [(.ref o), (.ref o), (.int v0), (.ref pp)]))
  obtain ⟨T41, X41, e41, st41⟩ := getF X40 hx hZ hown (host := "") (Or.inl (hw _ (List.mem_of_getElem? (i := 24) rfl))) Via.refl e40 F38 (g := (mkF m 17 #[.val (.ref o), .val (.int v0)] [(.ref o), (.ref o), (.int v0), (.ref pp)])) rfl rfl (hb hby d4_17)
  refine Goes.of st41 ?_
  show Goes _ _ _ _ _ _ _ (T41.setTop (mkF m 20 #[.val (.ref o), .val (.int v0)] [(.int sz), (.ref o), (.int v0), (.ref pp)]))
  refine Goes.of (fun t k => XS.dupX1 X41.here hx rfl (hb hby d4_20) rfl rfl rfl k) ?_
  show Goes _ _ _ _ _ _ _ (T41.setTop (mkF m 21 #[.val (.ref o), .val (.int v0)] [(.int sz), (.ref o), (.int sz), (.int v0), (.ref pp)]))
  refine Goes.of (fun t k => XS.iconst X41.here hx rfl (hb hby d4_21) k) ?_
  show Goes _ _ _ _ _ _ _ (T41.setTop (mkF m 22 #[.val (.ref o), .val (.int v0)] [(.int (1 : Int32)), (.int sz), (.ref o), (.int sz), (.int v0), (.ref pp)]))
  refine Goes.of (fun t k => XS.iadd X41.here hx rfl (hb hby d4_22) rfl k) ?_
  show Goes _ _ _ _ _ _ _ (T41.setTop (mkF m 23 #[.val (.ref o), .val (.int v0)] [(.int (sz + (1 : Int32))), (.ref o), (.int sz), (.int v0), (.ref pp)]))
  obtain ⟨T42, h42, X42, e42, W42, st42⟩ := putF X41 hx hZ hown (host := "") (Or.inl (hw _ (List.mem_of_getElem? (i := 24) rfl))) Via.refl e41 F38 F35 (Or.inl (hw _ (List.mem_of_getElem? (i := 25) rfl))) (hw _ (List.mem_of_getElem? (i := 2) rfl)) (ty := .int) (by decide) rfl rfl (g := (mkF m 23 #[.val (.ref o), .val (.int v0)] [(.int (sz + (1 : Int32))), (.ref o), (.int sz), (.int v0), (.ref pp)])) rfl rfl (hb hby d4_23)
  have Fw42 := Fld.same W42 F38
  have F43 := Exa.wr W42 F35
  have F44 := Fld.other W42 F36 (Or.inr (slot_ne (Or.inr (hw _ (List.mem_of_getElem? (i := 12) rfl))) (Or.inl (hw _ (List.mem_of_getElem? (i := 25) rfl))) (by decide) (t := (.array .int)) (t' := .int) (by decide) (by decide)))
  have F45 := Fld.other W42 F37 (Or.inr (slot_ne (Or.inr (hw _ (List.mem_of_getElem? (i := 14) rfl))) (Or.inl (hw _ (List.mem_of_getElem? (i := 25) rfl))) (by decide) (t := (.array .int)) (t' := .int) (by decide) (by decide)))
  have F46 := V34.other W42 (Ne.symm ne_om)
  have F47 := F39.other W42 (Ne.symm ne_op)
  have Z42 : n0 ≤ h42.size := Nat.le_trans Z34 (Keep.of_wr W42).1
  have K42 : Keep h0 h42 [o, mm, pp] := K34.wr W42 (Or.inl (List.mem_of_getElem? (i := 0) rfl))
  have N42 := Fr.snoc X42 N34 g_o
  refine Goes.of st42 ?_
  show Goes _ _ _ _ _ _ _ (T42.setTop (mkF m 26 #[.val (.ref o), .val (.int v0)] [(.int sz), (.int v0), (.ref pp)]))
  obtain ⟨T48, h48, X48, e48, W48, V48, st48⟩ := putI X42 hx hZ e42 F47 (j := v0) (x := sz) (i := v0.toNatClampNeg) (own_nn (by omega)) rfl (own_ltn (by omega) (by omega)) (g := (mkF m 26 #[.val (.ref o), .val (.int v0)] [(.int sz), (.int v0), (.ref pp)])) rfl rfl (hb hby d4_26)
  have F49 := Exa.wr W48 F43
  have F50 := Fld.other W48 F44 (Or.inl ne_op)
  have F51 := Fld.other W48 F45 (Or.inl ne_op)
  have F52 := Fld.other W48 Fw42 (Or.inl ne_op)
  have F53 := F46.other W48 ne_mp
  have Z48 : n0 ≤ h48.size := Nat.le_trans Z42 (Keep.of_wr W48).1
  have K48 : Keep h0 h48 [o, mm, pp] := K42.wr W48 (Or.inl (List.mem_of_getElem? (i := 2) rfl))
  have N48 := Fr.snoc X48 N42 g_pp
  refine Goes.of st48 ?_
  show Goes _ _ _ _ _ _ _ (T48.setTop (mkF m 27 #[.val (.ref o), .val (.int v0)] []))
  exact Goes.fin X48 hlk (v := none) (fun _ => rfl) (fun fs hr => X48.returnOut hx Bd.returns (hb hby d4_27) hr) (by rw [e48]; exact ⟨rfl, N48, K48, F49, F50, F51, F52, F53, V48⟩) (by decide) (by decide)
theorem d8_0 : decode prog_12_method_6_code 0 = .ok (.aload_n 0, 1) := by decide +kernel
theorem d8_1 : decode prog_12_method_6_code 1 = .ok (.getfield 13, 3) := by decide +kernel
theorem d8_4 : decode prog_12_method_6_code 4 = .ok (.iload_n 1, 1) := by decide +kernel
theorem d8_5 : decode prog_12_method_6_code 5 = .ok (.iaload, 1) := by decide +kernel
theorem d8_6 : decode prog_12_method_6_code 6 = .ok (.istore_n 2, 1) := by decide +kernel
theorem d8_7 : decode prog_12_method_6_code 7 = .ok (.aload_n 0, 1) := by decide +kernel
theorem d8_8 : decode prog_12_method_6_code 8 = .ok (.getfield 7, 3) := by decide +kernel
theorem d8_11 : decode prog_12_method_6_code 11 = .ok (.aload_n 0, 1) := by decide +kernel
theorem d8_12 : decode prog_12_method_6_code 12 = .ok (.dup, 1) := by decide +kernel
theorem d8_13 : decode prog_12_method_6_code 13 = .ok (.getfield 22, 3) := by decide +kernel
theorem d8_16 : decode prog_12_method_6_code 16 = .ok (.iconst 1, 1) := by decide +kernel
theorem d8_17 : decode prog_12_method_6_code 17 = .ok (.isub, 1) := by decide +kernel
theorem d8_18 : decode prog_12_method_6_code 18 = .ok (.dup_x1, 1) := by decide +kernel
theorem d8_19 : decode prog_12_method_6_code 19 = .ok (.putfield 22, 3) := by decide +kernel
theorem d8_22 : decode prog_12_method_6_code 22 = .ok (.iaload, 1) := by decide +kernel
theorem d8_23 : decode prog_12_method_6_code 23 = .ok (.istore_n 3, 1) := by decide +kernel
theorem d8_24 : decode prog_12_method_6_code 24 = .ok (.aload_n 0, 1) := by decide +kernel
theorem d8_25 : decode prog_12_method_6_code 25 = .ok (.getfield 7, 3) := by decide +kernel
theorem d8_28 : decode prog_12_method_6_code 28 = .ok (.iload_n 2, 1) := by decide +kernel
theorem d8_29 : decode prog_12_method_6_code 29 = .ok (.iload_n 3, 1) := by decide +kernel
theorem d8_30 : decode prog_12_method_6_code 30 = .ok (.iastore, 1) := by decide +kernel
theorem d8_31 : decode prog_12_method_6_code 31 = .ok (.aload_n 0, 1) := by decide +kernel
theorem d8_32 : decode prog_12_method_6_code 32 = .ok (.getfield 13, 3) := by decide +kernel
theorem d8_35 : decode prog_12_method_6_code 35 = .ok (.iload_n 3, 1) := by decide +kernel
theorem d8_36 : decode prog_12_method_6_code 36 = .ok (.iload_n 2, 1) := by decide +kernel
theorem d8_37 : decode prog_12_method_6_code 37 = .ok (.iastore, 1) := by decide +kernel
theorem d8_38 : decode prog_12_method_6_code 38 = .ok (.aload_n 0, 1) := by decide +kernel
theorem d8_39 : decode prog_12_method_6_code 39 = .ok (.getfield 13, 3) := by decide +kernel
theorem d8_42 : decode prog_12_method_6_code 42 = .ok (.iload_n 1, 1) := by decide +kernel
theorem d8_43 : decode prog_12_method_6_code 43 = .ok (.iconst (-1), 1) := by decide +kernel
theorem d8_44 : decode prog_12_method_6_code 44 = .ok (.iastore, 1) := by decide +kernel
theorem d8_45 : decode prog_12_method_6_code 45 = .ok (.return_, 1) := by decide +kernel
theorem ef_8 (m : MethodId) (o : Addr) (v0 : Int32) : entryFrame m #[(.ref o), (.int v0)] 4 = mkF m 0 #[.val (.ref o), .val (.int v0), .unset, .unset] [] := by first | (simp [entryFrame, mkF, argsToLocals, Value.category]; done) | rfl
def Q8 (Z : State) (o mm pp : Addr) (n : Nat) (M P : Nat → Int32) (sz v0 : Int32) (h0 : Heap) (n0 : Nat) (v : Option Value) (h : Heap) (L : List Loc) : Prop := v = none ∧ Fr n0 L ∧ Keep h0 h [o, mm, pp] ∧ Exa Z h o "com/example/slotwright/slotwright/problems/IndexSet" ∧ Fld Z h o "com/example/slotwright/slotwright/problems/IndexSet" "members" "[I" (.ref mm) ∧ Fld Z h o "com/example/slotwright/slotwright/problems/IndexSet" "positions" "[I" (.ref pp) ∧ Fld Z h o "com/example/slotwright/slotwright/problems/IndexSet" "size" "I" (.int (sz - (1 : Int32))) ∧ AI Z h mm .int n (upd M (P v0.toNatClampNeg).toNatClampNeg (M (sz - (1 : Int32)).toNatClampNeg)) ∧ AI Z h pp .int n (upd (upd P (M (sz - (1 : Int32)).toNatClampNeg).toNatClampNeg (P v0.toNatClampNeg)) v0.toNatClampNeg (-1 : Int32))
set_option maxRecDepth 65536 in
set_option maxHeartbeats 40000000 in
theorem rm8 (l : Launch) (Z : State) (a0 : Array Value) (hw : ∀ d ∈ tables_1, d.before a0 Z = true) (ws : List Jvm.Cond) (o : Addr) (v0 : Int32) (mm pp : Addr) (n : Nat) (M P : Nat → Int32) (sz : Int32) (h0 : Heap) (n0 : Nat) (Z0 : n0 ≤ h0.size) (E_o : Exa Z h0 o "com/example/slotwright/slotwright/problems/IndexSet") (F_members : Fld Z h0 o "com/example/slotwright/slotwright/problems/IndexSet" "members" "[I" (.ref mm)) (F_positions : Fld Z h0 o "com/example/slotwright/slotwright/problems/IndexSet" "positions" "[I" (.ref pp)) (F_size : Fld Z h0 o "com/example/slotwright/slotwright/problems/IndexSet" "size" "I" (.int sz)) (V_mm : AI Z h0 mm .int n M) (V_pp : AI Z h0 pp .int n P) (ne_om : o ≠ mm) (ne_op : o ≠ pp) (ne_mp : mm ≠ pp) (g_o : n0 ≤ o) (g_mm : n0 ≤ mm) (g_pp : n0 ≤ pp) (hsz : 0 ≤ (sz - (1 : Int32)).toInt ∧ (sz - (1 : Int32)).toInt < n) (hv : 0 ≤ v0.toInt ∧ v0.toInt < n) (hps : 0 ≤ (P v0.toNatClampNeg).toInt ∧ (P v0.toNatClampNeg).toInt < n) (hls : 0 ≤ (M (sz - (1 : Int32)).toNatClampNeg).toInt ∧ (M (sz - (1 : Int32)).toNatClampNeg).toInt < n) :
    MetFree l (⟨"com/example/slotwright/slotwright/problems/IndexSet", "remove", "(I)V"⟩ : MethodName) (head1 (Jvm.Cond.code (⟨"com/example/slotwright/slotwright/problems/IndexSet", "remove", "(I)V"⟩ : MethodName) prog_12_method_6_code 4 none :: ws) ({ frames := 0, cells := 0, slots := 0, locals := 0 } : Room)) (fun ar' Ur => ar' = #[(.ref o), (.int v0)] ∧ Z.Warmed39 Ur.vm ∧ Ur.heap = h0) (fun _ _ _ _ _ => True) (fun _ Ur or' Us => ∃ v L, or' = .returned v ∧ Q8 Z o mm pp n M P sz v0 h0 n0 v Us.heap L ∧ FrameEnd Ur or' Us L 0 0) := by
  refine MetFree.of_bodySF (plainFor_of_name pn_1) hisR ?_
  intro p e s m args below meth c s₁ Bd hml0 hP hK
  obtain ⟨rfl, hZ, hh⟩ := hP
  have hx := Bd.exec
  have hby := Bd.bytes
  have hlk : meth.locks = false := BodyLoose.notSynchronized Bd
  have hml : c.maxLocals = 4 := hml0
  have hown : s.vm.findClass "com/example/slotwright/slotwright/problems/IndexSet" = some m.cls := findClass_of_methodNamed Bd.named
  have hnm := (name_of_methodNamed Bd.named Bd.method).1
  have X0 : Stand p l e ({ frames := 0, cells := 0, slots := 0, locals := 0 } : Room) s m #[(.ref o), (.int v0)] below meth c s₁ [] 0 0 := Stand.of_body Bd
  have e0 : s₁.heap = h0 := by rw [← hh, Bd.state]; rfl
  have N0 := Fr.nil n0
  show Goes p.tables e below s (Q8 Z o mm pp n M P sz v0 h0 n0) 0 0 (s₁.setTop (entryFrame m #[(.ref o), (.int v0)] 4))
  refine Goes.of (fun t k => castTop (ef_8 m o v0) k) ?_
  show Goes _ _ _ _ _ _ _ (s₁.setTop (mkF m 0 #[.val (.ref o), .val (.int v0), .unset, .unset] []))
  refine Goes.of (fun t k => XS.aloadN X0.here hx rfl (hb hby d8_0) rfl rfl k) ?_
  show Goes _ _ _ _ _ _ _ (s₁.setTop (mkF m 1 #[.val (.ref o), .val (.int v0), .unset, .unset] [(.ref o)]))
  obtain ⟨T54, X54, e54, st54⟩ := getF X0 hx hZ hown (host := "") (Or.inl (hw _ (List.mem_of_getElem? (i := 13) rfl))) Via.refl e0 F_positions (g := (mkF m 1 #[.val (.ref o), .val (.int v0), .unset, .unset] [(.ref o)])) rfl rfl (hb hby d8_1)
  refine Goes.of st54 ?_
  show Goes _ _ _ _ _ _ _ (T54.setTop (mkF m 4 #[.val (.ref o), .val (.int v0), .unset, .unset] [(.ref pp)]))
  refine Goes.of (fun t k => XS.iloadN X54.here hx rfl (hb hby d8_4) rfl k) ?_
  show Goes _ _ _ _ _ _ _ (T54.setTop (mkF m 5 #[.val (.ref o), .val (.int v0), .unset, .unset] [(.int v0), (.ref pp)]))
  refine Goes.of (fun t k => ldI X54 hx hZ e54 V_pp (j := v0) (i := v0.toNatClampNeg) (v := (P v0.toNatClampNeg)) (own_nn (by omega)) rfl (own_ltn (by omega) (by omega)) rfl (g := (mkF m 5 #[.val (.ref o), .val (.int v0), .unset, .unset] [(.int v0), (.ref pp)])) rfl rfl (hb hby d8_5) t k) ?_
  show Goes _ _ _ _ _ _ _ (T54.setTop (mkF m 6 #[.val (.ref o), .val (.int v0), .unset, .unset] [(.int (P v0.toNatClampNeg))]))
  refine Goes.of (fun t k => XS.istoreN X54.here hx rfl (hb hby d8_6) rfl (l' := #[.val (.ref o), .val (.int v0), .val (.int (P v0.toNatClampNeg)), .unset]) rfl k) ?_
  show Goes _ _ _ _ _ _ _ (T54.setTop (mkF m 7 #[.val (.ref o), .val (.int v0), .val (.int (P v0.toNatClampNeg)), .unset] []))
  refine Goes.of (fun t k => XS.aloadN X54.here hx rfl (hb hby d8_7) rfl rfl k) ?_
  show Goes _ _ _ _ _ _ _ (T54.setTop (mkF m 8 #[.val (.ref o), .val (.int v0), .val (.int (P v0.toNatClampNeg)), .unset] [(.ref o)]))
  obtain ⟨T55, X55, e55, st55⟩ := getF X54 hx hZ hown (host := "") (Or.inl (hw _ (List.mem_of_getElem? (i := 11) rfl))) Via.refl e54 F_members (g := (mkF m 8 #[.val (.ref o), .val (.int v0), .val (.int (P v0.toNatClampNeg)), .unset] [(.ref o)])) rfl rfl (hb hby d8_8)
  refine Goes.of st55 ?_
  show Goes _ _ _ _ _ _ _ (T55.setTop (mkF m 11 #[.val (.ref o), .val (.int v0), .val (.int (P v0.toNatClampNeg)), .unset] [(.ref mm)]))
  refine Goes.of (fun t k => XS.aloadN X55.here hx rfl (hb hby d8_11) rfl rfl k) ?_
  show Goes _ _ _ _ _ _ _ (T55.setTop (mkF m 12 #[.val (.ref o), .val (.int v0), .val (.int (P v0.toNatClampNeg)), .unset] [(.ref o), (.ref mm)]))
  refine Goes.of (fun t k => XS.dup X55.here hx rfl (hb hby d8_12) rfl rfl k) ?_
  show Goes _ _ _ _ _ _ _ (T55.setTop (mkF m 13 #[.val (.ref o), .val (.int v0), .val (.int (P v0.toNatClampNeg)), .unset] [(.ref o), (.ref o), (.ref mm)]))
  obtain ⟨T56, X56, e56, st56⟩ := getF X55 hx hZ hown (host := "") (Or.inl (hw _ (List.mem_of_getElem? (i := 24) rfl))) Via.refl e55 F_size (g := (mkF m 13 #[.val (.ref o), .val (.int v0), .val (.int (P v0.toNatClampNeg)), .unset] [(.ref o), (.ref o), (.ref mm)])) rfl rfl (hb hby d8_13)
  refine Goes.of st56 ?_
  show Goes _ _ _ _ _ _ _ (T56.setTop (mkF m 16 #[.val (.ref o), .val (.int v0), .val (.int (P v0.toNatClampNeg)), .unset] [(.int sz), (.ref o), (.ref mm)]))
  refine Goes.of (fun t k => XS.iconst X56.here hx rfl (hb hby d8_16) k) ?_
  show Goes _ _ _ _ _ _ _ (T56.setTop (mkF m 17 #[.val (.ref o), .val (.int v0), .val (.int (P v0.toNatClampNeg)), .unset] [(.int (1 : Int32)), (.int sz), (.ref o), (.ref mm)]))
  refine Goes.of (fun t k => XS.isub X56.here hx rfl (hb hby d8_17) rfl k) ?_
  show Goes _ _ _ _ _ _ _ (T56.setTop (mkF m 18 #[.val (.ref o), .val (.int v0), .val (.int (P v0.toNatClampNeg)), .unset] [(.int (sz - (1 : Int32))), (.ref o), (.ref mm)]))
  refine Goes.of (fun t k => XS.dupX1 X56.here hx rfl (hb hby d8_18) rfl rfl rfl k) ?_
  show Goes _ _ _ _ _ _ _ (T56.setTop (mkF m 19 #[.val (.ref o), .val (.int v0), .val (.int (P v0.toNatClampNeg)), .unset] [(.int (sz - (1 : Int32))), (.ref o), (.int (sz - (1 : Int32))), (.ref mm)]))
  obtain ⟨T57, h57, X57, e57, W57, st57⟩ := putF X56 hx hZ hown (host := "") (Or.inl (hw _ (List.mem_of_getElem? (i := 24) rfl))) Via.refl e56 F_size E_o (Or.inl (hw _ (List.mem_of_getElem? (i := 25) rfl))) (hw _ (List.mem_of_getElem? (i := 2) rfl)) (ty := .int) (by decide) rfl rfl (g := (mkF m 19 #[.val (.ref o), .val (.int v0), .val (.int (P v0.toNatClampNeg)), .unset] [(.int (sz - (1 : Int32))), (.ref o), (.int (sz - (1 : Int32))), (.ref mm)])) rfl rfl (hb hby d8_19)
  have Fw57 := Fld.same W57 F_size
  have F58 := Exa.wr W57 E_o
  have F59 := Fld.other W57 F_members (Or.inr (slot_ne (Or.inr (hw _ (List.mem_of_getElem? (i := 12) rfl))) (Or.inl (hw _ (List.mem_of_getElem? (i := 25) rfl))) (by decide) (t := (.array .int)) (t' := .int) (by decide) (by decide)))
  have F60 := Fld.other W57 F_positions (Or.inr (slot_ne (Or.inr (hw _ (List.mem_of_getElem? (i := 14) rfl))) (Or.inl (hw _ (List.mem_of_getElem? (i := 25) rfl))) (by decide) (t := (.array .int)) (t' := .int) (by decide) (by decide)))
  have F61 := V_mm.other W57 (Ne.symm ne_om)
  have F62 := V_pp.other W57 (Ne.symm ne_op)
  have Z57 : n0 ≤ h57.size := Nat.le_trans Z0 (Keep.of_wr W57).1
  have K57 : Keep h0 h57 [o, mm, pp] := (Keep.refl h0 [o, mm, pp]).wr W57 (Or.inl (List.mem_of_getElem? (i := 0) rfl))
  have N57 := Fr.snoc X57 N0 g_o
  refine Goes.of st57 ?_
  show Goes _ _ _ _ _ _ _ (T57.setTop (mkF m 22 #[.val (.ref o), .val (.int v0), .val (.int (P v0.toNatClampNeg)), .unset] [(.int (sz - (1 : Int32))), (.ref mm)]))
  refine Goes.of (fun t k => ldI X57 hx hZ e57 F61 (j := (sz - (1 : Int32))) (i := (sz - (1 : Int32)).toNatClampNeg) (v := (M (sz - (1 : Int32)).toNatClampNeg)) (own_nn (by omega)) rfl (own_ltn (by omega) (by omega)) rfl (g := (mkF m 22 #[.val (.ref o), .val (.int v0), .val (.int (P v0.toNatClampNeg)), .unset] [(.int (sz - (1 : Int32))), (.ref mm)])) rfl rfl (hb hby d8_22) t k) ?_
  show Goes _ _ _ _ _ _ _ (T57.setTop (mkF m 23 #[.val (.ref o), .val (.int v0), .val (.int (P v0.toNatClampNeg)), .unset] [(.int (M (sz - (1 : Int32)).toNatClampNeg))]))
  refine Goes.of (fun t k => XS.istoreN X57.here hx rfl (hb hby d8_23) rfl (l' := #[.val (.ref o), .val (.int v0), .val (.int (P v0.toNatClampNeg)), .val (.int (M (sz - (1 : Int32)).toNatClampNeg))]) rfl k) ?_
  show Goes _ _ _ _ _ _ _ (T57.setTop (mkF m 24 #[.val (.ref o), .val (.int v0), .val (.int (P v0.toNatClampNeg)), .val (.int (M (sz - (1 : Int32)).toNatClampNeg))] []))
  refine Goes.of (fun t k => XS.aloadN X57.here hx rfl (hb hby d8_24) rfl rfl k) ?_
  show Goes _ _ _ _ _ _ _ (T57.setTop (mkF m 25 #[.val (.ref o), .val (.int v0), .val (.int (P v0.toNatClampNeg)), .val (.int (M (sz - (1 : Int32)).toNatClampNeg))] [(.ref o)]))
  obtain ⟨T63, X63, e63, st63⟩ := getF X57 hx hZ hown (host := "") (Or.inl (hw _ (List.mem_of_getElem? (i := 11) rfl))) Via.refl e57 F59 (g := (mkF m 25 #[.val (.ref o), .val (.int v0), .val (.int (P v0.toNatClampNeg)), .val (.int (M (sz - (1 : Int32)).toNatClampNeg))] [(.ref o)])) rfl rfl (hb hby d8_25)
  refine Goes.of st63 ?_
  show Goes _ _ _ _ _ _ _ (T63.setTop (mkF m 28 #[.val (.ref o), .val (.int v0), .val (.int (P v0.toNatClampNeg)), .val (.int (M (sz - (1 : Int32)).toNatClampNeg))] [(.ref mm)]))
  refine Goes.of (fun t k => XS.iloadN X63.here hx rfl (hb hby d8_28) rfl k) ?_
  show Goes _ _ _ _ _ _ _ (T63.setTop (mkF m 29 #[.val (.ref o), .val (.int v0), .val (.int (P v0.toNatClampNeg)), .val (.int (M (sz - (1 : Int32)).toNatClampNeg))] [(.int (P v0.toNatClampNeg)), (.ref mm)]))
  refine Goes.of (fun t k => XS.iloadN X63.here hx rfl (hb hby d8_29) rfl k) ?_
  show Goes _ _ _ _ _ _ _ (T63.setTop (mkF m 30 #[.val (.ref o), .val (.int v0), .val (.int (P v0.toNatClampNeg)), .val (.int (M (sz - (1 : Int32)).toNatClampNeg))] [(.int (M (sz - (1 : Int32)).toNatClampNeg)), (.int (P v0.toNatClampNeg)), (.ref mm)]))
  obtain ⟨T64, h64, X64, e64, W64, V64, st64⟩ := putI X63 hx hZ e63 F61 (j := (P v0.toNatClampNeg)) (x := (M (sz - (1 : Int32)).toNatClampNeg)) (i := (P v0.toNatClampNeg).toNatClampNeg) (own_nn (by omega)) rfl (own_ltn (by omega) (by omega)) (g := (mkF m 30 #[.val (.ref o), .val (.int v0), .val (.int (P v0.toNatClampNeg)), .val (.int (M (sz - (1 : Int32)).toNatClampNeg))] [(.int (M (sz - (1 : Int32)).toNatClampNeg)), (.int (P v0.toNatClampNeg)), (.ref mm)])) rfl rfl (hb hby d8_30)
  have F65 := Exa.wr W64 F58
  have F66 := Fld.other W64 F59 (Or.inl ne_om)
  have F67 := Fld.other W64 F60 (Or.inl ne_om)
  have F68 := Fld.other W64 Fw57 (Or.inl ne_om)
  have F69 := F62.other W64 (Ne.symm ne_mp)
  have Z64 : n0 ≤ h64.size := Nat.le_trans Z57 (Keep.of_wr W64).1
  have K64 : Keep h0 h64 [o, mm, pp] := K57.wr W64 (Or.inl (List.mem_of_getElem? (i := 1) rfl))
  have N64 := Fr.snoc X64 N57 g_mm
  refine Goes.of st64 ?_
  show Goes _ _ _ _ _ _ _ (T64.setTop (mkF m 31 #[.val (.ref o), .val (.int v0), .val (.int (P v0.toNatClampNeg)), .val (.int (M (sz - (1 : Int32)).toNatClampNeg))] []))
  refine Goes.of (fun t k => XS.aloadN X64.here hx rfl (hb hby d8_31) rfl rfl k) ?_
  show Goes _ _ _ _ _ _ _ (T64.setTop (mkF m 32 #[.val (.ref o), .val (.int v0), .val (.int (P v0.toNatClampNeg)), .val (.int (M (sz - (1 : Int32)).toNatClampNeg))] [(.ref o)]))
  obtain ⟨T70, X70, e70, st70⟩ := getF X64 hx hZ hown (host := "") (Or.inl (hw _ (List.mem_of_getElem? (i := 13) rfl))) Via.refl e64 F67 (g := (mkF m 32 #[.val (.ref o), .val (.int v0), .val (.int (P v0.toNatClampNeg)), .val (.int (M (sz - (1 : Int32)).toNatClampNeg))] [(.ref o)])) rfl rfl (hb hby d8_32)
  refine Goes.of st70 ?_
  show Goes _ _ _ _ _ _ _ (T70.setTop (mkF m 35 #[.val (.ref o), .val (.int v0), .val (.int (P v0.toNatClampNeg)), .val (.int (M (sz - (1 : Int32)).toNatClampNeg))] [(.ref pp)]))
  refine Goes.of (fun t k => XS.iloadN X70.here hx rfl (hb hby d8_35) rfl k) ?_
  show Goes _ _ _ _ _ _ _ (T70.setTop (mkF m 36 #[.val (.ref o), .val (.int v0), .val (.int (P v0.toNatClampNeg)), .val (.int (M (sz - (1 : Int32)).toNatClampNeg))] [(.int (M (sz - (1 : Int32)).toNatClampNeg)), (.ref pp)]))
  refine Goes.of (fun t k => XS.iloadN X70.here hx rfl (hb hby d8_36) rfl k) ?_
  show Goes _ _ _ _ _ _ _ (T70.setTop (mkF m 37 #[.val (.ref o), .val (.int v0), .val (.int (P v0.toNatClampNeg)), .val (.int (M (sz - (1 : Int32)).toNatClampNeg))] [(.int (P v0.toNatClampNeg)), (.int (M (sz - (1 : Int32)).toNatClampNeg)), (.ref pp)]))
  obtain ⟨T71, h71, X71, e71, W71, V71, st71⟩ := putI X70 hx hZ e70 F69 (j := (M (sz - (1 : Int32)).toNatClampNeg)) (x := (P v0.toNatClampNeg)) (i := (M (sz - (1 : Int32)).toNatClampNeg).toNatClampNeg) (own_nn (by omega)) rfl (own_ltn (by omega) (by omega)) (g := (mkF m 37 #[.val (.ref o), .val (.int v0), .val (.int (P v0.toNatClampNeg)), .val (.int (M (sz - (1 : Int32)).toNatClampNeg))] [(.int (P v0.toNatClampNeg)), (.int (M (sz - (1 : Int32)).toNatClampNeg)), (.ref pp)])) rfl rfl (hb hby d8_37)
  have F72 := Exa.wr W71 F65
  have F73 := Fld.other W71 F66 (Or.inl ne_op)
  have F74 := Fld.other W71 F67 (Or.inl ne_op)
  have F75 := Fld.other W71 F68 (Or.inl ne_op)
  have F76 := V64.other W71 ne_mp
  have Z71 : n0 ≤ h71.size := Nat.le_trans Z64 (Keep.of_wr W71).1
  have K71 : Keep h0 h71 [o, mm, pp] := K64.wr W71 (Or.inl (List.mem_of_getElem? (i := 2) rfl))
  have N71 := Fr.snoc X71 N64 g_pp
  refine Goes.of st71 ?_
  show Goes _ _ _ _ _ _ _ (T71.setTop (mkF m 38 #[.val (.ref o), .val (.int v0), .val (.int (P v0.toNatClampNeg)), .val (.int (M (sz - (1 : Int32)).toNatClampNeg))] []))
  refine Goes.of (fun t k => XS.aloadN X71.here hx rfl (hb hby d8_38) rfl rfl k) ?_
  show Goes _ _ _ _ _ _ _ (T71.setTop (mkF m 39 #[.val (.ref o), .val (.int v0), .val (.int (P v0.toNatClampNeg)), .val (.int (M (sz - (1 : Int32)).toNatClampNeg))] [(.ref o)]))
  obtain ⟨T77, X77, e77, st77⟩ := getF X71 hx hZ hown (host := "") (Or.inl (hw _ (List.mem_of_getElem? (i := 13) rfl))) Via.refl e71 F74 (g := (mkF m 39 #[.val (.ref o), .val (.int v0), .val (.int (P v0.toNatClampNeg)), .val (.int (M (sz - (1 : Int32)).toNatClampNeg))] [(.ref o)])) rfl rfl (hb hby d8_39)
  refine Goes.of st77 ?_
  show Goes _ _ _ _ _ _ _ (T77.setTop (mkF m 42 #[.val (.ref o), .val (.int v0), .val (.int (P v0.toNatClampNeg)), .val (.int (M (sz - (1 : Int32)).toNatClampNeg))] [(.ref pp)]))
  refine Goes.of (fun t k => XS.iloadN X77.here hx rfl (hb hby d8_42) rfl k) ?_
  show Goes _ _ _ _ _ _ _ (T77.setTop (mkF m 43 #[.val (.ref o), .val (.int v0), .val (.int (P v0.toNatClampNeg)), .val (.int (M (sz - (1 : Int32)).toNatClampNeg))] [(.int v0), (.ref pp)]))
  refine Goes.of (fun t k => XS.iconst X77.here hx rfl (hb hby d8_43) k) ?_
  show Goes _ _ _ _ _ _ _ (T77.setTop (mkF m 44 #[.val (.ref o), .val (.int v0), .val (.int (P v0.toNatClampNeg)), .val (.int (M (sz - (1 : Int32)).toNatClampNeg))] [(.int (-1 : Int32)), (.int v0), (.ref pp)]))
  obtain ⟨T78, h78, X78, e78, W78, V78, st78⟩ := putI X77 hx hZ e77 V71 (j := v0) (x := (-1 : Int32)) (i := v0.toNatClampNeg) (own_nn (by omega)) rfl (own_ltn (by omega) (by omega)) (g := (mkF m 44 #[.val (.ref o), .val (.int v0), .val (.int (P v0.toNatClampNeg)), .val (.int (M (sz - (1 : Int32)).toNatClampNeg))] [(.int (-1 : Int32)), (.int v0), (.ref pp)])) rfl rfl (hb hby d8_44)
  have F79 := Exa.wr W78 F72
  have F80 := Fld.other W78 F73 (Or.inl ne_op)
  have F81 := Fld.other W78 F74 (Or.inl ne_op)
  have F82 := Fld.other W78 F75 (Or.inl ne_op)
  have F83 := F76.other W78 ne_mp
  have Z78 : n0 ≤ h78.size := Nat.le_trans Z71 (Keep.of_wr W78).1
  have K78 : Keep h0 h78 [o, mm, pp] := K71.wr W78 (Or.inl (List.mem_of_getElem? (i := 2) rfl))
  have N78 := Fr.snoc X78 N71 g_pp
  refine Goes.of st78 ?_
  show Goes _ _ _ _ _ _ _ (T78.setTop (mkF m 45 #[.val (.ref o), .val (.int v0), .val (.int (P v0.toNatClampNeg)), .val (.int (M (sz - (1 : Int32)).toNatClampNeg))] []))
  exact Goes.fin X78 hlk (v := none) (fun _ => rfl) (fun fs hr => X78.returnOut hx Bd.returns (hb hby d8_45) hr) (by rw [e78]; exact ⟨rfl, N78, K78, F79, F80, F81, F82, F83, V78⟩) (by decide) (by decide)
theorem d5_0 : decode prog_12_method_2_code 0 = .ok (.aload_n 0, 1) := by decide +kernel
theorem d5_1 : decode prog_12_method_2_code 1 = .ok (.getfield 22, 3) := by decide +kernel
theorem d5_4 : decode prog_12_method_2_code 4 = .ok (.ireturn, 1) := by decide +kernel
theorem ef_5 (m : MethodId) (o : Addr) : entryFrame m #[(.ref o)] 1 = mkF m 0 #[.val (.ref o)] [] := by first | (simp [entryFrame, mkF, argsToLocals, Value.category]; done) | rfl
def Q5 (M P : Nat → Int32) (sz : Int32) (h0 : Heap) (n0 : Nat) (v : Option Value) (h : Heap) (L : List Loc) : Prop := v = some (.int sz) ∧ Fr n0 L ∧ h = h0
set_option maxRecDepth 65536 in
set_option maxHeartbeats 40000000 in
theorem rm5 (l : Launch) (Z : State) (a0 : Array Value) (hw : ∀ d ∈ tables_1, d.before a0 Z = true) (ws : List Jvm.Cond) (o : Addr) (mm pp : Addr) (n : Nat) (M P : Nat → Int32) (sz : Int32) (h0 : Heap) (n0 : Nat) (Z0 : n0 ≤ h0.size) (E_o : Exa Z h0 o "com/example/slotwright/slotwright/problems/IndexSet") (F_members : Fld Z h0 o "com/example/slotwright/slotwright/problems/IndexSet" "members" "[I" (.ref mm)) (F_positions : Fld Z h0 o "com/example/slotwright/slotwright/problems/IndexSet" "positions" "[I" (.ref pp)) (F_size : Fld Z h0 o "com/example/slotwright/slotwright/problems/IndexSet" "size" "I" (.int sz)) (V_mm : AI Z h0 mm .int n M) (V_pp : AI Z h0 pp .int n P) (ne_om : o ≠ mm) (ne_op : o ≠ pp) (ne_mp : mm ≠ pp) (g_o : n0 ≤ o) (g_mm : n0 ≤ mm) (g_pp : n0 ≤ pp)  :
    MetFree l (⟨"com/example/slotwright/slotwright/problems/IndexSet", "size", "()I"⟩ : MethodName) (head1 (Jvm.Cond.code (⟨"com/example/slotwright/slotwright/problems/IndexSet", "size", "()I"⟩ : MethodName) prog_12_method_2_code 1 (some .int) :: ws) ({ frames := 0, cells := 0, slots := 0, locals := 0 } : Room)) (fun ar' Ur => ar' = #[(.ref o)] ∧ Z.Warmed39 Ur.vm ∧ Ur.heap = h0) (fun _ _ _ _ _ => True) (fun _ Ur or' Us => ∃ v L, or' = .returned v ∧ Q5 M P sz h0 n0 v Us.heap L ∧ FrameEnd Ur or' Us L 0 0) := by
  refine MetFree.of_bodySF (plainFor_of_name pn_1) hisR ?_
  intro p e s m args below meth c s₁ Bd hml0 hP hK
  obtain ⟨rfl, hZ, hh⟩ := hP
  have hx := Bd.exec
  have hby := Bd.bytes
  have hlk : meth.locks = false := BodyLoose.notSynchronized Bd
  have hml : c.maxLocals = 1 := hml0
  have hown : s.vm.findClass "com/example/slotwright/slotwright/problems/IndexSet" = some m.cls := findClass_of_methodNamed Bd.named
  have hnm := (name_of_methodNamed Bd.named Bd.method).1
  have X0 : Stand p l e ({ frames := 0, cells := 0, slots := 0, locals := 0 } : Room) s m #[(.ref o)] below meth c s₁ [] 0 0 := Stand.of_body Bd
  have e0 : s₁.heap = h0 := by rw [← hh, Bd.state]; rfl
  have N0 := Fr.nil n0
  show Goes p.tables e below s (Q5 M P sz h0 n0) 0 0 (s₁.setTop (entryFrame m #[(.ref o)] 1))
  refine Goes.of (fun t k => castTop (ef_5 m o) k) ?_
  show Goes _ _ _ _ _ _ _ (s₁.setTop (mkF m 0 #[.val (.ref o)] []))
  refine Goes.of (fun t k => XS.aloadN X0.here hx rfl (hb hby d5_0) rfl rfl k) ?_
  show Goes _ _ _ _ _ _ _ (s₁.setTop (mkF m 1 #[.val (.ref o)] [(.ref o)]))
  obtain ⟨T84, X84, e84, st84⟩ := getF X0 hx hZ hown (host := "") (Or.inl (hw _ (List.mem_of_getElem? (i := 24) rfl))) Via.refl e0 F_size (g := (mkF m 1 #[.val (.ref o)] [(.ref o)])) rfl rfl (hb hby d5_1)
  refine Goes.of st84 ?_
  show Goes _ _ _ _ _ _ _ (T84.setTop (mkF m 4 #[.val (.ref o)] [(.int sz)]))
  exact Goes.fin X84 hlk (v := some (.int sz)) (fun h => by rw [Bd.returns] at h; cases h) (fun fs hr => retI X84 hx Bd.returns (hb hby d5_4) hr) ⟨congrArg (fun z => some (Value.int z)) (rfl), N0, e84⟩ (by decide) (by decide)
theorem d6_0 : decode prog_12_method_3_code 0 = .ok (.aload_n 0, 1) := by decide +kernel
theorem d6_1 : decode prog_12_method_3_code 1 = .ok (.getfield 7, 3) := by decide +kernel
theorem d6_4 : decode prog_12_method_3_code 4 = .ok (.iload_n 1, 1) := by decide +kernel
theorem d6_5 : decode prog_12_method_3_code 5 = .ok (.iaload, 1) := by decide +kernel
theorem d6_6 : decode prog_12_method_3_code 6 = .ok (.ireturn, 1) := by decide +kernel
theorem ef_6 (m : MethodId) (o : Addr) (v0 : Int32) : entryFrame m #[(.ref o), (.int v0)] 2 = mkF m 0 #[.val (.ref o), .val (.int v0)] [] := by first | (simp [entryFrame, mkF, argsToLocals, Value.category]; done) | rfl
def Q6 (M P : Nat → Int32) (sz : Int32) (v0 : Int32) (h0 : Heap) (n0 : Nat) (v : Option Value) (h : Heap) (L : List Loc) : Prop := v = some (.int (M v0.toNatClampNeg)) ∧ Fr n0 L ∧ h = h0
set_option maxRecDepth 65536 in
set_option maxHeartbeats 40000000 in
theorem rm6 (l : Launch) (Z : State) (a0 : Array Value) (hw : ∀ d ∈ tables_1, d.before a0 Z = true) (ws : List Jvm.Cond) (o : Addr) (v0 : Int32) (mm pp : Addr) (n : Nat) (M P : Nat → Int32) (sz : Int32) (h0 : Heap) (n0 : Nat) (Z0 : n0 ≤ h0.size) (E_o : Exa Z h0 o "com/example/slotwright/slotwright/problems/IndexSet") (F_members : Fld Z h0 o "com/example/slotwright/slotwright/problems/IndexSet" "members" "[I" (.ref mm)) (F_positions : Fld Z h0 o "com/example/slotwright/slotwright/problems/IndexSet" "positions" "[I" (.ref pp)) (F_size : Fld Z h0 o "com/example/slotwright/slotwright/problems/IndexSet" "size" "I" (.int sz)) (V_mm : AI Z h0 mm .int n M) (V_pp : AI Z h0 pp .int n P) (ne_om : o ≠ mm) (ne_op : o ≠ pp) (ne_mp : mm ≠ pp) (g_o : n0 ≤ o) (g_mm : n0 ≤ mm) (g_pp : n0 ≤ pp) (hv : 0 ≤ v0.toInt ∧ v0.toInt < n) :
    MetFree l (⟨"com/example/slotwright/slotwright/problems/IndexSet", "get", "(I)I"⟩ : MethodName) (head1 (Jvm.Cond.code (⟨"com/example/slotwright/slotwright/problems/IndexSet", "get", "(I)I"⟩ : MethodName) prog_12_method_3_code 2 (some .int) :: ws) ({ frames := 0, cells := 0, slots := 0, locals := 0 } : Room)) (fun ar' Ur => ar' = #[(.ref o), (.int v0)] ∧ Z.Warmed39 Ur.vm ∧ Ur.heap = h0) (fun _ _ _ _ _ => True) (fun _ Ur or' Us => ∃ v L, or' = .returned v ∧ Q6 M P sz v0 h0 n0 v Us.heap L ∧ FrameEnd Ur or' Us L 0 0) := by
  refine MetFree.of_bodySF (plainFor_of_name pn_1) hisR ?_
  intro p e s m args below meth c s₁ Bd hml0 hP hK
  obtain ⟨rfl, hZ, hh⟩ := hP
  have hx := Bd.exec
  have hby := Bd.bytes
  have hlk : meth.locks = false := BodyLoose.notSynchronized Bd
  have hml : c.maxLocals = 2 := hml0
  have hown : s.vm.findClass "com/example/slotwright/slotwright/problems/IndexSet" = some m.cls := findClass_of_methodNamed Bd.named
  have hnm := (name_of_methodNamed Bd.named Bd.method).1
  have X0 : Stand p l e ({ frames := 0, cells := 0, slots := 0, locals := 0 } : Room) s m #[(.ref o), (.int v0)] below meth c s₁ [] 0 0 := Stand.of_body Bd
  have e0 : s₁.heap = h0 := by rw [← hh, Bd.state]; rfl
  have N0 := Fr.nil n0
  show Goes p.tables e below s (Q6 M P sz v0 h0 n0) 0 0 (s₁.setTop (entryFrame m #[(.ref o), (.int v0)] 2))
  refine Goes.of (fun t k => castTop (ef_6 m o v0) k) ?_
  show Goes _ _ _ _ _ _ _ (s₁.setTop (mkF m 0 #[.val (.ref o), .val (.int v0)] []))
  refine Goes.of (fun t k => XS.aloadN X0.here hx rfl (hb hby d6_0) rfl rfl k) ?_
  show Goes _ _ _ _ _ _ _ (s₁.setTop (mkF m 1 #[.val (.ref o), .val (.int v0)] [(.ref o)]))
  obtain ⟨T85, X85, e85, st85⟩ := getF X0 hx hZ hown (host := "") (Or.inl (hw _ (List.mem_of_getElem? (i := 11) rfl))) Via.refl e0 F_members (g := (mkF m 1 #[.val (.ref o), .val (.int v0)] [(.ref o)])) rfl rfl (hb hby d6_1)
  refine Goes.of st85 ?_
  show Goes _ _ _ _ _ _ _ (T85.setTop (mkF m 4 #[.val (.ref o), .val (.int v0)] [(.ref mm)]))
  refine Goes.of (fun t k => XS.iloadN X85.here hx rfl (hb hby d6_4) rfl k) ?_
  show Goes _ _ _ _ _ _ _ (T85.setTop (mkF m 5 #[.val (.ref o), .val (.int v0)] [(.int v0), (.ref mm)]))
  refine Goes.of (fun t k => ldI X85 hx hZ e85 V_mm (j := v0) (i := v0.toNatClampNeg) (v := (M v0.toNatClampNeg)) (own_nn (by omega)) rfl (own_ltn (by omega) (by omega)) rfl (g := (mkF m 5 #[.val (.ref o), .val (.int v0)] [(.int v0), (.ref mm)])) rfl rfl (hb hby d6_5) t k) ?_
  show Goes _ _ _ _ _ _ _ (T85.setTop (mkF m 6 #[.val (.ref o), .val (.int v0)] [(.int (M v0.toNatClampNeg))]))
  exact Goes.fin X85 hlk (v := some (.int (M v0.toNatClampNeg))) (fun h => by rw [Bd.returns] at h; cases h) (fun fs hr => retI X85 hx Bd.returns (hb hby d6_6) hr) ⟨congrArg (fun z => some (Value.int z)) (rfl), N0, e85⟩ (by decide) (by decide)
theorem d7_0 : decode prog_12_method_4_code 0 = .ok (.aload_n 0, 1) := by decide +kernel
theorem d7_1 : decode prog_12_method_4_code 1 = .ok (.getfield 13, 3) := by decide +kernel
theorem d7_4 : decode prog_12_method_4_code 4 = .ok (.iload_n 1, 1) := by decide +kernel
theorem d7_5 : decode prog_12_method_4_code 5 = .ok (.iaload, 1) := by decide +kernel
theorem d7_6 : decode prog_12_method_4_code 6 = .ok (.ifCond .lt 7, 3) := by decide +kernel
theorem d7_9 : decode prog_12_method_4_code 9 = .ok (.iconst 1, 1) := by decide +kernel
theorem d7_10 : decode prog_12_method_4_code 10 = .ok (.goto 4, 3) := by decide +kernel
theorem d7_13 : decode prog_12_method_4_code 13 = .ok (.iconst 0, 1) := by decide +kernel
theorem d7_14 : decode prog_12_method_4_code 14 = .ok (.ireturn, 1) := by decide +kernel
theorem ef_7 (m : MethodId) (o : Addr) (v0 : Int32) : entryFrame m #[(.ref o), (.int v0)] 2 = mkF m 0 #[.val (.ref o), .val (.int v0)] [] := by first | (simp [entryFrame, mkF, argsToLocals, Value.category]; done) | rfl
def f7 (w : Int32) : Int32 :=
  (if w < (0 : Int32) then (0 : Int32)
  else (1 : Int32))
def Q7 (M P : Nat → Int32) (sz : Int32) (v0 : Int32) (h0 : Heap) (n0 : Nat) (v : Option Value) (h : Heap) (L : List Loc) : Prop := v = some (.int (f7 (P v0.toNatClampNeg))) ∧ Fr n0 L ∧ h = h0
set_option maxRecDepth 65536 in
set_option maxHeartbeats 40000000 in
theorem rm7 (l : Launch) (Z : State) (a0 : Array Value) (hw : ∀ d ∈ tables_1, d.before a0 Z = true) (ws : List Jvm.Cond) (o : Addr) (v0 : Int32) (mm pp : Addr) (n : Nat) (M P : Nat → Int32) (sz : Int32) (h0 : Heap) (n0 : Nat) (Z0 : n0 ≤ h0.size) (E_o : Exa Z h0 o "com/example/slotwright/slotwright/problems/IndexSet") (F_members : Fld Z h0 o "com/example/slotwright/slotwright/problems/IndexSet" "members" "[I" (.ref mm)) (F_positions : Fld Z h0 o "com/example/slotwright/slotwright/problems/IndexSet" "positions" "[I" (.ref pp)) (F_size : Fld Z h0 o "com/example/slotwright/slotwright/problems/IndexSet" "size" "I" (.int sz)) (V_mm : AI Z h0 mm .int n M) (V_pp : AI Z h0 pp .int n P) (ne_om : o ≠ mm) (ne_op : o ≠ pp) (ne_mp : mm ≠ pp) (g_o : n0 ≤ o) (g_mm : n0 ≤ mm) (g_pp : n0 ≤ pp) (hv : 0 ≤ v0.toInt ∧ v0.toInt < n) :
    MetFree l (⟨"com/example/slotwright/slotwright/problems/IndexSet", "contains", "(I)Z"⟩ : MethodName) (head1 (Jvm.Cond.code (⟨"com/example/slotwright/slotwright/problems/IndexSet", "contains", "(I)Z"⟩ : MethodName) prog_12_method_4_code 2 (some .boolean) :: ws) ({ frames := 0, cells := 0, slots := 0, locals := 0 } : Room)) (fun ar' Ur => ar' = #[(.ref o), (.int v0)] ∧ Z.Warmed39 Ur.vm ∧ Ur.heap = h0) (fun _ _ _ _ _ => True) (fun _ Ur or' Us => ∃ v L, or' = .returned v ∧ Q7 M P sz v0 h0 n0 v Us.heap L ∧ FrameEnd Ur or' Us L 0 0) := by
  refine MetFree.of_bodySF (plainFor_of_name pn_1) hisR ?_
  intro p e s m args below meth c s₁ Bd hml0 hP hK
  obtain ⟨rfl, hZ, hh⟩ := hP
  have hx := Bd.exec
  have hby := Bd.bytes
  have hlk : meth.locks = false := BodyLoose.notSynchronized Bd
  have hml : c.maxLocals = 2 := hml0
  have hown : s.vm.findClass "com/example/slotwright/slotwright/problems/IndexSet" = some m.cls := findClass_of_methodNamed Bd.named
  have hnm := (name_of_methodNamed Bd.named Bd.method).1
  have X0 : Stand p l e ({ frames := 0, cells := 0, slots := 0, locals := 0 } : Room) s m #[(.ref o), (.int v0)] below meth c s₁ [] 0 0 := Stand.of_body Bd
  have e0 : s₁.heap = h0 := by rw [← hh, Bd.state]; rfl
  have N0 := Fr.nil n0
  show Goes p.tables e below s (Q7 M P sz v0 h0 n0) 0 0 (s₁.setTop (entryFrame m #[(.ref o), (.int v0)] 2))
  refine Goes.of (fun t k => castTop (ef_7 m o v0) k) ?_
  show Goes _ _ _ _ _ _ _ (s₁.setTop (mkF m 0 #[.val (.ref o), .val (.int v0)] []))
  refine Goes.of (fun t k => XS.aloadN X0.here hx rfl (hb hby d7_0) rfl rfl k) ?_
  show Goes _ _ _ _ _ _ _ (s₁.setTop (mkF m 1 #[.val (.ref o), .val (.int v0)] [(.ref o)]))
  obtain ⟨T86, X86, e86, st86⟩ := getF X0 hx hZ hown (host := "") (Or.inl (hw _ (List.mem_of_getElem? (i := 13) rfl))) Via.refl e0 F_positions (g := (mkF m 1 #[.val (.ref o), .val (.int v0)] [(.ref o)])) rfl rfl (hb hby d7_1)
  refine Goes.of st86 ?_
  show Goes _ _ _ _ _ _ _ (T86.setTop (mkF m 4 #[.val (.ref o), .val (.int v0)] [(.ref pp)]))
  refine Goes.of (fun t k => XS.iloadN X86.here hx rfl (hb hby d7_4) rfl k) ?_
  show Goes _ _ _ _ _ _ _ (T86.setTop (mkF m 5 #[.val (.ref o), .val (.int v0)] [(.int v0), (.ref pp)]))
  refine Goes.of (fun t k => ldI X86 hx hZ e86 V_pp (j := v0) (i := v0.toNatClampNeg) (v := (P v0.toNatClampNeg)) (own_nn (by omega)) rfl (own_ltn (by omega) (by omega)) rfl (g := (mkF m 5 #[.val (.ref o), .val (.int v0)] [(.int v0), (.ref pp)])) rfl rfl (hb hby d7_5) t k) ?_
  show Goes _ _ _ _ _ _ _ (T86.setTop (mkF m 6 #[.val (.ref o), .val (.int v0)] [(.int (P v0.toNatClampNeg))]))
  by_cases hc87 : (P v0.toNatClampNeg) < (0 : Int32)
  · refine Goes.of (fun t k => XS.ifYes X86.here hx rfl (pc0 := 6) (pc' := 13) rfl (hb hby d7_6) rfl ((if0 _ _).trans (tlt hc87).1) (by decide) (by decide) k) ?_
    show Goes _ _ _ _ _ _ _ (T86.setTop (mkF m 13 #[.val (.ref o), .val (.int v0)] []))
    refine Goes.of (fun t k => XS.iconst X86.here hx rfl (hb hby d7_13) k) ?_
    show Goes _ _ _ _ _ _ _ (T86.setTop (mkF m 14 #[.val (.ref o), .val (.int v0)] [(.int (0 : Int32))]))
    exact Goes.fin X86 hlk (v := some (.int (0 : Int32))) (fun h => by rw [Bd.returns] at h; cases h) (fun fs hr => retN X86 hx (t := .boolean) Bd.returns (by simp) (hb hby d7_14) hr) ⟨congrArg (fun z => some (Value.int z)) (by rw [f7, if_pos hc87]), N0, e86⟩ (by decide) (by decide)
  · refine Goes.of (fun t k => XS.ifNo X86.here hx rfl (hb hby d7_6) rfl ((if0 _ _).trans (flt hc87).1) k) ?_
    show Goes _ _ _ _ _ _ _ (T86.setTop (mkF m 9 #[.val (.ref o), .val (.int v0)] []))
    refine Goes.of (fun t k => XS.iconst X86.here hx rfl (hb hby d7_9) k) ?_
    show Goes _ _ _ _ _ _ _ (T86.setTop (mkF m 10 #[.val (.ref o), .val (.int v0)] [(.int (1 : Int32))]))
    refine Goes.of (fun t k => XS.goto X86.here hx rfl (pc0 := 10) (pc' := 14) rfl (hb hby d7_10) (by decide) (by decide) k) ?_
    show Goes _ _ _ _ _ _ _ (T86.setTop (mkF m 14 #[.val (.ref o), .val (.int v0)] [(.int (1 : Int32))]))
    exact Goes.fin X86 hlk (v := some (.int (1 : Int32))) (fun h => by rw [Bd.returns] at h; cases h) (fun fs hr => retN X86 hx (t := .boolean) Bd.returns (by simp) (hb hby d7_14) hr) ⟨congrArg (fun z => some (Value.int z)) (by rw [f7, if_neg hc87]), N0, e86⟩ (by decide) (by decide)
theorem own_rem (u y : Int32) (hy : 0 < y.toInt) : 0 ≤ ((u &&& (2147483647 : Int32)) % y).toInt ∧ ((u &&& (2147483647 : Int32)) % y).toInt < y.toInt := by
  have m := c_and u 2147483647 (by decide)
  have k := (c_iremV (u &&& 2147483647) y).1 m.1 hy
  exact ⟨k.1, k.2.1⟩
theorem own_z (u : Int32) : 2 ≤ ((u &&& (7 : Int32)) + (2 : Int32)).toInt ∧ ((u &&& (7 : Int32)) + (2 : Int32)).toInt ≤ 9 := by
  have m := c_and u 7 (by decide)
  have a := c_iadd (u &&& 7) 2
  have r := rng32 ((u &&& (7 : Int32)) + 2)
  rw [show (2 : Int32).toInt = 2 from rfl] at a
  rw [show (7 : Int32).toInt = 7 from rfl] at m
  omega
theorem own_pos {y : Int32} (h : 0 < y.toInt) : y ≠ 0 := fun q => by rw [q] at h; exact absurd h (by decide)
theorem own_sub1 {z : Int32} (h : 2 ≤ z.toInt ∧ z.toInt ≤ 9) : (z - (1 : Int32)).toInt = z.toInt - 1 := by
  have a := c_isub z 1
  have r := rng32 (z - 1)
  rw [show (1 : Int32).toInt = 1 from rfl] at a
  omega
theorem own_bb {z a u b : Int32} (hz : 2 ≤ z.toInt ∧ z.toInt ≤ 9) (ha : 0 ≤ a.toInt ∧ a.toInt < z.toInt) (e : b = (((a + (1 : Int32)) + ((u &&& (2147483647 : Int32)) % (z - (1 : Int32)))) % z)) : 0 ≤ b.toInt ∧ b.toInt < z.toInt ∧ b.toInt ≠ a.toInt := by
  have s1 := own_sub1 hz
  have w := own_rem u (z - 1) (by omega)
  have a1 := c_iadd a 1
  have a2 := c_iadd (a + 1) ((u &&& (2147483647 : Int32)) % (z - 1))
  have r1 := rng32 (a + 1)
  have r2 := rng32 ((a + 1) + ((u &&& (2147483647 : Int32)) % (z - 1)))
  rw [show (1 : Int32).toInt = 1 from rfl] at a1
  have k := (c_iremV ((a + 1) + ((u &&& (2147483647 : Int32)) % (z - 1))) z).1 (by omega) (by omega)
  rw [← e] at k
  obtain ⟨k1, k2, k3, k4, k5⟩ := k
  by_cases q : ((a + 1) + ((u &&& (2147483647 : Int32)) % (z - 1))).toInt < z.toInt
  · have := k4 q; omega
  · have := k5 (by omega) (by omega); omega
theorem own_natne {a b : Int32} (ha : 0 ≤ a.toInt) (hB : 0 ≤ b.toInt) (h : a.toInt ≠ b.toInt) : a.toNatClampNeg ≠ b.toNatClampNeg := fun q => by
  have := nat_of (own_nn ha); have := nat_of (own_nn hB); omega
theorem own_ct {a b d : Int32} (ha : 0 ≤ a.toInt) (hB : 0 ≤ b.toInt) (hd : 0 ≤ d.toInt) (hab : b.toInt ≠ a.toInt) {w : Int32} (hw : w = 1) :
    f7 ((upd (upd (fun _ => (-1 : Int32)) a.toNatClampNeg (0 : Int32)) b.toNatClampNeg w) d.toNatClampNeg) = if d = a then 1 else if d = b then 1 else 0 := by
  subst hw
  by_cases q1 : d = a
  · subst q1
    rw [if_pos rfl]
    have : (upd (upd (fun _ => (-1 : Int32)) d.toNatClampNeg (0 : Int32)) b.toNatClampNeg 1) d.toNatClampNeg = 0 := (if_neg (own_natne ha hB (Ne.symm hab))).trans (if_pos rfl)
    rw [this]; rfl
  · rw [if_neg q1]
    by_cases q2 : d = b
    · subst q2
      rw [if_pos rfl]
      have : (upd (upd (fun _ => (-1 : Int32)) a.toNatClampNeg (0 : Int32)) d.toNatClampNeg 1) d.toNatClampNeg = 1 := if_pos rfl
      rw [this]; rfl
    · rw [if_neg q2]
      have : (upd (upd (fun _ => (-1 : Int32)) a.toNatClampNeg (0 : Int32)) b.toNatClampNeg 1) d.toNatClampNeg = -1 := (if_neg (own_natne hd hB (own_neI q2))).trans (if_neg (own_natne hd ha (own_neI q1)))
      rw [this]; rfl
theorem pn_2 : plainName "com/example/slotwright/slotwright/problems/IndexSetAddPinLaw" = true := by first | (simp [plainName, overriddenIn]; done) | decide +kernel
theorem pd_2 : parseMethodDescriptor "(I)V" = some ⟨[.int], none⟩ := by decide +kernel
theorem pd_3 : parseMethodDescriptor "()I" = some ⟨[], some .int⟩ := by decide +kernel
theorem pd_4 : parseMethodDescriptor "(I)I" = some ⟨[.int], some .int⟩ := by decide +kernel
theorem pd_5 : parseMethodDescriptor "(I)Z" = some ⟨[.int], some .boolean⟩ := by decide +kernel
theorem ef_0 (m : MethodId) (u0 : Int32) (u1 : Int32) (u2 : Int32) (u3 : Int32) : entryFrame m #[(.int u0), (.int u1), (.int u2), (.int u3)] maxLocals = mkF m 0 #[.val (.int u0), .val (.int u1), .val (.int u2), .val (.int u3), .unset, .unset, .unset, .unset, .unset, .unset] [] := by first | (simp [entryFrame, mkF, argsToLocals, Value.category, maxLocals]; done) | rfl
def Q0 (n0 : Nat) (v : Option Value) (h : Heap) (L : List Loc) : Prop := v = some (.int 1) ∧ Fr n0 L
set_option maxRecDepth 65536 in
set_option maxHeartbeats 40000000 in
theorem rm0 (l : Launch) (Z : State) (a0 : Array Value) (hw : ∀ d ∈ tables_1, d.before a0 Z = true) (ws : List Jvm.Cond) (u0 : Int32) (u1 : Int32) (u2 : Int32) (u3 : Int32) (h0 : Heap) (n0 : Nat) (Z0 : n0 ≤ h0.size) :
    MetFree l x (head1 (Jvm.Cond.code x code maxLocals ret :: ws) room_1) (fun ar' Ur => ar' = #[(.int u0), (.int u1), (.int u2), (.int u3)] ∧ Z.Warmed39 Ur.vm ∧ Ur.heap = h0) (fun _ _ _ _ _ => True) (fun _ Ur or' Us => ∃ v L, or' = .returned v ∧ Q0 n0 v Us.heap L ∧ FrameEnd Ur or' Us L room_1.cells room_1.slots) := by
  refine MetFree.of_bodySF (plainFor_of_name pn_2) hisR ?_
  intro p e s m args below meth c s₁ Bd hml0 hP hK
  obtain ⟨rfl, hZ, hh⟩ := hP
  have hx := Bd.exec
  have hby := Bd.bytes
  have hlk : meth.locks = false := BodyLoose.notSynchronized Bd
  have hml : c.maxLocals = 10 := hml0
  have hown : s.vm.findClass "com/example/slotwright/slotwright/problems/IndexSetAddPinLaw" = some m.cls := findClass_of_methodNamed Bd.named
  have hnm := (name_of_methodNamed Bd.named Bd.method).1
  have X0 : Stand p l e room_1 s m #[(.int u0), (.int u1), (.int u2), (.int u3)] below meth c s₁ [] 0 0 := Stand.of_body Bd
  have e0 : s₁.heap = h0 := by rw [← hh, Bd.state]; rfl
  have N0 := Fr.nil n0
  show Goes p.tables e below s (Q0 n0) room_1.cells room_1.slots (s₁.setTop (entryFrame m #[(.int u0), (.int u1), (.int u2), (.int u3)] maxLocals))
  refine Goes.of (fun t k => castTop (ef_0 m u0 u1 u2 u3) k) ?_
  show Goes _ _ _ _ _ _ _ (s₁.setTop (mkF m 0 #[.val (.int u0), .val (.int u1), .val (.int u2), .val (.int u3), .unset, .unset, .unset, .unset, .unset, .unset] []))
  refine Goes.of (fun t k => XS.iloadN X0.here hx rfl (hb hby at_0) rfl k) ?_
  show Goes _ _ _ _ _ _ _ (s₁.setTop (mkF m 1 #[.val (.int u0), .val (.int u1), .val (.int u2), .val (.int u3), .unset, .unset, .unset, .unset, .unset, .unset] [(.int u0)]))
  refine Goes.of (fun t k => XS.bipush X0.here hx rfl (hb hby at_1) k) ?_
  show Goes _ _ _ _ _ _ _ (s₁.setTop (mkF m 3 #[.val (.int u0), .val (.int u1), .val (.int u2), .val (.int u3), .unset, .unset, .unset, .unset, .unset, .unset] [(.int (7 : Int32)), (.int u0)]))
  refine Goes.of (fun t k => XS.iand X0.here hx rfl (hb hby at_3) rfl k) ?_
  show Goes _ _ _ _ _ _ _ (s₁.setTop (mkF m 4 #[.val (.int u0), .val (.int u1), .val (.int u2), .val (.int u3), .unset, .unset, .unset, .unset, .unset, .unset] [(.int (u0 &&& (7 : Int32)))]))
  refine Goes.of (fun t k => XS.iconst X0.here hx rfl (hb hby at_4) k) ?_
  show Goes _ _ _ _ _ _ _ (s₁.setTop (mkF m 5 #[.val (.int u0), .val (.int u1), .val (.int u2), .val (.int u3), .unset, .unset, .unset, .unset, .unset, .unset] [(.int (2 : Int32)), (.int (u0 &&& (7 : Int32)))]))
  refine Goes.of (fun t k => XS.iadd X0.here hx rfl (hb hby at_5) rfl k) ?_
  show Goes _ _ _ _ _ _ _ (s₁.setTop (mkF m 6 #[.val (.int u0), .val (.int u1), .val (.int u2), .val (.int u3), .unset, .unset, .unset, .unset, .unset, .unset] [(.int ((u0 &&& (7 : Int32)) + (2 : Int32)))]))
  refine Goes.of (fun t k => XS.istore X0.here hx rfl (hb hby at_6) rfl (l' := #[.val (.int u0), .val (.int u1), .val (.int u2), .val (.int u3), .val (.int ((u0 &&& (7 : Int32)) + (2 : Int32))), .unset, .unset, .unset, .unset, .unset]) rfl k) ?_
  show Goes _ _ _ _ _ _ _ (s₁.setTop (mkF m 8 #[.val (.int u0), .val (.int u1), .val (.int u2), .val (.int u3), .val (.int ((u0 &&& (7 : Int32)) + (2 : Int32))), .unset, .unset, .unset, .unset, .unset] []))
  obtain ⟨zz, hy_zz⟩ : ∃ z, z = ((u0 &&& (7 : Int32)) + (2 : Int32)) := ⟨_, rfl⟩
  rw [← hy_zz]
  show Goes _ _ _ _ _ _ _ (s₁.setTop (mkF m 8 #[.val (.int u0), .val (.int u1), .val (.int u2), .val (.int u3), .val (.int zz), .unset, .unset, .unset, .unset, .unset] []))
  have hz2 := own_z u0
  rw [← hy_zz] at hz2
  obtain ⟨n, hz⟩ : ∃ n : Nat, zz.toInt = n := ⟨zz.toNatClampNeg, nat_of (own_nn (by omega))⟩
  refine Goes.of (fun t k => XS.iloadN X0.here hx rfl (hb hby at_8) rfl k) ?_
  show Goes _ _ _ _ _ _ _ (s₁.setTop (mkF m 9 #[.val (.int u0), .val (.int u1), .val (.int u2), .val (.int u3), .val (.int zz), .unset, .unset, .unset, .unset, .unset] [(.int u1)]))
  refine Goes.of (fun t k => X0.ldcInt hx hown (mvT hZ (hw _ (List.mem_of_getElem? (i := 0) rfl))) (g := (mkF m 9 #[.val (.int u0), .val (.int u1), .val (.int u2), .val (.int u3), .val (.int zz), .unset, .unset, .unset, .unset, .unset] [(.int u1)])) rfl (hb hby at_9) t k) ?_
  show Goes _ _ _ _ _ _ _ (s₁.setTop (mkF m 11 #[.val (.int u0), .val (.int u1), .val (.int u2), .val (.int u3), .val (.int zz), .unset, .unset, .unset, .unset, .unset] [(.int (2147483647 : Int32)), (.int u1)]))
  refine Goes.of (fun t k => XS.iand X0.here hx rfl (hb hby at_11) rfl k) ?_
  show Goes _ _ _ _ _ _ _ (s₁.setTop (mkF m 12 #[.val (.int u0), .val (.int u1), .val (.int u2), .val (.int u3), .val (.int zz), .unset, .unset, .unset, .unset, .unset] [(.int (u1 &&& (2147483647 : Int32)))]))
  refine Goes.of (fun t k => XS.iload X0.here hx rfl (hb hby at_12) rfl k) ?_
  show Goes _ _ _ _ _ _ _ (s₁.setTop (mkF m 14 #[.val (.int u0), .val (.int u1), .val (.int u2), .val (.int u3), .val (.int zz), .unset, .unset, .unset, .unset, .unset] [(.int zz), (.int (u1 &&& (2147483647 : Int32)))]))
  refine Goes.of (fun t k => iremM X0 hx (g := (mkF m 14 #[.val (.int u0), .val (.int u1), .val (.int u2), .val (.int u3), .val (.int zz), .unset, .unset, .unset, .unset, .unset] [(.int zz), (.int (u1 &&& (2147483647 : Int32)))])) rfl (hb hby at_14) rfl (own_pos (by omega)) k) ?_
  show Goes _ _ _ _ _ _ _ (s₁.setTop (mkF m 15 #[.val (.int u0), .val (.int u1), .val (.int u2), .val (.int u3), .val (.int zz), .unset, .unset, .unset, .unset, .unset] [(.int ((u1 &&& (2147483647 : Int32)) % zz))]))
  refine Goes.of (fun t k => XS.istore X0.here hx rfl (hb hby at_15) rfl (l' := #[.val (.int u0), .val (.int u1), .val (.int u2), .val (.int u3), .val (.int zz), .val (.int ((u1 &&& (2147483647 : Int32)) % zz)), .unset, .unset, .unset, .unset]) rfl k) ?_
  show Goes _ _ _ _ _ _ _ (s₁.setTop (mkF m 17 #[.val (.int u0), .val (.int u1), .val (.int u2), .val (.int u3), .val (.int zz), .val (.int ((u1 &&& (2147483647 : Int32)) % zz)), .unset, .unset, .unset, .unset] []))
  obtain ⟨aa, hy_aa⟩ : ∃ z, z = ((u1 &&& (2147483647 : Int32)) % zz) := ⟨_, rfl⟩
  rw [← hy_aa]
  show Goes _ _ _ _ _ _ _ (s₁.setTop (mkF m 17 #[.val (.int u0), .val (.int u1), .val (.int u2), .val (.int u3), .val (.int zz), .val (.int aa), .unset, .unset, .unset, .unset] []))
  have ha := own_rem u1 zz (by omega)
  rw [← hy_aa] at ha
  refine Goes.of (fun t k => XS.iload X0.here hx rfl (hb hby at_17) rfl k) ?_
  show Goes _ _ _ _ _ _ _ (s₁.setTop (mkF m 19 #[.val (.int u0), .val (.int u1), .val (.int u2), .val (.int u3), .val (.int zz), .val (.int aa), .unset, .unset, .unset, .unset] [(.int aa)]))
  refine Goes.of (fun t k => XS.iconst X0.here hx rfl (hb hby at_19) k) ?_
  show Goes _ _ _ _ _ _ _ (s₁.setTop (mkF m 20 #[.val (.int u0), .val (.int u1), .val (.int u2), .val (.int u3), .val (.int zz), .val (.int aa), .unset, .unset, .unset, .unset] [(.int (1 : Int32)), (.int aa)]))
  refine Goes.of (fun t k => XS.iadd X0.here hx rfl (hb hby at_20) rfl k) ?_
  show Goes _ _ _ _ _ _ _ (s₁.setTop (mkF m 21 #[.val (.int u0), .val (.int u1), .val (.int u2), .val (.int u3), .val (.int zz), .val (.int aa), .unset, .unset, .unset, .unset] [(.int (aa + (1 : Int32)))]))
  refine Goes.of (fun t k => XS.iloadN X0.here hx rfl (hb hby at_21) rfl k) ?_
  show Goes _ _ _ _ _ _ _ (s₁.setTop (mkF m 22 #[.val (.int u0), .val (.int u1), .val (.int u2), .val (.int u3), .val (.int zz), .val (.int aa), .unset, .unset, .unset, .unset] [(.int u2), (.int (aa + (1 : Int32)))]))
  refine Goes.of (fun t k => X0.ldcInt hx hown (mvT hZ (hw _ (List.mem_of_getElem? (i := 0) rfl))) (g := (mkF m 22 #[.val (.int u0), .val (.int u1), .val (.int u2), .val (.int u3), .val (.int zz), .val (.int aa), .unset, .unset, .unset, .unset] [(.int u2), (.int (aa + (1 : Int32)))])) rfl (hb hby at_22) t k) ?_
  show Goes _ _ _ _ _ _ _ (s₁.setTop (mkF m 24 #[.val (.int u0), .val (.int u1), .val (.int u2), .val (.int u3), .val (.int zz), .val (.int aa), .unset, .unset, .unset, .unset] [(.int (2147483647 : Int32)), (.int u2), (.int (aa + (1 : Int32)))]))
  refine Goes.of (fun t k => XS.iand X0.here hx rfl (hb hby at_24) rfl k) ?_
  show Goes _ _ _ _ _ _ _ (s₁.setTop (mkF m 25 #[.val (.int u0), .val (.int u1), .val (.int u2), .val (.int u3), .val (.int zz), .val (.int aa), .unset, .unset, .unset, .unset] [(.int (u2 &&& (2147483647 : Int32))), (.int (aa + (1 : Int32)))]))
  refine Goes.of (fun t k => XS.iload X0.here hx rfl (hb hby at_25) rfl k) ?_
  show Goes _ _ _ _ _ _ _ (s₁.setTop (mkF m 27 #[.val (.int u0), .val (.int u1), .val (.int u2), .val (.int u3), .val (.int zz), .val (.int aa), .unset, .unset, .unset, .unset] [(.int zz), (.int (u2 &&& (2147483647 : Int32))), (.int (aa + (1 : Int32)))]))
  refine Goes.of (fun t k => XS.iconst X0.here hx rfl (hb hby at_27) k) ?_
  show Goes _ _ _ _ _ _ _ (s₁.setTop (mkF m 28 #[.val (.int u0), .val (.int u1), .val (.int u2), .val (.int u3), .val (.int zz), .val (.int aa), .unset, .unset, .unset, .unset] [(.int (1 : Int32)), (.int zz), (.int (u2 &&& (2147483647 : Int32))), (.int (aa + (1 : Int32)))]))
  refine Goes.of (fun t k => XS.isub X0.here hx rfl (hb hby at_28) rfl k) ?_
  show Goes _ _ _ _ _ _ _ (s₁.setTop (mkF m 29 #[.val (.int u0), .val (.int u1), .val (.int u2), .val (.int u3), .val (.int zz), .val (.int aa), .unset, .unset, .unset, .unset] [(.int (zz - (1 : Int32))), (.int (u2 &&& (2147483647 : Int32))), (.int (aa + (1 : Int32)))]))
  refine Goes.of (fun t k => iremM X0 hx (g := (mkF m 29 #[.val (.int u0), .val (.int u1), .val (.int u2), .val (.int u3), .val (.int zz), .val (.int aa), .unset, .unset, .unset, .unset] [(.int (zz - (1 : Int32))), (.int (u2 &&& (2147483647 : Int32))), (.int (aa + (1 : Int32)))])) rfl (hb hby at_29) rfl (own_pos (by rw [own_sub1 hz2]; omega)) k) ?_
  show Goes _ _ _ _ _ _ _ (s₁.setTop (mkF m 30 #[.val (.int u0), .val (.int u1), .val (.int u2), .val (.int u3), .val (.int zz), .val (.int aa), .unset, .unset, .unset, .unset] [(.int ((u2 &&& (2147483647 : Int32)) % (zz - (1 : Int32)))), (.int (aa + (1 : Int32)))]))
  refine Goes.of (fun t k => XS.iadd X0.here hx rfl (hb hby at_30) rfl k) ?_
  show Goes _ _ _ _ _ _ _ (s₁.setTop (mkF m 31 #[.val (.int u0), .val (.int u1), .val (.int u2), .val (.int u3), .val (.int zz), .val (.int aa), .unset, .unset, .unset, .unset] [(.int ((aa + (1 : Int32)) + ((u2 &&& (2147483647 : Int32)) % (zz - (1 : Int32)))))]))
  refine Goes.of (fun t k => XS.iload X0.here hx rfl (hb hby at_31) rfl k) ?_
  show Goes _ _ _ _ _ _ _ (s₁.setTop (mkF m 33 #[.val (.int u0), .val (.int u1), .val (.int u2), .val (.int u3), .val (.int zz), .val (.int aa), .unset, .unset, .unset, .unset] [(.int zz), (.int ((aa + (1 : Int32)) + ((u2 &&& (2147483647 : Int32)) % (zz - (1 : Int32)))))]))
  refine Goes.of (fun t k => iremM X0 hx (g := (mkF m 33 #[.val (.int u0), .val (.int u1), .val (.int u2), .val (.int u3), .val (.int zz), .val (.int aa), .unset, .unset, .unset, .unset] [(.int zz), (.int ((aa + (1 : Int32)) + ((u2 &&& (2147483647 : Int32)) % (zz - (1 : Int32)))))])) rfl (hb hby at_33) rfl (own_pos (by omega)) k) ?_
  show Goes _ _ _ _ _ _ _ (s₁.setTop (mkF m 34 #[.val (.int u0), .val (.int u1), .val (.int u2), .val (.int u3), .val (.int zz), .val (.int aa), .unset, .unset, .unset, .unset] [(.int (((aa + (1 : Int32)) + ((u2 &&& (2147483647 : Int32)) % (zz - (1 : Int32)))) % zz))]))
  refine Goes.of (fun t k => XS.istore X0.here hx rfl (hb hby at_34) rfl (l' := #[.val (.int u0), .val (.int u1), .val (.int u2), .val (.int u3), .val (.int zz), .val (.int aa), .val (.int (((aa + (1 : Int32)) + ((u2 &&& (2147483647 : Int32)) % (zz - (1 : Int32)))) % zz)), .unset, .unset, .unset]) rfl k) ?_
  show Goes _ _ _ _ _ _ _ (s₁.setTop (mkF m 36 #[.val (.int u0), .val (.int u1), .val (.int u2), .val (.int u3), .val (.int zz), .val (.int aa), .val (.int (((aa + (1 : Int32)) + ((u2 &&& (2147483647 : Int32)) % (zz - (1 : Int32)))) % zz)), .unset, .unset, .unset] []))
  obtain ⟨bb, hy_bb⟩ : ∃ z, z = (((aa + (1 : Int32)) + ((u2 &&& (2147483647 : Int32)) % (zz - (1 : Int32)))) % zz) := ⟨_, rfl⟩
  rw [← hy_bb]
  show Goes _ _ _ _ _ _ _ (s₁.setTop (mkF m 36 #[.val (.int u0), .val (.int u1), .val (.int u2), .val (.int u3), .val (.int zz), .val (.int aa), .val (.int bb), .unset, .unset, .unset] []))
  have hB := own_bb hz2 ha hy_bb
  refine Goes.of (fun t k => XS.iloadN X0.here hx rfl (hb hby at_36) rfl k) ?_
  show Goes _ _ _ _ _ _ _ (s₁.setTop (mkF m 37 #[.val (.int u0), .val (.int u1), .val (.int u2), .val (.int u3), .val (.int zz), .val (.int aa), .val (.int bb), .unset, .unset, .unset] [(.int u3)]))
  refine Goes.of (fun t k => X0.ldcInt hx hown (mvT hZ (hw _ (List.mem_of_getElem? (i := 0) rfl))) (g := (mkF m 37 #[.val (.int u0), .val (.int u1), .val (.int u2), .val (.int u3), .val (.int zz), .val (.int aa), .val (.int bb), .unset, .unset, .unset] [(.int u3)])) rfl (hb hby at_37) t k) ?_
  show Goes _ _ _ _ _ _ _ (s₁.setTop (mkF m 39 #[.val (.int u0), .val (.int u1), .val (.int u2), .val (.int u3), .val (.int zz), .val (.int aa), .val (.int bb), .unset, .unset, .unset] [(.int (2147483647 : Int32)), (.int u3)]))
  refine Goes.of (fun t k => XS.iand X0.here hx rfl (hb hby at_39) rfl k) ?_
  show Goes _ _ _ _ _ _ _ (s₁.setTop (mkF m 40 #[.val (.int u0), .val (.int u1), .val (.int u2), .val (.int u3), .val (.int zz), .val (.int aa), .val (.int bb), .unset, .unset, .unset] [(.int (u3 &&& (2147483647 : Int32)))]))
  refine Goes.of (fun t k => XS.iload X0.here hx rfl (hb hby at_40) rfl k) ?_
  show Goes _ _ _ _ _ _ _ (s₁.setTop (mkF m 42 #[.val (.int u0), .val (.int u1), .val (.int u2), .val (.int u3), .val (.int zz), .val (.int aa), .val (.int bb), .unset, .unset, .unset] [(.int zz), (.int (u3 &&& (2147483647 : Int32)))]))
  refine Goes.of (fun t k => iremM X0 hx (g := (mkF m 42 #[.val (.int u0), .val (.int u1), .val (.int u2), .val (.int u3), .val (.int zz), .val (.int aa), .val (.int bb), .unset, .unset, .unset] [(.int zz), (.int (u3 &&& (2147483647 : Int32)))])) rfl (hb hby at_42) rfl (own_pos (by omega)) k) ?_
  show Goes _ _ _ _ _ _ _ (s₁.setTop (mkF m 43 #[.val (.int u0), .val (.int u1), .val (.int u2), .val (.int u3), .val (.int zz), .val (.int aa), .val (.int bb), .unset, .unset, .unset] [(.int ((u3 &&& (2147483647 : Int32)) % zz))]))
  refine Goes.of (fun t k => XS.istore X0.here hx rfl (hb hby at_43) rfl (l' := #[.val (.int u0), .val (.int u1), .val (.int u2), .val (.int u3), .val (.int zz), .val (.int aa), .val (.int bb), .val (.int ((u3 &&& (2147483647 : Int32)) % zz)), .unset, .unset]) rfl k) ?_
  show Goes _ _ _ _ _ _ _ (s₁.setTop (mkF m 45 #[.val (.int u0), .val (.int u1), .val (.int u2), .val (.int u3), .val (.int zz), .val (.int aa), .val (.int bb), .val (.int ((u3 &&& (2147483647 : Int32)) % zz)), .unset, .unset] []))
  obtain ⟨dd, hy_dd⟩ : ∃ z, z = ((u3 &&& (2147483647 : Int32)) % zz) := ⟨_, rfl⟩
  rw [← hy_dd]
  show Goes _ _ _ _ _ _ _ (s₁.setTop (mkF m 45 #[.val (.int u0), .val (.int u1), .val (.int u2), .val (.int u3), .val (.int zz), .val (.int aa), .val (.int bb), .val (.int dd), .unset, .unset] []))
  have hd := own_rem u3 zz (by omega)
  rw [← hy_dd] at hd
  obtain ⟨T88, h88, X88, e88, E88, A88, D88, -, st88⟩ := newO X0 hx hZ hown (hw _ (List.mem_of_getElem? (i := 1) rfl)) (hw _ (List.mem_of_getElem? (i := 2) rfl)) (hw _ (List.mem_of_getElem? (i := 3) rfl)) e0 (g := (mkF m 45 #[.val (.int u0), .val (.int u1), .val (.int u2), .val (.int u3), .val (.int zz), .val (.int aa), .val (.int bb), .val (.int dd), .unset, .unset] [])) rfl (hb hby at_45) (by decide) (by decide)
  obtain ⟨b88, g88⟩ : ∃ z, z = h0.size := ⟨_, rfl⟩
  rw [← g88] at A88 D88 st88
  have g_b88 : n0 ≤ b88 := Nat.le_trans Z0 (Nat.le_of_eq g88.symm)
  have Z88 : n0 ≤ h88.size := Nat.le_trans Z0 E88.1
  have F_members_b88 : Fld Z h88 b88 "com/example/slotwright/slotwright/problems/IndexSet" "members" "[I" .null := D88 (Or.inr (hw _ (List.mem_of_getElem? (i := 12) rfl))) (ty := (.array .int)) (by decide)
  have F_positions_b88 : Fld Z h88 b88 "com/example/slotwright/slotwright/problems/IndexSet" "positions" "[I" .null := D88 (Or.inr (hw _ (List.mem_of_getElem? (i := 14) rfl))) (ty := (.array .int)) (by decide)
  have F_size_b88 : Fld Z h88 b88 "com/example/slotwright/slotwright/problems/IndexSet" "size" "I" (.int (0 : Int32)) := D88 (Or.inl (hw _ (List.mem_of_getElem? (i := 25) rfl))) (ty := .int) (by decide)
  refine Goes.of st88 ?_
  show Goes _ _ _ _ _ _ _ (T88.setTop (mkF m 48 #[.val (.int u0), .val (.int u1), .val (.int u2), .val (.int u3), .val (.int zz), .val (.int aa), .val (.int bb), .val (.int dd), .unset, .unset] [(.ref b88)]))
  refine Goes.of (fun t k => XS.dup X88.here hx rfl (hb hby at_48) rfl rfl k) ?_
  show Goes _ _ _ _ _ _ _ (T88.setTop (mkF m 49 #[.val (.int u0), .val (.int u1), .val (.int u2), .val (.int u3), .val (.int zz), .val (.int aa), .val (.int bb), .val (.int dd), .unset, .unset] [(.ref b88), (.ref b88)]))
  refine Goes.of (fun t k => XS.iload X88.here hx rfl (hb hby at_49) rfl k) ?_
  show Goes _ _ _ _ _ _ _ (T88.setTop (mkF m 51 #[.val (.int u0), .val (.int u1), .val (.int u2), .val (.int u3), .val (.int zz), .val (.int aa), .val (.int bb), .val (.int dd), .unset, .unset] [(.int zz), (.ref b88), (.ref b88)]))
  obtain ⟨_, _, ⟨T89, L89, k89, n89⟩, -, X89, ⟨Lc89, hQ89, l89, y89, z89⟩, st89⟩ := X88.specialBack hx (y := (⟨"com/example/slotwright/slotwright/problems/IndexSet", "<init>", "(I)V"⟩ : MethodName)) rfl hown (mvT hZ (hw _ (List.mem_of_getElem? (i := 4) rfl))) (mvT hZ (hw _ (List.mem_of_getElem? (i := 5) rfl))) (mvT hZ (hw _ (List.mem_of_getElem? (i := 6) rfl))) (by decide) (backOf (W := 1) (rm1 l Z a0 hw [] b88 zz n h88 n0 Z88 A88 F_members_b88 F_positions_b88 F_size_b88 g_b88 hz (by omega)) hZ (hw _ (List.mem_of_getElem? (i := 6) rfl)) (hw _ (List.mem_of_getElem? (i := 3) rfl)) (by decide) (by decide)) (g := (mkF m 51 #[.val (.int u0), .val (.int u1), .val (.int u2), .val (.int u3), .val (.int zz), .val (.int aa), .val (.int bb), .val (.int dd), .unset, .unset] [(.int zz), (.ref b88), (.ref b88)])) rfl (by rw [hml]; rfl) (Steps.refl _) (a := b88) (argsL := [(.int zz)]) (rest := [(.ref b88)]) (lenOf pd_2 rfl) rfl (by show 2 * 0 + _ ≤ _; exact Nat.le_of_eq rfl) (hb hby at_51) (fun _ _ => ⟨rfl, e88, (by decide : 1 + 2 ≤ _), (by decide : 3 + 18 ≤ _)⟩)
  dsimp only [Pt.U, Pt.locs, Pt.cells, Pt.slots] at X89 l89 y89 z89 st89 hQ89
  subst l89 y89 z89
  obtain ⟨rfl, N89q, mm89, pp89, K89, szm89, szp89, ne_mm89_pp89, Eo89, Fm89, Fp89, Fs89, Vm89, Vp89⟩ := hQ89
  have ne_b88_mm89 : b88 ≠ mm89 := Nat.ne_of_lt (Nat.lt_of_lt_of_le A88.lt szm89)
  have g_mm89 : n0 ≤ mm89 := Nat.le_trans Z88 szm89
  have ne_b88_pp89 : b88 ≠ pp89 := Nat.ne_of_lt (Nat.lt_of_lt_of_le A88.lt szp89)
  have g_pp89 : n0 ≤ pp89 := Nat.le_trans Z88 szp89
  have F90 := A88.keep K89
  have Z89 : n0 ≤ T89.heap.size := Nat.le_trans Z88 K89.1
  have N89 := Fr.app N0 N89q
  refine Goes.of (fun t k => st89.trans k) ?_
  show Goes _ _ _ _ _ _ _ (T89.setTop (mkF m 54 #[.val (.int u0), .val (.int u1), .val (.int u2), .val (.int u3), .val (.int zz), .val (.int aa), .val (.int bb), .val (.int dd), .unset, .unset] [(.ref b88)]))
  refine Goes.of (fun t k => XS.astore X89.here hx rfl (hb hby at_54) rfl rfl (l' := #[.val (.int u0), .val (.int u1), .val (.int u2), .val (.int u3), .val (.int zz), .val (.int aa), .val (.int bb), .val (.int dd), .val (.ref b88), .unset]) rfl k) ?_
  show Goes _ _ _ _ _ _ _ (T89.setTop (mkF m 56 #[.val (.int u0), .val (.int u1), .val (.int u2), .val (.int u3), .val (.int zz), .val (.int aa), .val (.int bb), .val (.int dd), .val (.ref b88), .unset] []))
  refine Goes.of (fun t k => XS.aload X89.here hx rfl (hb hby at_56) rfl rfl k) ?_
  show Goes _ _ _ _ _ _ _ (T89.setTop (mkF m 58 #[.val (.int u0), .val (.int u1), .val (.int u2), .val (.int u3), .val (.int zz), .val (.int aa), .val (.int bb), .val (.int dd), .val (.ref b88), .unset] [(.ref b88)]))
  refine Goes.of (fun t k => XS.iload X89.here hx rfl (hb hby at_58) rfl k) ?_
  show Goes _ _ _ _ _ _ _ (T89.setTop (mkF m 60 #[.val (.int u0), .val (.int u1), .val (.int u2), .val (.int u3), .val (.int zz), .val (.int aa), .val (.int bb), .val (.int dd), .val (.ref b88), .unset] [(.int aa), (.ref b88)]))
  obtain ⟨cq91, kq91, q91a, q91b, q91c⟩ := isOf hZ rfl Eo89
  obtain ⟨_, _, ⟨T91, L91, k91, n91⟩, -, X91, ⟨Lc91, hQ91, l91, y91, z91⟩, st91⟩ := X89.virtualBack hx (y := (⟨"com/example/slotwright/slotwright/problems/IndexSet", "add", "(I)V"⟩ : MethodName)) (z := (⟨"com/example/slotwright/slotwright/problems/IndexSet", "add", "(I)V"⟩ : MethodName)) hown (mvT hZ (hw _ (List.mem_of_getElem? (i := 19) rfl))) (mvT hZ (hw _ (List.mem_of_getElem? (i := 20) rfl))) (notFace_of_selects (args := #[]) (mvT hZ (hw _ (List.mem_of_getElem? (i := 22) rfl)))) (mvT hZ (hw _ (List.mem_of_getElem? (i := 22) rfl))) (mvT hZ (hw _ (List.mem_of_getElem? (i := 21) rfl))) (by decide) (backOf (W := 0) (rm4 l Z a0 hw [] b88 aa mm89 pp89 n (fun _ => 0) (fun _ => (-1 : Int32)) (0 : Int32) T89.heap n0 Z89 Eo89 Fm89 Fp89 Fs89 Vm89 Vp89 ne_b88_mm89 ne_b88_pp89 ne_mm89_pp89 g_b88 g_mm89 g_pp89 ⟨by decide, by rw [show ((0 : Int32)).toInt = 0 from rfl]; omega⟩ ⟨ha.1, by omega⟩) hZ (hw _ (List.mem_of_getElem? (i := 23) rfl)) (hw _ (List.mem_of_getElem? (i := 3) rfl)) (by decide) (by decide)) q91a q91c (g := (mkF m 60 #[.val (.int u0), .val (.int u1), .val (.int u2), .val (.int u3), .val (.int zz), .val (.int aa), .val (.int bb), .val (.int dd), .val (.ref b88), .unset] [(.int aa), (.ref b88)])) rfl (by rw [hml]; rfl) (Steps.refl _) (argsL := [(.int aa)]) (rest := []) (lenOf pd_2 rfl) rfl (by show 2 * 0 + _ ≤ _; exact Nat.le_of_eq rfl) (hb hby at_60) (fun _ _ => ⟨rfl, rfl, (by decide : 3 + 0 ≤ _), (by decide : 21 + 0 ≤ _)⟩)
  dsimp only [Pt.U, Pt.locs, Pt.cells, Pt.slots] at X91 l91 y91 z91 st91 hQ91
  subst l91 y91 z91
  obtain ⟨rfl, N91q, K91, Eo91, Fm91, Fp91, Fs91, Vm91, Vp91⟩ := hQ91
  have F92 := Eo89.keep K91
  have Z91 : n0 ≤ T91.heap.size := Nat.le_trans Z89 K91.1
  have N91 := Fr.app N89 N91q
  refine Goes.of (fun t k => st91.trans k) ?_
  show Goes _ _ _ _ _ _ _ (T91.setTop (mkF m 63 #[.val (.int u0), .val (.int u1), .val (.int u2), .val (.int u3), .val (.int zz), .val (.int aa), .val (.int bb), .val (.int dd), .val (.ref b88), .unset] []))
  refine Goes.of (fun t k => XS.aload X91.here hx rfl (hb hby at_63) rfl rfl k) ?_
  show Goes _ _ _ _ _ _ _ (T91.setTop (mkF m 65 #[.val (.int u0), .val (.int u1), .val (.int u2), .val (.int u3), .val (.int zz), .val (.int aa), .val (.int bb), .val (.int dd), .val (.ref b88), .unset] [(.ref b88)]))
  refine Goes.of (fun t k => XS.iload X91.here hx rfl (hb hby at_65) rfl k) ?_
  show Goes _ _ _ _ _ _ _ (T91.setTop (mkF m 67 #[.val (.int u0), .val (.int u1), .val (.int u2), .val (.int u3), .val (.int zz), .val (.int aa), .val (.int bb), .val (.int dd), .val (.ref b88), .unset] [(.int bb), (.ref b88)]))
  obtain ⟨cq93, kq93, q93a, q93b, q93c⟩ := isOf hZ rfl Eo91
  obtain ⟨_, _, ⟨T93, L93, k93, n93⟩, -, X93, ⟨Lc93, hQ93, l93, y93, z93⟩, st93⟩ := X91.virtualBack hx (y := (⟨"com/example/slotwright/slotwright/problems/IndexSet", "add", "(I)V"⟩ : MethodName)) (z := (⟨"com/example/slotwright/slotwright/problems/IndexSet", "add", "(I)V"⟩ : MethodName)) hown (mvT hZ (hw _ (List.mem_of_getElem? (i := 19) rfl))) (mvT hZ (hw _ (List.mem_of_getElem? (i := 20) rfl))) (notFace_of_selects (args := #[]) (mvT hZ (hw _ (List.mem_of_getElem? (i := 22) rfl)))) (mvT hZ (hw _ (List.mem_of_getElem? (i := 22) rfl))) (mvT hZ (hw _ (List.mem_of_getElem? (i := 21) rfl))) (by decide) (backOf (W := 0) (rm4 l Z a0 hw [] b88 bb mm89 pp89 n (upd (fun _ => 0) (0 : Int32).toNatClampNeg aa) (upd (fun _ => (-1 : Int32)) aa.toNatClampNeg (0 : Int32)) ((0 : Int32) + (1 : Int32)) T91.heap n0 Z91 Eo91 Fm91 Fp91 Fs91 Vm91 Vp91 ne_b88_mm89 ne_b88_pp89 ne_mm89_pp89 g_b88 g_mm89 g_pp89 ⟨by decide, by rw [show (((0 : Int32) + (1 : Int32))).toInt = 1 from rfl]; omega⟩ ⟨hB.1, by omega⟩) hZ (hw _ (List.mem_of_getElem? (i := 23) rfl)) (hw _ (List.mem_of_getElem? (i := 3) rfl)) (by decide) (by decide)) q93a q93c (g := (mkF m 67 #[.val (.int u0), .val (.int u1), .val (.int u2), .val (.int u3), .val (.int zz), .val (.int aa), .val (.int bb), .val (.int dd), .val (.ref b88), .unset] [(.int bb), (.ref b88)])) rfl (by rw [hml]; rfl) (Steps.refl _) (argsL := [(.int bb)]) (rest := []) (lenOf pd_2 rfl) rfl (by show 2 * 0 + _ ≤ _; exact Nat.le_of_eq rfl) (hb hby at_67) (fun _ _ => ⟨rfl, rfl, (by decide : 3 + 0 ≤ _), (by decide : 21 + 0 ≤ _)⟩)
  dsimp only [Pt.U, Pt.locs, Pt.cells, Pt.slots] at X93 l93 y93 z93 st93 hQ93
  subst l93 y93 z93
  obtain ⟨rfl, N93q, K93, Eo93, Fm93, Fp93, Fs93, Vm93, Vp93⟩ := hQ93
  have F94 := Eo91.keep K93
  have Z93 : n0 ≤ T93.heap.size := Nat.le_trans Z91 K93.1
  have N93 := Fr.app N91 N93q
  refine Goes.of (fun t k => st93.trans k) ?_
  show Goes _ _ _ _ _ _ _ (T93.setTop (mkF m 70 #[.val (.int u0), .val (.int u1), .val (.int u2), .val (.int u3), .val (.int zz), .val (.int aa), .val (.int bb), .val (.int dd), .val (.ref b88), .unset] []))
  refine Goes.of (fun t k => XS.aload X93.here hx rfl (hb hby at_70) rfl rfl k) ?_
  show Goes _ _ _ _ _ _ _ (T93.setTop (mkF m 72 #[.val (.int u0), .val (.int u1), .val (.int u2), .val (.int u3), .val (.int zz), .val (.int aa), .val (.int bb), .val (.int dd), .val (.ref b88), .unset] [(.ref b88)]))
  obtain ⟨cq95, kq95, q95a, q95b, q95c⟩ := isOf hZ rfl Eo93
  obtain ⟨_, _, ⟨T95, L95, k95, n95⟩, -, X95, ⟨Lc95, hQ95, l95, y95, z95⟩, st95⟩ := X93.virtualBack hx (y := (⟨"com/example/slotwright/slotwright/problems/IndexSet", "size", "()I"⟩ : MethodName)) (z := (⟨"com/example/slotwright/slotwright/problems/IndexSet", "size", "()I"⟩ : MethodName)) hown (mvT hZ (hw _ (List.mem_of_getElem? (i := 26) rfl))) (mvT hZ (hw _ (List.mem_of_getElem? (i := 27) rfl))) (notFace_of_selects (args := #[]) (mvT hZ (hw _ (List.mem_of_getElem? (i := 29) rfl)))) (mvT hZ (hw _ (List.mem_of_getElem? (i := 29) rfl))) (mvT hZ (hw _ (List.mem_of_getElem? (i := 28) rfl))) (by decide) (backOf (W := 0) (rm5 l Z a0 hw [] b88 mm89 pp89 n (upd (upd (fun _ => 0) (0 : Int32).toNatClampNeg aa) ((0 : Int32) + (1 : Int32)).toNatClampNeg bb) (upd (upd (fun _ => (-1 : Int32)) aa.toNatClampNeg (0 : Int32)) bb.toNatClampNeg ((0 : Int32) + (1 : Int32))) (((0 : Int32) + (1 : Int32)) + (1 : Int32)) T93.heap n0 Z93 Eo93 Fm93 Fp93 Fs93 Vm93 Vp93 ne_b88_mm89 ne_b88_pp89 ne_mm89_pp89 g_b88 g_mm89 g_pp89) hZ (hw _ (List.mem_of_getElem? (i := 30) rfl)) (hw _ (List.mem_of_getElem? (i := 3) rfl)) (by decide) (by decide)) q95a q95c (g := (mkF m 72 #[.val (.int u0), .val (.int u1), .val (.int u2), .val (.int u3), .val (.int zz), .val (.int aa), .val (.int bb), .val (.int dd), .val (.ref b88), .unset] [(.ref b88)])) rfl (by rw [hml]; rfl) (Steps.refl _) (argsL := []) (rest := []) (lenOf pd_3 rfl) rfl (by show 2 * 0 + _ ≤ _; exact Nat.le_of_eq rfl) (hb hby at_72) (fun _ _ => ⟨rfl, rfl, (by decide : 3 + 0 ≤ _), (by decide : 21 + 0 ≤ _)⟩)
  dsimp only [Pt.U, Pt.locs, Pt.cells, Pt.slots] at X95 l95 y95 z95 st95 hQ95
  subst l95 y95 z95
  obtain ⟨rfl, N95q, e95⟩ := hQ95
  have N95 := Fr.app N93 N95q
  refine Goes.of (fun t k => st95.trans k) ?_
  show Goes _ _ _ _ _ _ _ (T95.setTop (mkF m 75 #[.val (.int u0), .val (.int u1), .val (.int u2), .val (.int u3), .val (.int zz), .val (.int aa), .val (.int bb), .val (.int dd), .val (.ref b88), .unset] [(.int (((0 : Int32) + (1 : Int32)) + (1 : Int32)))]))
  refine Goes.of (fun t k => XS.iconst X95.here hx rfl (hb hby at_75) k) ?_
  show Goes _ _ _ _ _ _ _ (T95.setTop (mkF m 76 #[.val (.int u0), .val (.int u1), .val (.int u2), .val (.int u3), .val (.int zz), .val (.int aa), .val (.int bb), .val (.int dd), .val (.ref b88), .unset] [(.int (2 : Int32)), (.int (((0 : Int32) + (1 : Int32)) + (1 : Int32)))]))
  refine Goes.of (fun t k => XS.icmpNo X95.here hx rfl (hb hby at_76) rfl (teq (by decide)).2 k) ?_
  show Goes _ _ _ _ _ _ _ (T95.setTop (mkF m 79 #[.val (.int u0), .val (.int u1), .val (.int u2), .val (.int u3), .val (.int zz), .val (.int aa), .val (.int bb), .val (.int dd), .val (.ref b88), .unset] []))
  refine Goes.of (fun t k => XS.iconst X95.here hx rfl (hb hby at_79) k) ?_
  show Goes _ _ _ _ _ _ _ (T95.setTop (mkF m 80 #[.val (.int u0), .val (.int u1), .val (.int u2), .val (.int u3), .val (.int zz), .val (.int aa), .val (.int bb), .val (.int dd), .val (.ref b88), .unset] [(.int (1 : Int32))]))
  refine Goes.of (fun t k => XS.goto X95.here hx rfl (pc0 := 80) (pc' := 84) rfl (hb hby at_80) (by decide) (by decide) k) ?_
  show Goes _ _ _ _ _ _ _ (T95.setTop (mkF m 84 #[.val (.int u0), .val (.int u1), .val (.int u2), .val (.int u3), .val (.int zz), .val (.int aa), .val (.int bb), .val (.int dd), .val (.ref b88), .unset] [(.int (1 : Int32))]))
  refine Goes.of (fun t k => XS.istore X95.here hx rfl (hb hby at_84) rfl (l' := #[.val (.int u0), .val (.int u1), .val (.int u2), .val (.int u3), .val (.int zz), .val (.int aa), .val (.int bb), .val (.int dd), .val (.ref b88), .val (.int (1 : Int32))]) rfl k) ?_
  show Goes _ _ _ _ _ _ _ (T95.setTop (mkF m 86 #[.val (.int u0), .val (.int u1), .val (.int u2), .val (.int u3), .val (.int zz), .val (.int aa), .val (.int bb), .val (.int dd), .val (.ref b88), .val (.int (1 : Int32))] []))
  refine Goes.of (fun t k => XS.iload X95.here hx rfl (hb hby at_86) rfl k) ?_
  show Goes _ _ _ _ _ _ _ (T95.setTop (mkF m 88 #[.val (.int u0), .val (.int u1), .val (.int u2), .val (.int u3), .val (.int zz), .val (.int aa), .val (.int bb), .val (.int dd), .val (.ref b88), .val (.int (1 : Int32))] [(.int (1 : Int32))]))
  refine Goes.of (fun t k => XS.ifNo X95.here hx rfl (hb hby at_88) rfl ((if0 _ _).trans (feq (by decide : ¬ ((1 : Int32) = (0 : Int32)))).1) k) ?_
  show Goes _ _ _ _ _ _ _ (T95.setTop (mkF m 91 #[.val (.int u0), .val (.int u1), .val (.int u2), .val (.int u3), .val (.int zz), .val (.int aa), .val (.int bb), .val (.int dd), .val (.ref b88), .val (.int (1 : Int32))] []))
  refine Goes.of (fun t k => XS.aload X95.here hx rfl (hb hby at_91) rfl rfl k) ?_
  show Goes _ _ _ _ _ _ _ (T95.setTop (mkF m 93 #[.val (.int u0), .val (.int u1), .val (.int u2), .val (.int u3), .val (.int zz), .val (.int aa), .val (.int bb), .val (.int dd), .val (.ref b88), .val (.int (1 : Int32))] [(.ref b88)]))
  refine Goes.of (fun t k => XS.iconst X95.here hx rfl (hb hby at_93) k) ?_
  show Goes _ _ _ _ _ _ _ (T95.setTop (mkF m 94 #[.val (.int u0), .val (.int u1), .val (.int u2), .val (.int u3), .val (.int zz), .val (.int aa), .val (.int bb), .val (.int dd), .val (.ref b88), .val (.int (1 : Int32))] [(.int (0 : Int32)), (.ref b88)]))
  obtain ⟨cq96, kq96, q96a, q96b, q96c⟩ := isOf hZ e95 Eo93
  obtain ⟨_, _, ⟨T96, L96, k96, n96⟩, -, X96, ⟨Lc96, hQ96, l96, y96, z96⟩, st96⟩ := X95.virtualBack hx (y := (⟨"com/example/slotwright/slotwright/problems/IndexSet", "get", "(I)I"⟩ : MethodName)) (z := (⟨"com/example/slotwright/slotwright/problems/IndexSet", "get", "(I)I"⟩ : MethodName)) hown (mvT hZ (hw _ (List.mem_of_getElem? (i := 31) rfl))) (mvT hZ (hw _ (List.mem_of_getElem? (i := 32) rfl))) (notFace_of_selects (args := #[]) (mvT hZ (hw _ (List.mem_of_getElem? (i := 34) rfl)))) (mvT hZ (hw _ (List.mem_of_getElem? (i := 34) rfl))) (mvT hZ (hw _ (List.mem_of_getElem? (i := 33) rfl))) (by decide) (backOf (W := 0) (rm6 l Z a0 hw [] b88 (0 : Int32) mm89 pp89 n (upd (upd (fun _ => 0) (0 : Int32).toNatClampNeg aa) ((0 : Int32) + (1 : Int32)).toNatClampNeg bb) (upd (upd (fun _ => (-1 : Int32)) aa.toNatClampNeg (0 : Int32)) bb.toNatClampNeg ((0 : Int32) + (1 : Int32))) (((0 : Int32) + (1 : Int32)) + (1 : Int32)) T93.heap n0 Z93 Eo93 Fm93 Fp93 Fs93 Vm93 Vp93 ne_b88_mm89 ne_b88_pp89 ne_mm89_pp89 g_b88 g_mm89 g_pp89 ⟨by decide, by rw [show ((0 : Int32)).toInt = 0 from rfl]; omega⟩) hZ (hw _ (List.mem_of_getElem? (i := 35) rfl)) (hw _ (List.mem_of_getElem? (i := 3) rfl)) (by decide) (by decide)) q96a q96c (g := (mkF m 94 #[.val (.int u0), .val (.int u1), .val (.int u2), .val (.int u3), .val (.int zz), .val (.int aa), .val (.int bb), .val (.int dd), .val (.ref b88), .val (.int (1 : Int32))] [(.int (0 : Int32)), (.ref b88)])) rfl (by rw [hml]; rfl) (Steps.refl _) (argsL := [(.int (0 : Int32))]) (rest := []) (lenOf pd_4 rfl) rfl (by show 2 * 0 + _ ≤ _; exact Nat.le_of_eq rfl) (hb hby at_94) (fun _ _ => ⟨rfl, e95, (by decide : 3 + 0 ≤ _), (by decide : 21 + 0 ≤ _)⟩)
  dsimp only [Pt.U, Pt.locs, Pt.cells, Pt.slots] at X96 l96 y96 z96 st96 hQ96
  subst l96 y96 z96
  obtain ⟨rfl, N96q, e96⟩ := hQ96
  have N96 := Fr.app N95 N96q
  refine Goes.of (fun t k => st96.trans k) ?_
  show Goes _ _ _ _ _ _ _ (T96.setTop (mkF m 97 #[.val (.int u0), .val (.int u1), .val (.int u2), .val (.int u3), .val (.int zz), .val (.int aa), .val (.int bb), .val (.int dd), .val (.ref b88), .val (.int (1 : Int32))] [(.int ((upd (upd (fun _ => 0) (0 : Int32).toNatClampNeg aa) ((0 : Int32) + (1 : Int32)).toNatClampNeg bb) (0 : Int32).toNatClampNeg))]))
  refine Goes.of (fun t k => XS.iload X96.here hx rfl (hb hby at_97) rfl k) ?_
  show Goes _ _ _ _ _ _ _ (T96.setTop (mkF m 99 #[.val (.int u0), .val (.int u1), .val (.int u2), .val (.int u3), .val (.int zz), .val (.int aa), .val (.int bb), .val (.int dd), .val (.ref b88), .val (.int (1 : Int32))] [(.int aa), (.int ((upd (upd (fun _ => 0) (0 : Int32).toNatClampNeg aa) ((0 : Int32) + (1 : Int32)).toNatClampNeg bb) (0 : Int32).toNatClampNeg))]))
  refine Goes.of (fun t k => XS.icmpNo X96.here hx rfl (hb hby at_99) rfl (teq (by rfl)).2 k) ?_
  show Goes _ _ _ _ _ _ _ (T96.setTop (mkF m 102 #[.val (.int u0), .val (.int u1), .val (.int u2), .val (.int u3), .val (.int zz), .val (.int aa), .val (.int bb), .val (.int dd), .val (.ref b88), .val (.int (1 : Int32))] []))
  refine Goes.of (fun t k => XS.iconst X96.here hx rfl (hb hby at_102) k) ?_
  show Goes _ _ _ _ _ _ _ (T96.setTop (mkF m 103 #[.val (.int u0), .val (.int u1), .val (.int u2), .val (.int u3), .val (.int zz), .val (.int aa), .val (.int bb), .val (.int dd), .val (.ref b88), .val (.int (1 : Int32))] [(.int (1 : Int32))]))
  refine Goes.of (fun t k => XS.goto X96.here hx rfl (pc0 := 103) (pc' := 107) rfl (hb hby at_103) (by decide) (by decide) k) ?_
  show Goes _ _ _ _ _ _ _ (T96.setTop (mkF m 107 #[.val (.int u0), .val (.int u1), .val (.int u2), .val (.int u3), .val (.int zz), .val (.int aa), .val (.int bb), .val (.int dd), .val (.ref b88), .val (.int (1 : Int32))] [(.int (1 : Int32))]))
  refine Goes.of (fun t k => XS.istore X96.here hx rfl (hb hby at_107) rfl (l' := #[.val (.int u0), .val (.int u1), .val (.int u2), .val (.int u3), .val (.int zz), .val (.int aa), .val (.int bb), .val (.int dd), .val (.ref b88), .val (.int (1 : Int32))]) rfl k) ?_
  show Goes _ _ _ _ _ _ _ (T96.setTop (mkF m 109 #[.val (.int u0), .val (.int u1), .val (.int u2), .val (.int u3), .val (.int zz), .val (.int aa), .val (.int bb), .val (.int dd), .val (.ref b88), .val (.int (1 : Int32))] []))
  refine Goes.of (fun t k => XS.iload X96.here hx rfl (hb hby at_109) rfl k) ?_
  show Goes _ _ _ _ _ _ _ (T96.setTop (mkF m 111 #[.val (.int u0), .val (.int u1), .val (.int u2), .val (.int u3), .val (.int zz), .val (.int aa), .val (.int bb), .val (.int dd), .val (.ref b88), .val (.int (1 : Int32))] [(.int (1 : Int32))]))
  refine Goes.of (fun t k => XS.ifNo X96.here hx rfl (hb hby at_111) rfl ((if0 _ _).trans (feq (by decide : ¬ ((1 : Int32) = (0 : Int32)))).1) k) ?_
  show Goes _ _ _ _ _ _ _ (T96.setTop (mkF m 114 #[.val (.int u0), .val (.int u1), .val (.int u2), .val (.int u3), .val (.int zz), .val (.int aa), .val (.int bb), .val (.int dd), .val (.ref b88), .val (.int (1 : Int32))] []))
  refine Goes.of (fun t k => XS.aload X96.here hx rfl (hb hby at_114) rfl rfl k) ?_
  show Goes _ _ _ _ _ _ _ (T96.setTop (mkF m 116 #[.val (.int u0), .val (.int u1), .val (.int u2), .val (.int u3), .val (.int zz), .val (.int aa), .val (.int bb), .val (.int dd), .val (.ref b88), .val (.int (1 : Int32))] [(.ref b88)]))
  refine Goes.of (fun t k => XS.iconst X96.here hx rfl (hb hby at_116) k) ?_
  show Goes _ _ _ _ _ _ _ (T96.setTop (mkF m 117 #[.val (.int u0), .val (.int u1), .val (.int u2), .val (.int u3), .val (.int zz), .val (.int aa), .val (.int bb), .val (.int dd), .val (.ref b88), .val (.int (1 : Int32))] [(.int (1 : Int32)), (.ref b88)]))
  obtain ⟨cq97, kq97, q97a, q97b, q97c⟩ := isOf hZ e96 Eo93
  obtain ⟨_, _, ⟨T97, L97, k97, n97⟩, -, X97, ⟨Lc97, hQ97, l97, y97, z97⟩, st97⟩ := X96.virtualBack hx (y := (⟨"com/example/slotwright/slotwright/problems/IndexSet", "get", "(I)I"⟩ : MethodName)) (z := (⟨"com/example/slotwright/slotwright/problems/IndexSet", "get", "(I)I"⟩ : MethodName)) hown (mvT hZ (hw _ (List.mem_of_getElem? (i := 31) rfl))) (mvT hZ (hw _ (List.mem_of_getElem? (i := 32) rfl))) (notFace_of_selects (args := #[]) (mvT hZ (hw _ (List.mem_of_getElem? (i := 34) rfl)))) (mvT hZ (hw _ (List.mem_of_getElem? (i := 34) rfl))) (mvT hZ (hw _ (List.mem_of_getElem? (i := 33) rfl))) (by decide) (backOf (W := 0) (rm6 l Z a0 hw [] b88 (1 : Int32) mm89 pp89 n (upd (upd (fun _ => 0) (0 : Int32).toNatClampNeg aa) ((0 : Int32) + (1 : Int32)).toNatClampNeg bb) (upd (upd (fun _ => (-1 : Int32)) aa.toNatClampNeg (0 : Int32)) bb.toNatClampNeg ((0 : Int32) + (1 : Int32))) (((0 : Int32) + (1 : Int32)) + (1 : Int32)) T93.heap n0 Z93 Eo93 Fm93 Fp93 Fs93 Vm93 Vp93 ne_b88_mm89 ne_b88_pp89 ne_mm89_pp89 g_b88 g_mm89 g_pp89 ⟨by decide, by rw [show ((1 : Int32)).toInt = 1 from rfl]; omega⟩) hZ (hw _ (List.mem_of_getElem? (i := 35) rfl)) (hw _ (List.mem_of_getElem? (i := 3) rfl)) (by decide) (by decide)) q97a q97c (g := (mkF m 117 #[.val (.int u0), .val (.int u1), .val (.int u2), .val (.int u3), .val (.int zz), .val (.int aa), .val (.int bb), .val (.int dd), .val (.ref b88), .val (.int (1 : Int32))] [(.int (1 : Int32)), (.ref b88)])) rfl (by rw [hml]; rfl) (Steps.refl _) (argsL := [(.int (1 : Int32))]) (rest := []) (lenOf pd_4 rfl) rfl (by show 2 * 0 + _ ≤ _; exact Nat.le_of_eq rfl) (hb hby at_117) (fun _ _ => ⟨rfl, e96, (by decide : 3 + 0 ≤ _), (by decide : 21 + 0 ≤ _)⟩)
  dsimp only [Pt.U, Pt.locs, Pt.cells, Pt.slots] at X97 l97 y97 z97 st97 hQ97
  subst l97 y97 z97
  obtain ⟨rfl, N97q, e97⟩ := hQ97
  have N97 := Fr.app N96 N97q
  refine Goes.of (fun t k => st97.trans k) ?_
  show Goes _ _ _ _ _ _ _ (T97.setTop (mkF m 120 #[.val (.int u0), .val (.int u1), .val (.int u2), .val (.int u3), .val (.int zz), .val (.int aa), .val (.int bb), .val (.int dd), .val (.ref b88), .val (.int (1 : Int32))] [(.int ((upd (upd (fun _ => 0) (0 : Int32).toNatClampNeg aa) ((0 : Int32) + (1 : Int32)).toNatClampNeg bb) (1 : Int32).toNatClampNeg))]))
  refine Goes.of (fun t k => XS.iload X97.here hx rfl (hb hby at_120) rfl k) ?_
  show Goes _ _ _ _ _ _ _ (T97.setTop (mkF m 122 #[.val (.int u0), .val (.int u1), .val (.int u2), .val (.int u3), .val (.int zz), .val (.int aa), .val (.int bb), .val (.int dd), .val (.ref b88), .val (.int (1 : Int32))] [(.int bb), (.int ((upd (upd (fun _ => 0) (0 : Int32).toNatClampNeg aa) ((0 : Int32) + (1 : Int32)).toNatClampNeg bb) (1 : Int32).toNatClampNeg))]))
  refine Goes.of (fun t k => XS.icmpNo X97.here hx rfl (hb hby at_122) rfl (teq (by rfl)).2 k) ?_
  show Goes _ _ _ _ _ _ _ (T97.setTop (mkF m 125 #[.val (.int u0), .val (.int u1), .val (.int u2), .val (.int u3), .val (.int zz), .val (.int aa), .val (.int bb), .val (.int dd), .val (.ref b88), .val (.int (1 : Int32))] []))
  refine Goes.of (fun t k => XS.iconst X97.here hx rfl (hb hby at_125) k) ?_
  show Goes _ _ _ _ _ _ _ (T97.setTop (mkF m 126 #[.val (.int u0), .val (.int u1), .val (.int u2), .val (.int u3), .val (.int zz), .val (.int aa), .val (.int bb), .val (.int dd), .val (.ref b88), .val (.int (1 : Int32))] [(.int (1 : Int32))]))
  refine Goes.of (fun t k => XS.goto X97.here hx rfl (pc0 := 126) (pc' := 130) rfl (hb hby at_126) (by decide) (by decide) k) ?_
  show Goes _ _ _ _ _ _ _ (T97.setTop (mkF m 130 #[.val (.int u0), .val (.int u1), .val (.int u2), .val (.int u3), .val (.int zz), .val (.int aa), .val (.int bb), .val (.int dd), .val (.ref b88), .val (.int (1 : Int32))] [(.int (1 : Int32))]))
  refine Goes.of (fun t k => XS.istore X97.here hx rfl (hb hby at_130) rfl (l' := #[.val (.int u0), .val (.int u1), .val (.int u2), .val (.int u3), .val (.int zz), .val (.int aa), .val (.int bb), .val (.int dd), .val (.ref b88), .val (.int (1 : Int32))]) rfl k) ?_
  show Goes _ _ _ _ _ _ _ (T97.setTop (mkF m 132 #[.val (.int u0), .val (.int u1), .val (.int u2), .val (.int u3), .val (.int zz), .val (.int aa), .val (.int bb), .val (.int dd), .val (.ref b88), .val (.int (1 : Int32))] []))
  have j98 : ∀ (T98 : State) (lc98 : List Loc), Stand p l e room_1 s m #[(.int u0), (.int u1), (.int u2), (.int u3)] below meth c T98 lc98 3 21 → T98.heap = T93.heap → Fr n0 lc98 → Goes p.tables e below s (Q0 n0) room_1.cells room_1.slots (T98.setTop (mkF m 173 #[.val (.int u0), .val (.int u1), .val (.int u2), .val (.int u3), .val (.int zz), .val (.int aa), .val (.int bb), .val (.int dd), .val (.ref b88), .val (.int (1 : Int32))] [])) := by
    intro T98 lc98  X98 e98 N98 
    show Goes _ _ _ _ _ _ _ (T98.setTop (mkF m 173 #[.val (.int u0), .val (.int u1), .val (.int u2), .val (.int u3), .val (.int zz), .val (.int aa), .val (.int bb), .val (.int dd), .val (.ref b88), .val (.int (1 : Int32))] []))
    refine Goes.of (fun t k => XS.aload X98.here hx rfl (hb hby at_173) rfl rfl k) ?_
    show Goes _ _ _ _ _ _ _ (T98.setTop (mkF m 175 #[.val (.int u0), .val (.int u1), .val (.int u2), .val (.int u3), .val (.int zz), .val (.int aa), .val (.int bb), .val (.int dd), .val (.ref b88), .val (.int (1 : Int32))] [(.ref b88)]))
    refine Goes.of (fun t k => XS.iload X98.here hx rfl (hb hby at_175) rfl k) ?_
    show Goes _ _ _ _ _ _ _ (T98.setTop (mkF m 177 #[.val (.int u0), .val (.int u1), .val (.int u2), .val (.int u3), .val (.int zz), .val (.int aa), .val (.int bb), .val (.int dd), .val (.ref b88), .val (.int (1 : Int32))] [(.int aa), (.ref b88)]))
    obtain ⟨Mf, hf_Mf⟩ : ∃ f : Nat → Int32, f = (upd (upd (fun _ => 0) (0 : Int32).toNatClampNeg aa) ((0 : Int32) + (1 : Int32)).toNatClampNeg bb) := ⟨_, rfl⟩
    rw [← hf_Mf] at Vm93
    obtain ⟨Pf, hf_Pf⟩ : ∃ f : Nat → Int32, f = (upd (upd (fun _ => (-1 : Int32)) aa.toNatClampNeg (0 : Int32)) bb.toNatClampNeg ((0 : Int32) + (1 : Int32))) := ⟨_, rfl⟩
    rw [← hf_Pf] at Vp93
    have hPa : Pf aa.toNatClampNeg = 0 := by rw [hf_Pf]; exact (if_neg (own_natne ha.1 hB.1 (Ne.symm hB.2.2))).trans (if_pos rfl)
    have hMb : Mf ((((0 : Int32) + (1 : Int32)) + (1 : Int32)) - (1 : Int32)).toNatClampNeg = bb := by rw [hf_Mf]; rfl
    obtain ⟨cq99, kq99, q99a, q99b, q99c⟩ := isOf hZ e98 Eo93
    obtain ⟨_, _, ⟨T99, L99, k99, n99⟩, -, X99, ⟨Lc99, hQ99, l99, y99, z99⟩, st99⟩ := X98.virtualBack hx (y := (⟨"com/example/slotwright/slotwright/problems/IndexSet", "remove", "(I)V"⟩ : MethodName)) (z := (⟨"com/example/slotwright/slotwright/problems/IndexSet", "remove", "(I)V"⟩ : MethodName)) hown (mvT hZ (hw _ (List.mem_of_getElem? (i := 41) rfl))) (mvT hZ (hw _ (List.mem_of_getElem? (i := 42) rfl))) (notFace_of_selects (args := #[]) (mvT hZ (hw _ (List.mem_of_getElem? (i := 44) rfl)))) (mvT hZ (hw _ (List.mem_of_getElem? (i := 44) rfl))) (mvT hZ (hw _ (List.mem_of_getElem? (i := 43) rfl))) (by decide) (backOf (W := 0) (rm8 l Z a0 hw [] b88 aa mm89 pp89 n Mf Pf (((0 : Int32) + (1 : Int32)) + (1 : Int32)) T93.heap n0 Z93 Eo93 Fm93 Fp93 Fs93 Vm93 Vp93 ne_b88_mm89 ne_b88_pp89 ne_mm89_pp89 g_b88 g_mm89 g_pp89 ⟨by decide, by rw [show ((((0 : Int32) + (1 : Int32)) + (1 : Int32)) - (1 : Int32)).toInt = 1 from rfl]; omega⟩ ⟨ha.1, by omega⟩ (by rw [hPa, show (0 : Int32).toInt = 0 from rfl]; omega) (by rw [hMb]; exact ⟨hB.1, by omega⟩)) hZ (hw _ (List.mem_of_getElem? (i := 45) rfl)) (hw _ (List.mem_of_getElem? (i := 3) rfl)) (by decide) (by decide)) q99a q99c (g := (mkF m 177 #[.val (.int u0), .val (.int u1), .val (.int u2), .val (.int u3), .val (.int zz), .val (.int aa), .val (.int bb), .val (.int dd), .val (.ref b88), .val (.int (1 : Int32))] [(.int aa), (.ref b88)])) rfl (by rw [hml]; rfl) (Steps.refl _) (argsL := [(.int aa)]) (rest := []) (lenOf pd_2 rfl) rfl (by show 2 * 0 + _ ≤ _; exact Nat.le_of_eq rfl) (hb hby at_177) (fun _ _ => ⟨rfl, e98, (by decide : 3 + 0 ≤ _), (by decide : 21 + 0 ≤ _)⟩)
    dsimp only [Pt.U, Pt.locs, Pt.cells, Pt.slots] at X99 l99 y99 z99 st99 hQ99
    subst l99 y99 z99
    obtain ⟨rfl, N99q, K99, Eo99, Fm99, Fp99, Fs99, Vm99, Vp99⟩ := hQ99
    have F100 := Eo93.keep K99
    have Z99 : n0 ≤ T99.heap.size := Nat.le_trans Z93 K99.1
    have N99 := Fr.app N98 N99q
    refine Goes.of (fun t k => st99.trans k) ?_
    show Goes _ _ _ _ _ _ _ (T99.setTop (mkF m 180 #[.val (.int u0), .val (.int u1), .val (.int u2), .val (.int u3), .val (.int zz), .val (.int aa), .val (.int bb), .val (.int dd), .val (.ref b88), .val (.int (1 : Int32))] []))
    refine Goes.of (fun t k => XS.iload X99.here hx rfl (hb hby at_180) rfl k) ?_
    show Goes _ _ _ _ _ _ _ (T99.setTop (mkF m 182 #[.val (.int u0), .val (.int u1), .val (.int u2), .val (.int u3), .val (.int zz), .val (.int aa), .val (.int bb), .val (.int dd), .val (.ref b88), .val (.int (1 : Int32))] [(.int (1 : Int32))]))
    refine Goes.of (fun t k => XS.ifNo X99.here hx rfl (hb hby at_182) rfl ((if0 _ _).trans (feq (by decide : ¬ ((1 : Int32) = (0 : Int32)))).1) k) ?_
    show Goes _ _ _ _ _ _ _ (T99.setTop (mkF m 185 #[.val (.int u0), .val (.int u1), .val (.int u2), .val (.int u3), .val (.int zz), .val (.int aa), .val (.int bb), .val (.int dd), .val (.ref b88), .val (.int (1 : Int32))] []))
    refine Goes.of (fun t k => XS.aload X99.here hx rfl (hb hby at_185) rfl rfl k) ?_
    show Goes _ _ _ _ _ _ _ (T99.setTop (mkF m 187 #[.val (.int u0), .val (.int u1), .val (.int u2), .val (.int u3), .val (.int zz), .val (.int aa), .val (.int bb), .val (.int dd), .val (.ref b88), .val (.int (1 : Int32))] [(.ref b88)]))
    refine Goes.of (fun t k => XS.iconst X99.here hx rfl (hb hby at_187) k) ?_
    show Goes _ _ _ _ _ _ _ (T99.setTop (mkF m 188 #[.val (.int u0), .val (.int u1), .val (.int u2), .val (.int u3), .val (.int zz), .val (.int aa), .val (.int bb), .val (.int dd), .val (.ref b88), .val (.int (1 : Int32))] [(.int (0 : Int32)), (.ref b88)]))
    obtain ⟨cq101, kq101, q101a, q101b, q101c⟩ := isOf hZ rfl Eo99
    obtain ⟨_, _, ⟨T101, L101, k101, n101⟩, -, X101, ⟨Lc101, hQ101, l101, y101, z101⟩, st101⟩ := X99.virtualBack hx (y := (⟨"com/example/slotwright/slotwright/problems/IndexSet", "get", "(I)I"⟩ : MethodName)) (z := (⟨"com/example/slotwright/slotwright/problems/IndexSet", "get", "(I)I"⟩ : MethodName)) hown (mvT hZ (hw _ (List.mem_of_getElem? (i := 31) rfl))) (mvT hZ (hw _ (List.mem_of_getElem? (i := 32) rfl))) (notFace_of_selects (args := #[]) (mvT hZ (hw _ (List.mem_of_getElem? (i := 34) rfl)))) (mvT hZ (hw _ (List.mem_of_getElem? (i := 34) rfl))) (mvT hZ (hw _ (List.mem_of_getElem? (i := 33) rfl))) (by decide) (backOf (W := 0) (rm6 l Z a0 hw [] b88 (0 : Int32) mm89 pp89 n (upd Mf (Pf aa.toNatClampNeg).toNatClampNeg (Mf ((((0 : Int32) + (1 : Int32)) + (1 : Int32)) - (1 : Int32)).toNatClampNeg)) (upd (upd Pf (Mf ((((0 : Int32) + (1 : Int32)) + (1 : Int32)) - (1 : Int32)).toNatClampNeg).toNatClampNeg (Pf aa.toNatClampNeg)) aa.toNatClampNeg (-1 : Int32)) ((((0 : Int32) + (1 : Int32)) + (1 : Int32)) - (1 : Int32)) T99.heap n0 Z99 Eo99 Fm99 Fp99 Fs99 Vm99 Vp99 ne_b88_mm89 ne_b88_pp89 ne_mm89_pp89 g_b88 g_mm89 g_pp89 ⟨by decide, by rw [show ((0 : Int32)).toInt = 0 from rfl]; omega⟩) hZ (hw _ (List.mem_of_getElem? (i := 35) rfl)) (hw _ (List.mem_of_getElem? (i := 3) rfl)) (by decide) (by decide)) q101a q101c (g := (mkF m 188 #[.val (.int u0), .val (.int u1), .val (.int u2), .val (.int u3), .val (.int zz), .val (.int aa), .val (.int bb), .val (.int dd), .val (.ref b88), .val (.int (1 : Int32))] [(.int (0 : Int32)), (.ref b88)])) rfl (by rw [hml]; rfl) (Steps.refl _) (argsL := [(.int (0 : Int32))]) (rest := []) (lenOf pd_4 rfl) rfl (by show 2 * 0 + _ ≤ _; exact Nat.le_of_eq rfl) (hb hby at_188) (fun _ _ => ⟨rfl, rfl, (by decide : 3 + 0 ≤ _), (by decide : 21 + 0 ≤ _)⟩)
    dsimp only [Pt.U, Pt.locs, Pt.cells, Pt.slots] at X101 l101 y101 z101 st101 hQ101
    subst l101 y101 z101
    obtain ⟨rfl, N101q, e101⟩ := hQ101
    have N101 := Fr.app N99 N101q
    refine Goes.of (fun t k => st101.trans k) ?_
    show Goes _ _ _ _ _ _ _ (T101.setTop (mkF m 191 #[.val (.int u0), .val (.int u1), .val (.int u2), .val (.int u3), .val (.int zz), .val (.int aa), .val (.int bb), .val (.int dd), .val (.ref b88), .val (.int (1 : Int32))] [(.int ((upd Mf (Pf aa.toNatClampNeg).toNatClampNeg (Mf ((((0 : Int32) + (1 : Int32)) + (1 : Int32)) - (1 : Int32)).toNatClampNeg)) (0 : Int32).toNatClampNeg))]))
    refine Goes.of (fun t k => XS.iload X101.here hx rfl (hb hby at_191) rfl k) ?_
    show Goes _ _ _ _ _ _ _ (T101.setTop (mkF m 193 #[.val (.int u0), .val (.int u1), .val (.int u2), .val (.int u3), .val (.int zz), .val (.int aa), .val (.int bb), .val (.int dd), .val (.ref b88), .val (.int (1 : Int32))] [(.int bb), (.int ((upd Mf (Pf aa.toNatClampNeg).toNatClampNeg (Mf ((((0 : Int32) + (1 : Int32)) + (1 : Int32)) - (1 : Int32)).toNatClampNeg)) (0 : Int32).toNatClampNeg))]))
    refine Goes.of (fun t k => XS.icmpNo X101.here hx rfl (hb hby at_193) rfl (teq (by rw [hPa, hMb]; rfl)).2 k) ?_
    show Goes _ _ _ _ _ _ _ (T101.setTop (mkF m 196 #[.val (.int u0), .val (.int u1), .val (.int u2), .val (.int u3), .val (.int zz), .val (.int aa), .val (.int bb), .val (.int dd), .val (.ref b88), .val (.int (1 : Int32))] []))
    refine Goes.of (fun t k => XS.iconst X101.here hx rfl (hb hby at_196) k) ?_
    show Goes _ _ _ _ _ _ _ (T101.setTop (mkF m 197 #[.val (.int u0), .val (.int u1), .val (.int u2), .val (.int u3), .val (.int zz), .val (.int aa), .val (.int bb), .val (.int dd), .val (.ref b88), .val (.int (1 : Int32))] [(.int (1 : Int32))]))
    refine Goes.of (fun t k => XS.goto X101.here hx rfl (pc0 := 197) (pc' := 201) rfl (hb hby at_197) (by decide) (by decide) k) ?_
    show Goes _ _ _ _ _ _ _ (T101.setTop (mkF m 201 #[.val (.int u0), .val (.int u1), .val (.int u2), .val (.int u3), .val (.int zz), .val (.int aa), .val (.int bb), .val (.int dd), .val (.ref b88), .val (.int (1 : Int32))] [(.int (1 : Int32))]))
    refine Goes.of (fun t k => XS.istore X101.here hx rfl (hb hby at_201) rfl (l' := #[.val (.int u0), .val (.int u1), .val (.int u2), .val (.int u3), .val (.int zz), .val (.int aa), .val (.int bb), .val (.int dd), .val (.ref b88), .val (.int (1 : Int32))]) rfl k) ?_
    show Goes _ _ _ _ _ _ _ (T101.setTop (mkF m 203 #[.val (.int u0), .val (.int u1), .val (.int u2), .val (.int u3), .val (.int zz), .val (.int aa), .val (.int bb), .val (.int dd), .val (.ref b88), .val (.int (1 : Int32))] []))
    refine Goes.of (fun t k => XS.iload X101.here hx rfl (hb hby at_203) rfl k) ?_
    show Goes _ _ _ _ _ _ _ (T101.setTop (mkF m 205 #[.val (.int u0), .val (.int u1), .val (.int u2), .val (.int u3), .val (.int zz), .val (.int aa), .val (.int bb), .val (.int dd), .val (.ref b88), .val (.int (1 : Int32))] [(.int (1 : Int32))]))
    refine Goes.of (fun t k => XS.ifNo X101.here hx rfl (hb hby at_205) rfl ((if0 _ _).trans (feq (by decide : ¬ ((1 : Int32) = (0 : Int32)))).1) k) ?_
    show Goes _ _ _ _ _ _ _ (T101.setTop (mkF m 208 #[.val (.int u0), .val (.int u1), .val (.int u2), .val (.int u3), .val (.int zz), .val (.int aa), .val (.int bb), .val (.int dd), .val (.ref b88), .val (.int (1 : Int32))] []))
    refine Goes.of (fun t k => XS.aload X101.here hx rfl (hb hby at_208) rfl rfl k) ?_
    show Goes _ _ _ _ _ _ _ (T101.setTop (mkF m 210 #[.val (.int u0), .val (.int u1), .val (.int u2), .val (.int u3), .val (.int zz), .val (.int aa), .val (.int bb), .val (.int dd), .val (.ref b88), .val (.int (1 : Int32))] [(.ref b88)]))
    obtain ⟨cq102, kq102, q102a, q102b, q102c⟩ := isOf hZ e101 Eo99
    obtain ⟨_, _, ⟨T102, L102, k102, n102⟩, -, X102, ⟨Lc102, hQ102, l102, y102, z102⟩, st102⟩ := X101.virtualBack hx (y := (⟨"com/example/slotwright/slotwright/problems/IndexSet", "size", "()I"⟩ : MethodName)) (z := (⟨"com/example/slotwright/slotwright/problems/IndexSet", "size", "()I"⟩ : MethodName)) hown (mvT hZ (hw _ (List.mem_of_getElem? (i := 26) rfl))) (mvT hZ (hw _ (List.mem_of_getElem? (i := 27) rfl))) (notFace_of_selects (args := #[]) (mvT hZ (hw _ (List.mem_of_getElem? (i := 29) rfl)))) (mvT hZ (hw _ (List.mem_of_getElem? (i := 29) rfl))) (mvT hZ (hw _ (List.mem_of_getElem? (i := 28) rfl))) (by decide) (backOf (W := 0) (rm5 l Z a0 hw [] b88 mm89 pp89 n (upd Mf (Pf aa.toNatClampNeg).toNatClampNeg (Mf ((((0 : Int32) + (1 : Int32)) + (1 : Int32)) - (1 : Int32)).toNatClampNeg)) (upd (upd Pf (Mf ((((0 : Int32) + (1 : Int32)) + (1 : Int32)) - (1 : Int32)).toNatClampNeg).toNatClampNeg (Pf aa.toNatClampNeg)) aa.toNatClampNeg (-1 : Int32)) ((((0 : Int32) + (1 : Int32)) + (1 : Int32)) - (1 : Int32)) T99.heap n0 Z99 Eo99 Fm99 Fp99 Fs99 Vm99 Vp99 ne_b88_mm89 ne_b88_pp89 ne_mm89_pp89 g_b88 g_mm89 g_pp89) hZ (hw _ (List.mem_of_getElem? (i := 30) rfl)) (hw _ (List.mem_of_getElem? (i := 3) rfl)) (by decide) (by decide)) q102a q102c (g := (mkF m 210 #[.val (.int u0), .val (.int u1), .val (.int u2), .val (.int u3), .val (.int zz), .val (.int aa), .val (.int bb), .val (.int dd), .val (.ref b88), .val (.int (1 : Int32))] [(.ref b88)])) rfl (by rw [hml]; rfl) (Steps.refl _) (argsL := []) (rest := []) (lenOf pd_3 rfl) rfl (by show 2 * 0 + _ ≤ _; exact Nat.le_of_eq rfl) (hb hby at_210) (fun _ _ => ⟨rfl, e101, (by decide : 3 + 0 ≤ _), (by decide : 21 + 0 ≤ _)⟩)
    dsimp only [Pt.U, Pt.locs, Pt.cells, Pt.slots] at X102 l102 y102 z102 st102 hQ102
    subst l102 y102 z102
    obtain ⟨rfl, N102q, e102⟩ := hQ102
    have N102 := Fr.app N101 N102q
    refine Goes.of (fun t k => st102.trans k) ?_
    show Goes _ _ _ _ _ _ _ (T102.setTop (mkF m 213 #[.val (.int u0), .val (.int u1), .val (.int u2), .val (.int u3), .val (.int zz), .val (.int aa), .val (.int bb), .val (.int dd), .val (.ref b88), .val (.int (1 : Int32))] [(.int ((((0 : Int32) + (1 : Int32)) + (1 : Int32)) - (1 : Int32)))]))
    refine Goes.of (fun t k => XS.iconst X102.here hx rfl (hb hby at_213) k) ?_
    show Goes _ _ _ _ _ _ _ (T102.setTop (mkF m 214 #[.val (.int u0), .val (.int u1), .val (.int u2), .val (.int u3), .val (.int zz), .val (.int aa), .val (.int bb), .val (.int dd), .val (.ref b88), .val (.int (1 : Int32))] [(.int (1 : Int32)), (.int ((((0 : Int32) + (1 : Int32)) + (1 : Int32)) - (1 : Int32)))]))
    refine Goes.of (fun t k => XS.icmpNo X102.here hx rfl (hb hby at_214) rfl (teq (by decide)).2 k) ?_
    show Goes _ _ _ _ _ _ _ (T102.setTop (mkF m 217 #[.val (.int u0), .val (.int u1), .val (.int u2), .val (.int u3), .val (.int zz), .val (.int aa), .val (.int bb), .val (.int dd), .val (.ref b88), .val (.int (1 : Int32))] []))
    refine Goes.of (fun t k => XS.iconst X102.here hx rfl (hb hby at_217) k) ?_
    show Goes _ _ _ _ _ _ _ (T102.setTop (mkF m 218 #[.val (.int u0), .val (.int u1), .val (.int u2), .val (.int u3), .val (.int zz), .val (.int aa), .val (.int bb), .val (.int dd), .val (.ref b88), .val (.int (1 : Int32))] [(.int (1 : Int32))]))
    refine Goes.of (fun t k => XS.goto X102.here hx rfl (pc0 := 218) (pc' := 222) rfl (hb hby at_218) (by decide) (by decide) k) ?_
    show Goes _ _ _ _ _ _ _ (T102.setTop (mkF m 222 #[.val (.int u0), .val (.int u1), .val (.int u2), .val (.int u3), .val (.int zz), .val (.int aa), .val (.int bb), .val (.int dd), .val (.ref b88), .val (.int (1 : Int32))] [(.int (1 : Int32))]))
    refine Goes.of (fun t k => XS.istore X102.here hx rfl (hb hby at_222) rfl (l' := #[.val (.int u0), .val (.int u1), .val (.int u2), .val (.int u3), .val (.int zz), .val (.int aa), .val (.int bb), .val (.int dd), .val (.ref b88), .val (.int (1 : Int32))]) rfl k) ?_
    show Goes _ _ _ _ _ _ _ (T102.setTop (mkF m 224 #[.val (.int u0), .val (.int u1), .val (.int u2), .val (.int u3), .val (.int zz), .val (.int aa), .val (.int bb), .val (.int dd), .val (.ref b88), .val (.int (1 : Int32))] []))
    refine Goes.of (fun t k => XS.iload X102.here hx rfl (hb hby at_224) rfl k) ?_
    show Goes _ _ _ _ _ _ _ (T102.setTop (mkF m 226 #[.val (.int u0), .val (.int u1), .val (.int u2), .val (.int u3), .val (.int zz), .val (.int aa), .val (.int bb), .val (.int dd), .val (.ref b88), .val (.int (1 : Int32))] [(.int (1 : Int32))]))
    exact Goes.fin X102 hlk (v := some (.int (1 : Int32))) (fun h => by rw [Bd.returns] at h; cases h) (fun fs hr => retN X102 hx (t := .boolean) Bd.returns (by simp) (hb hby at_226) hr) ⟨rfl, N102⟩ (by decide) (by decide)
  refine Goes.of (fun t k => XS.iload X97.here hx rfl (hb hby at_132) rfl k) ?_
  show Goes _ _ _ _ _ _ _ (T97.setTop (mkF m 134 #[.val (.int u0), .val (.int u1), .val (.int u2), .val (.int u3), .val (.int zz), .val (.int aa), .val (.int bb), .val (.int dd), .val (.ref b88), .val (.int (1 : Int32))] [(.int (1 : Int32))]))
  refine Goes.of (fun t k => XS.ifNo X97.here hx rfl (hb hby at_134) rfl ((if0 _ _).trans (feq (by decide : ¬ ((1 : Int32) = (0 : Int32)))).1) k) ?_
  show Goes _ _ _ _ _ _ _ (T97.setTop (mkF m 137 #[.val (.int u0), .val (.int u1), .val (.int u2), .val (.int u3), .val (.int zz), .val (.int aa), .val (.int bb), .val (.int dd), .val (.ref b88), .val (.int (1 : Int32))] []))
  refine Goes.of (fun t k => XS.aload X97.here hx rfl (hb hby at_137) rfl rfl k) ?_
  show Goes _ _ _ _ _ _ _ (T97.setTop (mkF m 139 #[.val (.int u0), .val (.int u1), .val (.int u2), .val (.int u3), .val (.int zz), .val (.int aa), .val (.int bb), .val (.int dd), .val (.ref b88), .val (.int (1 : Int32))] [(.ref b88)]))
  refine Goes.of (fun t k => XS.iload X97.here hx rfl (hb hby at_139) rfl k) ?_
  show Goes _ _ _ _ _ _ _ (T97.setTop (mkF m 141 #[.val (.int u0), .val (.int u1), .val (.int u2), .val (.int u3), .val (.int zz), .val (.int aa), .val (.int bb), .val (.int dd), .val (.ref b88), .val (.int (1 : Int32))] [(.int dd), (.ref b88)]))
  obtain ⟨cq103, kq103, q103a, q103b, q103c⟩ := isOf hZ e97 Eo93
  obtain ⟨_, _, ⟨T103, L103, k103, n103⟩, -, X103, ⟨Lc103, hQ103, l103, y103, z103⟩, st103⟩ := X97.virtualBack hx (y := (⟨"com/example/slotwright/slotwright/problems/IndexSet", "contains", "(I)Z"⟩ : MethodName)) (z := (⟨"com/example/slotwright/slotwright/problems/IndexSet", "contains", "(I)Z"⟩ : MethodName)) hown (mvT hZ (hw _ (List.mem_of_getElem? (i := 36) rfl))) (mvT hZ (hw _ (List.mem_of_getElem? (i := 37) rfl))) (notFace_of_selects (args := #[]) (mvT hZ (hw _ (List.mem_of_getElem? (i := 39) rfl)))) (mvT hZ (hw _ (List.mem_of_getElem? (i := 39) rfl))) (mvT hZ (hw _ (List.mem_of_getElem? (i := 38) rfl))) (by decide) (backOf (W := 0) (rm7 l Z a0 hw [] b88 dd mm89 pp89 n (upd (upd (fun _ => 0) (0 : Int32).toNatClampNeg aa) ((0 : Int32) + (1 : Int32)).toNatClampNeg bb) (upd (upd (fun _ => (-1 : Int32)) aa.toNatClampNeg (0 : Int32)) bb.toNatClampNeg ((0 : Int32) + (1 : Int32))) (((0 : Int32) + (1 : Int32)) + (1 : Int32)) T93.heap n0 Z93 Eo93 Fm93 Fp93 Fs93 Vm93 Vp93 ne_b88_mm89 ne_b88_pp89 ne_mm89_pp89 g_b88 g_mm89 g_pp89 ⟨hd.1, by omega⟩) hZ (hw _ (List.mem_of_getElem? (i := 40) rfl)) (hw _ (List.mem_of_getElem? (i := 3) rfl)) (by decide) (by decide)) q103a q103c (g := (mkF m 141 #[.val (.int u0), .val (.int u1), .val (.int u2), .val (.int u3), .val (.int zz), .val (.int aa), .val (.int bb), .val (.int dd), .val (.ref b88), .val (.int (1 : Int32))] [(.int dd), (.ref b88)])) rfl (by rw [hml]; rfl) (Steps.refl _) (argsL := [(.int dd)]) (rest := []) (lenOf pd_5 rfl) rfl (by show 2 * 0 + _ ≤ _; exact Nat.le_of_eq rfl) (hb hby at_141) (fun _ _ => ⟨rfl, e97, (by decide : 3 + 0 ≤ _), (by decide : 21 + 0 ≤ _)⟩)
  dsimp only [Pt.U, Pt.locs, Pt.cells, Pt.slots] at X103 l103 y103 z103 st103 hQ103
  subst l103 y103 z103
  obtain ⟨rfl, N103q, e103⟩ := hQ103
  have N103 := Fr.app N97 N103q
  refine Goes.of (fun t k => st103.trans k) ?_
  show Goes _ _ _ _ _ _ _ (T103.setTop (mkF m 144 #[.val (.int u0), .val (.int u1), .val (.int u2), .val (.int u3), .val (.int zz), .val (.int aa), .val (.int bb), .val (.int dd), .val (.ref b88), .val (.int (1 : Int32))] [(.int (f7 ((upd (upd (fun _ => (-1 : Int32)) aa.toNatClampNeg (0 : Int32)) bb.toNatClampNeg ((0 : Int32) + (1 : Int32))) dd.toNatClampNeg)))]))
  refine Goes.of (fun t k => XS.iload X103.here hx rfl (hb hby at_144) rfl k) ?_
  show Goes _ _ _ _ _ _ _ (T103.setTop (mkF m 146 #[.val (.int u0), .val (.int u1), .val (.int u2), .val (.int u3), .val (.int zz), .val (.int aa), .val (.int bb), .val (.int dd), .val (.ref b88), .val (.int (1 : Int32))] [(.int dd), (.int (f7 ((upd (upd (fun _ => (-1 : Int32)) aa.toNatClampNeg (0 : Int32)) bb.toNatClampNeg ((0 : Int32) + (1 : Int32))) dd.toNatClampNeg)))]))
  refine Goes.of (fun t k => XS.iload X103.here hx rfl (hb hby at_146) rfl k) ?_
  show Goes _ _ _ _ _ _ _ (T103.setTop (mkF m 148 #[.val (.int u0), .val (.int u1), .val (.int u2), .val (.int u3), .val (.int zz), .val (.int aa), .val (.int bb), .val (.int dd), .val (.ref b88), .val (.int (1 : Int32))] [(.int aa), (.int dd), (.int (f7 ((upd (upd (fun _ => (-1 : Int32)) aa.toNatClampNeg (0 : Int32)) bb.toNatClampNeg ((0 : Int32) + (1 : Int32))) dd.toNatClampNeg)))]))
  by_cases hc104 : dd = aa
  · refine Goes.of (fun t k => XS.icmpYes X103.here hx rfl (pc0 := 148) (pc' := 158) rfl (hb hby at_148) rfl (teq hc104).1 (by decide) (by decide) k) ?_
    show Goes _ _ _ _ _ _ _ (T103.setTop (mkF m 158 #[.val (.int u0), .val (.int u1), .val (.int u2), .val (.int u3), .val (.int zz), .val (.int aa), .val (.int bb), .val (.int dd), .val (.ref b88), .val (.int (1 : Int32))] [(.int (f7 ((upd (upd (fun _ => (-1 : Int32)) aa.toNatClampNeg (0 : Int32)) bb.toNatClampNeg ((0 : Int32) + (1 : Int32))) dd.toNatClampNeg)))]))
    refine Goes.of (fun t k => XS.iconst X103.here hx rfl (hb hby at_158) k) ?_
    show Goes _ _ _ _ _ _ _ (T103.setTop (mkF m 159 #[.val (.int u0), .val (.int u1), .val (.int u2), .val (.int u3), .val (.int zz), .val (.int aa), .val (.int bb), .val (.int dd), .val (.ref b88), .val (.int (1 : Int32))] [(.int (1 : Int32)), (.int (f7 ((upd (upd (fun _ => (-1 : Int32)) aa.toNatClampNeg (0 : Int32)) bb.toNatClampNeg ((0 : Int32) + (1 : Int32))) dd.toNatClampNeg)))]))
    refine Goes.of (fun t k => XS.goto X103.here hx rfl (pc0 := 159) (pc' := 163) rfl (hb hby at_159) (by decide) (by decide) k) ?_
    show Goes _ _ _ _ _ _ _ (T103.setTop (mkF m 163 #[.val (.int u0), .val (.int u1), .val (.int u2), .val (.int u3), .val (.int zz), .val (.int aa), .val (.int bb), .val (.int dd), .val (.ref b88), .val (.int (1 : Int32))] [(.int (1 : Int32)), (.int (f7 ((upd (upd (fun _ => (-1 : Int32)) aa.toNatClampNeg (0 : Int32)) bb.toNatClampNeg ((0 : Int32) + (1 : Int32))) dd.toNatClampNeg)))]))
    refine Goes.of (fun t k => XS.icmpNo X103.here hx rfl (hb hby at_163) rfl (teq ((own_ct ha.1 hB.1 hd.1 hB.2.2 (by decide)).trans (by rw [if_pos hc104]))).2 k) ?_
    show Goes _ _ _ _ _ _ _ (T103.setTop (mkF m 166 #[.val (.int u0), .val (.int u1), .val (.int u2), .val (.int u3), .val (.int zz), .val (.int aa), .val (.int bb), .val (.int dd), .val (.ref b88), .val (.int (1 : Int32))] []))
    refine Goes.of (fun t k => XS.iconst X103.here hx rfl (hb hby at_166) k) ?_
    show Goes _ _ _ _ _ _ _ (T103.setTop (mkF m 167 #[.val (.int u0), .val (.int u1), .val (.int u2), .val (.int u3), .val (.int zz), .val (.int aa), .val (.int bb), .val (.int dd), .val (.ref b88), .val (.int (1 : Int32))] [(.int (1 : Int32))]))
    refine Goes.of (fun t k => XS.goto X103.here hx rfl (pc0 := 167) (pc' := 171) rfl (hb hby at_167) (by decide) (by decide) k) ?_
    show Goes _ _ _ _ _ _ _ (T103.setTop (mkF m 171 #[.val (.int u0), .val (.int u1), .val (.int u2), .val (.int u3), .val (.int zz), .val (.int aa), .val (.int bb), .val (.int dd), .val (.ref b88), .val (.int (1 : Int32))] [(.int (1 : Int32))]))
    refine Goes.of (fun t k => XS.istore X103.here hx rfl (hb hby at_171) rfl (l' := #[.val (.int u0), .val (.int u1), .val (.int u2), .val (.int u3), .val (.int zz), .val (.int aa), .val (.int bb), .val (.int dd), .val (.ref b88), .val (.int (1 : Int32))]) rfl k) ?_
    show Goes _ _ _ _ _ _ _ (T103.setTop (mkF m 173 #[.val (.int u0), .val (.int u1), .val (.int u2), .val (.int u3), .val (.int zz), .val (.int aa), .val (.int bb), .val (.int dd), .val (.ref b88), .val (.int (1 : Int32))] []))
    exact j98 _ _  X103 e103 N103 
  · refine Goes.of (fun t k => XS.icmpNo X103.here hx rfl (hb hby at_148) rfl (feq hc104).1 k) ?_
    show Goes _ _ _ _ _ _ _ (T103.setTop (mkF m 151 #[.val (.int u0), .val (.int u1), .val (.int u2), .val (.int u3), .val (.int zz), .val (.int aa), .val (.int bb), .val (.int dd), .val (.ref b88), .val (.int (1 : Int32))] [(.int (f7 ((upd (upd (fun _ => (-1 : Int32)) aa.toNatClampNeg (0 : Int32)) bb.toNatClampNeg ((0 : Int32) + (1 : Int32))) dd.toNatClampNeg)))]))
    refine Goes.of (fun t k => XS.iload X103.here hx rfl (hb hby at_151) rfl k) ?_
    show Goes _ _ _ _ _ _ _ (T103.setTop (mkF m 153 #[.val (.int u0), .val (.int u1), .val (.int u2), .val (.int u3), .val (.int zz), .val (.int aa), .val (.int bb), .val (.int dd), .val (.ref b88), .val (.int (1 : Int32))] [(.int dd), (.int (f7 ((upd (upd (fun _ => (-1 : Int32)) aa.toNatClampNeg (0 : Int32)) bb.toNatClampNeg ((0 : Int32) + (1 : Int32))) dd.toNatClampNeg)))]))
    refine Goes.of (fun t k => XS.iload X103.here hx rfl (hb hby at_153) rfl k) ?_
    show Goes _ _ _ _ _ _ _ (T103.setTop (mkF m 155 #[.val (.int u0), .val (.int u1), .val (.int u2), .val (.int u3), .val (.int zz), .val (.int aa), .val (.int bb), .val (.int dd), .val (.ref b88), .val (.int (1 : Int32))] [(.int bb), (.int dd), (.int (f7 ((upd (upd (fun _ => (-1 : Int32)) aa.toNatClampNeg (0 : Int32)) bb.toNatClampNeg ((0 : Int32) + (1 : Int32))) dd.toNatClampNeg)))]))
    by_cases hc105 : dd = bb
    · refine Goes.of (fun t k => XS.icmpNo X103.here hx rfl (hb hby at_155) rfl (teq hc105).2 k) ?_
      show Goes _ _ _ _ _ _ _ (T103.setTop (mkF m 158 #[.val (.int u0), .val (.int u1), .val (.int u2), .val (.int u3), .val (.int zz), .val (.int aa), .val (.int bb), .val (.int dd), .val (.ref b88), .val (.int (1 : Int32))] [(.int (f7 ((upd (upd (fun _ => (-1 : Int32)) aa.toNatClampNeg (0 : Int32)) bb.toNatClampNeg ((0 : Int32) + (1 : Int32))) dd.toNatClampNeg)))]))
      refine Goes.of (fun t k => XS.iconst X103.here hx rfl (hb hby at_158) k) ?_
      show Goes _ _ _ _ _ _ _ (T103.setTop (mkF m 159 #[.val (.int u0), .val (.int u1), .val (.int u2), .val (.int u3), .val (.int zz), .val (.int aa), .val (.int bb), .val (.int dd), .val (.ref b88), .val (.int (1 : Int32))] [(.int (1 : Int32)), (.int (f7 ((upd (upd (fun _ => (-1 : Int32)) aa.toNatClampNeg (0 : Int32)) bb.toNatClampNeg ((0 : Int32) + (1 : Int32))) dd.toNatClampNeg)))]))
      refine Goes.of (fun t k => XS.goto X103.here hx rfl (pc0 := 159) (pc' := 163) rfl (hb hby at_159) (by decide) (by decide) k) ?_
      show Goes _ _ _ _ _ _ _ (T103.setTop (mkF m 163 #[.val (.int u0), .val (.int u1), .val (.int u2), .val (.int u3), .val (.int zz), .val (.int aa), .val (.int bb), .val (.int dd), .val (.ref b88), .val (.int (1 : Int32))] [(.int (1 : Int32)), (.int (f7 ((upd (upd (fun _ => (-1 : Int32)) aa.toNatClampNeg (0 : Int32)) bb.toNatClampNeg ((0 : Int32) + (1 : Int32))) dd.toNatClampNeg)))]))
      refine Goes.of (fun t k => XS.icmpNo X103.here hx rfl (hb hby at_163) rfl (teq ((own_ct ha.1 hB.1 hd.1 hB.2.2 (by decide)).trans (by rw [if_neg hc104, if_pos hc105]))).2 k) ?_
      show Goes _ _ _ _ _ _ _ (T103.setTop (mkF m 166 #[.val (.int u0), .val (.int u1), .val (.int u2), .val (.int u3), .val (.int zz), .val (.int aa), .val (.int bb), .val (.int dd), .val (.ref b88), .val (.int (1 : Int32))] []))
      refine Goes.of (fun t k => XS.iconst X103.here hx rfl (hb hby at_166) k) ?_
      show Goes _ _ _ _ _ _ _ (T103.setTop (mkF m 167 #[.val (.int u0), .val (.int u1), .val (.int u2), .val (.int u3), .val (.int zz), .val (.int aa), .val (.int bb), .val (.int dd), .val (.ref b88), .val (.int (1 : Int32))] [(.int (1 : Int32))]))
      refine Goes.of (fun t k => XS.goto X103.here hx rfl (pc0 := 167) (pc' := 171) rfl (hb hby at_167) (by decide) (by decide) k) ?_
      show Goes _ _ _ _ _ _ _ (T103.setTop (mkF m 171 #[.val (.int u0), .val (.int u1), .val (.int u2), .val (.int u3), .val (.int zz), .val (.int aa), .val (.int bb), .val (.int dd), .val (.ref b88), .val (.int (1 : Int32))] [(.int (1 : Int32))]))
      refine Goes.of (fun t k => XS.istore X103.here hx rfl (hb hby at_171) rfl (l' := #[.val (.int u0), .val (.int u1), .val (.int u2), .val (.int u3), .val (.int zz), .val (.int aa), .val (.int bb), .val (.int dd), .val (.ref b88), .val (.int (1 : Int32))]) rfl k) ?_
      show Goes _ _ _ _ _ _ _ (T103.setTop (mkF m 173 #[.val (.int u0), .val (.int u1), .val (.int u2), .val (.int u3), .val (.int zz), .val (.int aa), .val (.int bb), .val (.int dd), .val (.ref b88), .val (.int (1 : Int32))] []))
      exact j98 _ _  X103 e103 N103 
    · refine Goes.of (fun t k => XS.icmpYes X103.here hx rfl (pc0 := 155) (pc' := 162) rfl (hb hby at_155) rfl (feq hc105).2 (by decide) (by decide) k) ?_
      show Goes _ _ _ _ _ _ _ (T103.setTop (mkF m 162 #[.val (.int u0), .val (.int u1), .val (.int u2), .val (.int u3), .val (.int zz), .val (.int aa), .val (.int bb), .val (.int dd), .val (.ref b88), .val (.int (1 : Int32))] [(.int (f7 ((upd (upd (fun _ => (-1 : Int32)) aa.toNatClampNeg (0 : Int32)) bb.toNatClampNeg ((0 : Int32) + (1 : Int32))) dd.toNatClampNeg)))]))
      refine Goes.of (fun t k => XS.iconst X103.here hx rfl (hb hby at_162) k) ?_
      show Goes _ _ _ _ _ _ _ (T103.setTop (mkF m 163 #[.val (.int u0), .val (.int u1), .val (.int u2), .val (.int u3), .val (.int zz), .val (.int aa), .val (.int bb), .val (.int dd), .val (.ref b88), .val (.int (1 : Int32))] [(.int (0 : Int32)), (.int (f7 ((upd (upd (fun _ => (-1 : Int32)) aa.toNatClampNeg (0 : Int32)) bb.toNatClampNeg ((0 : Int32) + (1 : Int32))) dd.toNatClampNeg)))]))
      refine Goes.of (fun t k => XS.icmpNo X103.here hx rfl (hb hby at_163) rfl (teq ((own_ct ha.1 hB.1 hd.1 hB.2.2 (by decide)).trans (by rw [if_neg hc104, if_neg hc105]))).2 k) ?_
      show Goes _ _ _ _ _ _ _ (T103.setTop (mkF m 166 #[.val (.int u0), .val (.int u1), .val (.int u2), .val (.int u3), .val (.int zz), .val (.int aa), .val (.int bb), .val (.int dd), .val (.ref b88), .val (.int (1 : Int32))] []))
      refine Goes.of (fun t k => XS.iconst X103.here hx rfl (hb hby at_166) k) ?_
      show Goes _ _ _ _ _ _ _ (T103.setTop (mkF m 167 #[.val (.int u0), .val (.int u1), .val (.int u2), .val (.int u3), .val (.int zz), .val (.int aa), .val (.int bb), .val (.int dd), .val (.ref b88), .val (.int (1 : Int32))] [(.int (1 : Int32))]))
      refine Goes.of (fun t k => XS.goto X103.here hx rfl (pc0 := 167) (pc' := 171) rfl (hb hby at_167) (by decide) (by decide) k) ?_
      show Goes _ _ _ _ _ _ _ (T103.setTop (mkF m 171 #[.val (.int u0), .val (.int u1), .val (.int u2), .val (.int u3), .val (.int zz), .val (.int aa), .val (.int bb), .val (.int dd), .val (.ref b88), .val (.int (1 : Int32))] [(.int (1 : Int32))]))
      refine Goes.of (fun t k => XS.istore X103.here hx rfl (hb hby at_171) rfl (l' := #[.val (.int u0), .val (.int u1), .val (.int u2), .val (.int u3), .val (.int zz), .val (.int aa), .val (.int bb), .val (.int dd), .val (.ref b88), .val (.int (1 : Int32))]) rfl k) ?_
      show Goes _ _ _ _ _ _ _ (T103.setTop (mkF m 173 #[.val (.int u0), .val (.int u1), .val (.int u2), .val (.int u3), .val (.int zz), .val (.int aa), .val (.int bb), .val (.int dd), .val (.ref b88), .val (.int (1 : Int32))] []))
      exact j98 _ _  X103 e103 N103 
set_option maxRecDepth 65536 in
set_option maxHeartbeats 40000000 in
theorem comes_1 {Post : Tables → Env → Array Value → State → Outcome → State → Prop} (hpost : ∀ tb e args s v u, (limb_1_1.after args s (.returned v) u = true ∧ limb_1_2.after args s (.returned v) u = true ∧ True) → FrameEnd s (.returned v) u (Jvm.fieldLocs frame_1_writes args s ++ Jvm.arrayLocs frame_1_arrays args s ++ Jvm.staticLocs frame_1_statics s) 16 128 → Post tb e args s (.returned v) u) :
    ArmFor flags0 classFile x code maxLocals ret World_1 tables_1 room_1 Calls_1 rest_1 Pre_1 Post := by
  intro l hfl _ _ p e ha hc hk s m args below hf hA hF happ hP
  obtain ⟨hcalls, hrest, hpre⟩ := hP
  obtain ⟨-, -, -, hnamed, -, -, -, hat⟩ := (Spec.applies_iff hf).mp happ
  obtain ⟨hg, hn⟩ := and_e (Cond.before_iff.mp (show (Jvm.Cond.and given_1 narrow_1).before args s = true from hpre))
  obtain ⟨g106, g107⟩ := and_e hg
  obtain ⟨g108, g109⟩ := and_e g107
  obtain ⟨g110, g111⟩ := and_e g109
  obtain ⟨g112, g113⟩ := and_e g111
  obtain ⟨w0, w1, w2, w3, rfl⟩ : ∃ w0 w1 w2 w3 : Value, args = #[w0, w1, w2, w3] := by
    have hs : args.size = 4 := by simpa [Cond.value, given_1] using g106
    obtain ⟨L⟩ := args
    match L, hs with
    | [w0, w1, w2, w3], _ => exact ⟨w0, w1, w2, w3, rfl⟩
  have hw := fun d (hd : d ∈ tables_1) => atoms_spec (ws := Jvm.Cond.code x code maxLocals ret :: tables_1) hat d (List.mem_cons_of_mem _ hd)
  obtain ⟨i0, ei0⟩ := is_v g108
  obtain rfl : w0 = (.int i0) := Option.some.inj ei0
  obtain ⟨i1, ei1⟩ := is_v g110
  obtain rfl : w1 = (.int i1) := Option.some.inj ei1
  obtain ⟨i2, ei2⟩ := is_v g112
  obtain rfl : w2 = (.int i2) := Option.some.inj ei2
  obtain ⟨i3, ei3⟩ := is_v g113
  obtain rfl : w3 = (.int i3) := Option.some.inj ei3
  obtain ⟨n, o, h1, h2, h3, _, L, rfl, ⟨rfl, N⟩, hq⟩ := rm0 l s _ hw tables_1 i0 i1 i2 i3 s.heap s.heap.size (Nat.le_refl _) p e ha hc hk s m _ below hf ((Spec.applies_iff_loose hf).mp happ).1 ⟨rfl, State.Warmed39.refl s, rfl⟩ trivial
  exact ⟨n, _, h1, h2, h3, hpost _ _ _ _ _ _ ⟨Cond.after_iff.mpr rfl, Cond.after_iff.mpr (eq_i res_at (Term.int_eval (1)) rfl), trivial⟩ ⟨hq.1, hq.2.1, (hq.2.2.sift fun y hy => Or.inr (N y hy)).mono (by decide) (by decide)⟩⟩
theorem main_1_1 : Claimed_1_1 := comes_1 fun _ _ _ _ _ _ h hF => ⟨h.1, hF⟩
theorem main_1_2 : Claimed_1_2 := comes_1 fun _ _ _ _ _ _ h hF => ⟨h.2.1, hF⟩
end Jvm.Pilot.@@N@@
namespace Jvm.Pilot.@@N@@
open Jvm Jvm.ClassFile Sem Op Lib Jvm.Free Jvm.Stand Jvm.Pilot.@@N@@.Jvm.D
/-! MADE BY PROGRAM (witnessworld.py) out of the Statement's table words and the real class files: 10 classes; the members and pool entries that the words name. The judged class is class 1, her method 1. -/
namespace start1
open Jvm.ClassFile
def u (s : String) : CpInfo := .utf8 (stringToUtf16 s)
/-- a pool by its gaps: so many unusable entries, then the entry; so many at the end -/
def gap : Nat → List CpInfo → List CpInfo
  | 0, r => r
  | n + 1, r => .unusable :: gap n r
def poolList (es : List (Nat × CpInfo)) (last : Nat) : List CpInfo := es.foldr (fun e r => gap e.1 (e.2 :: r)) (gap last [])
def pool (es : List (Nat × CpInfo)) (last : Nat) : Array CpInfo := ⟨poolList es last⟩
def fileOf (pool : Array CpInfo) (this : Nat) (attrs : Array Attribute := #[]) (ms : Array MethodInfo := #[]) (fl : Nat := 33) (sup : Nat := 0) (ifs : Array Nat := #[]) (fds : Array FieldInfo := #[]) : ClassFile where
  minorVersion := 0
  majorVersion := 65
  constantPool := pool
  accessFlags := fl
  thisClass := this
  superClass := sup
  interfaces := ifs
  fields := fds
  methods := ms
  attributes := attrs
def plain (name : String) (sup : Option ClassId) : Class where
  name := name
  kind := .ordinary
  loader := none
  accessFlags := 33
  super := sup
  interfaces := #[]
  cf := none
  fields := #[]
  methods := #[]
  instanceTypes := #[]
  staticTypes := #[]
  resolved := #[]
  callSites := []
  init := .initialized
  statics := none
  mirror := none

def pool0 : Array CpInfo := pool [(5, u "<init>"), (0, u "()V"), (1, .class_ 10), (1, u "java/lang/Object")] 113

def k0c0 : Code := { maxStack := 0, maxLocals := 1, code := object_method_1_code, exceptionTable := #[], attributes := #[] }
def k0m0 : Method := { name := "<init>", desc := "()V", sig := { parameters := [], returnType := none }, accessFlags := 1, code := some k0c0 }
/-- java/lang/Object -/
def k0 : Class := { plain "java/lang/Object" none with
  accessFlags := 33
  interfaces := #[]
  cf := some (fileOf pool0 8 #[] #[{ accessFlags := 1, nameIndex := 5, descriptorIndex := 6, attributes := #[] }] 33 0 #[] #[])
  fields := #[]
  methods := #[k0m0]
  instanceTypes := #[]
  staticTypes := #[]
  resolved := Array.replicate 124 none
  statics := none }

def pool1 : Array CpInfo := pool [(2, .class_ 4), (1, u "java/lang/Object"), (0, u "<init>"), (0, u "()V"), (0, .integer 2147483647), (0, .class_ 9), (0, u "com/example/slotwright/slotwright/problems/IndexSet"), (0, .methodref 8 11), (0, .nameAndType 5 12), (0, u "(I)V"), (0, .methodref 8 14), (0, .nameAndType 15 12), (0, u "add"), (0, .methodref 8 17), (0, .nameAndType 18 19), (0, u "size"), (0, u "()I"), (0, .methodref 8 21), (0, .nameAndType 22 23), (0, u "get"), (0, u "(I)I"), (0, .methodref 8 25), (0, .nameAndType 26 27), (0, u "contains"), (0, u "(I)Z"), (0, .methodref 8 29), (0, .nameAndType 30 12), (0, u "remove"), (0, .class_ 32), (0, u "com/example/slotwright/slotwright/problems/IndexSetAddPinLaw"), (2, u "law"), (0, u "(IIII)Z")] 3

def k1m0 : Method := { name := "<init>", desc := "()V", sig := { parameters := [], returnType := none }, accessFlags := 1, code := none }
def k1c1 : Code := { maxStack := 4, maxLocals := 10, code := code, exceptionTable := #[], attributes := #[] }
def k1m1 : Method := { name := "law", desc := "(IIII)Z", sig := { parameters := [.int, .int, .int, .int], returnType := some .boolean }, accessFlags := 9, code := some k1c1 }
/-- com/example/slotwright/slotwright/problems/IndexSetAddPinLaw -/
def k1 : Class := { plain "com/example/slotwright/slotwright/problems/IndexSetAddPinLaw" (some 0) with
  accessFlags := 49
  interfaces := #[]
  cf := some (fileOf pool1 31 #[] #[{ accessFlags := 1, nameIndex := 5, descriptorIndex := 6, attributes := #[] }, { accessFlags := 9, nameIndex := 35, descriptorIndex := 36, attributes := #[] }] 49 2 #[] #[])
  fields := #[]
  methods := #[k1m0, k1m1]
  instanceTypes := #[]
  staticTypes := #[]
  resolved := Array.replicate 40 none
  statics := none }

def pool2 : Array CpInfo := pool [(1, .methodref 2 3), (0, .class_ 4), (0, .nameAndType 5 6), (0, u "java/lang/Object"), (0, u "<init>"), (0, u "()V"), (0, .fieldref 8 9), (0, .class_ 10), (0, .nameAndType 11 12), (0, u "com/example/slotwright/slotwright/problems/IndexSet"), (0, u "members"), (0, u "[I"), (0, .fieldref 8 14), (0, .nameAndType 15 12), (0, u "positions"), (0, .methodref 17 18), (0, .class_ 19), (0, .nameAndType 20 21), (0, u "java/util/Arrays"), (0, u "fill"), (0, u "([II)V"), (0, .fieldref 8 23), (0, .nameAndType 24 25), (0, u "size"), (0, u "I"), (0, u "(I)V"), (2, u "()I"), (0, u "get"), (0, u "(I)I"), (0, u "contains"), (0, u "(I)Z"), (1, u "add"), (0, u "remove")] 2

def k2c0 : Code := { maxStack := 2, maxLocals := 2, code := prog_12_method_1_code, exceptionTable := #[], attributes := #[] }
def k2m0 : Method := { name := "<init>", desc := "(I)V", sig := { parameters := [.int], returnType := none }, accessFlags := 1, code := some k2c0 }
def k2c1 : Code := { maxStack := 1, maxLocals := 1, code := prog_12_method_2_code, exceptionTable := #[], attributes := #[] }
def k2m1 : Method := { name := "size", desc := "()I", sig := { parameters := [], returnType := some .int }, accessFlags := 1, code := some k2c1 }
def k2c2 : Code := { maxStack := 2, maxLocals := 2, code := prog_12_method_3_code, exceptionTable := #[], attributes := #[] }
def k2m2 : Method := { name := "get", desc := "(I)I", sig := { parameters := [.int], returnType := some .int }, accessFlags := 1, code := some k2c2 }
def k2c3 : Code := { maxStack := 2, maxLocals := 2, code := prog_12_method_4_code, exceptionTable := #[], attributes := #[] }
def k2m3 : Method := { name := "contains", desc := "(I)Z", sig := { parameters := [.int], returnType := some .boolean }, accessFlags := 1, code := some k2c3 }
def k2c4 : Code := { maxStack := 6, maxLocals := 2, code := prog_12_method_5_code, exceptionTable := #[], attributes := #[] }
def k2m4 : Method := { name := "add", desc := "(I)V", sig := { parameters := [.int], returnType := none }, accessFlags := 1, code := some k2c4 }
def k2c5 : Code := { maxStack := 4, maxLocals := 4, code := prog_12_method_6_code, exceptionTable := #[], attributes := #[] }
def k2m5 : Method := { name := "remove", desc := "(I)V", sig := { parameters := [.int], returnType := none }, accessFlags := 1, code := some k2c5 }
/-- com/example/slotwright/slotwright/problems/IndexSet -/
def k2 : Class := { plain "com/example/slotwright/slotwright/problems/IndexSet" (some 0) with
  accessFlags := 49
  interfaces := #[]
  cf := some (fileOf pool2 8 #[] #[{ accessFlags := 1, nameIndex := 5, descriptorIndex := 26, attributes := #[] }, { accessFlags := 1, nameIndex := 24, descriptorIndex := 29, attributes := #[] }, { accessFlags := 1, nameIndex := 30, descriptorIndex := 31, attributes := #[] }, { accessFlags := 1, nameIndex := 32, descriptorIndex := 33, attributes := #[] }, { accessFlags := 1, nameIndex := 35, descriptorIndex := 26, attributes := #[] }, { accessFlags := 1, nameIndex := 36, descriptorIndex := 26, attributes := #[] }] 49 2 #[] #[{ accessFlags := 18, nameIndex := 11, descriptorIndex := 12, attributes := #[] }, { accessFlags := 18, nameIndex := 15, descriptorIndex := 12, attributes := #[] }, { accessFlags := 2, nameIndex := 24, descriptorIndex := 25, attributes := #[] }])
  fields := #[{ name := "members", type := (.array .int), accessFlags := 18, slot := 0, constantValue := 0 }, { name := "positions", type := (.array .int), accessFlags := 18, slot := 1, constantValue := 0 }, { name := "size", type := .int, accessFlags := 2, slot := 2, constantValue := 0 }]
  methods := #[k2m0, k2m1, k2m2, k2m3, k2m4, k2m5]
  instanceTypes := #[(.array .int), (.array .int), .int]
  staticTypes := #[]
  resolved := Array.replicate 39 none
  statics := none }

def pool3 : Array CpInfo := pool [(2, .class_ 4), (1, u "java/lang/Object"), (0, u "<init>"), (0, u "()V"), (7, .class_ 16), (1, u "java/util/Arrays"), (57, .class_ 76), (1, u "java/util/Arrays$NaturalOrder"), (36, .class_ 115), (1, u "java/util/Arrays$LegacyMergeSort"), (1, u "Z"), (257, .class_ 376), (0, u "java/util/Arrays$ArrayList"), (68, u "$assertionsDisabled"), (269, u "MIN_ARRAY_SORT_GRAN"), (0, u "I"), (2, u "INSERTIONSORT_THRESHOLD"), (120, u "fill"), (4, u "([II)V"), (129, .class_ 976), (0, u "java/util/Arrays$ArrayItr")] 52

def k3m0 : Method := { name := "<init>", desc := "()V", sig := { parameters := [], returnType := none }, accessFlags := 2, code := none }
def k3c1 : Code := { maxStack := 3, maxLocals := 4, code := jdk_65_method_103_code, exceptionTable := #[], attributes := #[] }
def k3m1 : Method := { name := "fill", desc := "([II)V", sig := { parameters := [(.array .int), .int], returnType := none }, accessFlags := 9, code := some k3c1 }
/-- java/util/Arrays -/
def k3 : Class := { plain "java/util/Arrays" (some 0) with
  accessFlags := 49
  interfaces := #[]
  cf := some (fileOf pool3 14 #[.nestMembers #[975, 375, 113, 74]] #[{ accessFlags := 2, nameIndex := 5, descriptorIndex := 6, attributes := #[] }, { accessFlags := 9, nameIndex := 840, descriptorIndex := 845, attributes := #[] }] 49 2 #[] #[{ accessFlags := 26, nameIndex := 715, descriptorIndex := 716, attributes := #[] }, { accessFlags := 26, nameIndex := 719, descriptorIndex := 716, attributes := #[] }, { accessFlags := 4120, nameIndex := 445, descriptorIndex := 117, attributes := #[] }])
  fields := #[{ name := "MIN_ARRAY_SORT_GRAN", type := .int, accessFlags := 26, slot := 0, constantValue := 0 }, { name := "INSERTIONSORT_THRESHOLD", type := .int, accessFlags := 26, slot := 1, constantValue := 0 }, { name := "$assertionsDisabled", type := .boolean, accessFlags := 4120, slot := 2, constantValue := 0 }]
  methods := #[k3m0, k3m1]
  instanceTypes := #[]
  staticTypes := #[.int, .int, .boolean]
  resolved := Array.replicate 1029 none
  statics := none }

def pool4 : Array CpInfo := pool [(1, u "java/lang/Cloneable"), (0, .class_ 1), (0, u "java/lang/Object"), (0, .class_ 3)] 3

/-- java/lang/Cloneable -/
def k4 : Class := { plain "java/lang/Cloneable" (some 0) with
  accessFlags := 1537
  interfaces := #[]
  cf := some (fileOf pool4 2 #[] #[] 1537 4 #[] #[])
  fields := #[]
  methods := #[]
  instanceTypes := #[]
  staticTypes := #[]
  resolved := Array.replicate 8 none
  statics := none }

def pool5 : Array CpInfo := pool [(1, u "java/io/Serializable"), (0, .class_ 1), (0, u "java/lang/Object"), (0, .class_ 3)] 3

/-- java/io/Serializable -/
def k5 : Class := { plain "java/io/Serializable" (some 0) with
  accessFlags := 1537
  interfaces := #[]
  cf := some (fileOf pool5 2 #[] #[] 1537 4 #[] #[])
  fields := #[]
  methods := #[]
  instanceTypes := #[]
  staticTypes := #[]
  resolved := Array.replicate 8 none
  statics := none }

/-- the primitive byte -/
def k6 : Class := { plain "byte" none with kind := .primitive 'B', accessFlags := 0x411 }
/-- [B -/
def k7 : Class := { plain "[B" (some 0) with kind := .array 6 .byte, interfaces := #[4, 5], accessFlags := 1041 }

/-- the primitive int -/
def k8 : Class := { plain "int" none with kind := .primitive 'I', accessFlags := 0x411 }
/-- [I -/
def k9 : Class := { plain "[I" (some 0) with kind := .array 8 .int, interfaces := #[4, 5], accessFlags := 1041 }

def heap : Heap := #[]
def classes : Array Class := #[k0, k1, k2, k3, k4, k5, k6, k7, k8, k9]
def interned : List (Array UInt16 × Addr) := []
def slotsUsed : Nat := 0
def theMethod : MethodId := ⟨1, 1⟩
def args0 : Array Value := #[.int 5, .int 7, .int 3, .int 4]
def aboutOver (below : List Frame) : State where
  vm := { classes := classes, interned := interned.toArray }
  heap := heap
  slotsUsed := slotsUsed
  threads := #[{ frames := .invoking theMethod args0 :: below }]
def below0 : List Frame := [.native { method := ⟨0, 0⟩, args := #[] }]
def about1 : State := aboutOver below0
def p0 : Program := .bare "" "" ""
def e0 : Env := launch0.env 0 0 0
theorem w_frames : about1.frames = Frame.invoking theMethod args0 :: below0 := rfl
set_option maxRecDepth 65536 in
theorem w_args : argsFit about1.vm theMethod args0 = true := by decide +kernel
set_option maxRecDepth 65536 in
theorem w_heap : heapFits about1 = true := by decide +kernel
set_option maxRecDepth 65536 in
theorem w_runnable : about1.curStatus? = some .runnable := by decide +kernel
set_option maxRecDepth 65536 in
theorem w_alone : about1.alone = true := by decide +kernel
set_option maxRecDepth 65536 in
theorem w_named : about1.methodNamed? x = some theMethod := by decide +kernel
set_option maxRecDepth 65536 in
theorem w_hears : about1.hears theMethod below0 = true := by decide +kernel
set_option maxRecDepth 65536 in
theorem w_ripe : about1.ripe theMethod args0 below0 = true := by decide +kernel
theorem w_running : about1.status = .running := rfl
set_option maxRecDepth 65536 in
theorem w_room : about1.hasRoom e0.platform room_1 = true :=
  launch0.hasRoom_least _ room_1 (by decide +kernel) (by decide +kernel) (by decide +kernel) (by decide +kernel) (by decide +kernel) (by decide +kernel)
theorem allAtoms_all (ts : List Jvm.Cond) (a : Array Jvm.Value) (st : Jvm.State) : (allAtoms ts).before a st = ts.all (fun c => c.before a st) := by
  induction ts with
  | nil => rfl
  | cons c t ih =>
    show (Jvm.Cond.and c (allAtoms t)).before a st = _
    rw [Jvm.Cond.before_and, ih, List.all_cons]
def words1 : List Jvm.Cond := Jvm.Cond.code x code maxLocals ret :: tables_1
/-- a 'code' word, met by the world's own term for the bytes: nothing is compared byte by byte -/
theorem code_word {y : MethodName} {bytes : ByteArray} {mx : Nat} {rt : Option FieldType} {a : Array Value} {s : State} {m : MethodId} {meth : Method} {c : Code} (h1 : s.methodNamed? y = some m) (h2 : s.vm.method? m = some meth) (h3 : meth.code = some c) (h4 : c.code = bytes)
    (h5 : (c.maxLocals == mx && c.exceptionTable.isEmpty && decide (c.maxStack ≤ mostOperands) && decide (meth.sig.returnType = rt) && !meth.locks && decide (parseMethodDescriptor y.desc = some meth.sig)) = true) : (Jvm.Cond.code y bytes mx rt).before a s = true := by
  simp only [Bool.and_eq_true, beq_iff_eq, Bool.not_eq_true', decide_eq_true_eq] at h5
  obtain ⟨⟨⟨⟨⟨g1, g2⟩, g3⟩, g4⟩, g5⟩, g6⟩ := h5
  simp [Cond.before, Cond.holds, Cond.value, h1, h2, h3, h4, g1, g2, g3, g4, g5, g6]
def isCode : Jvm.Cond → Bool
  | .code _ _ _ _ => true
  | _ => false
theorem all_split {L : List Jvm.Cond} {P : Jvm.Cond → Bool} (h1 : L.all (fun c => isCode c || P c) = true) (h2 : ∀ c ∈ L.filter isCode, P c = true) : L.all P = true := by
  refine List.all_eq_true.mpr fun c hc => ?_
  have h := List.all_eq_true.mp h1 c hc
  rcases Bool.eq_false_or_eq_true (isCode c) with hi | hi
  · exact h2 c (List.mem_filter.mpr ⟨hc, hi⟩)
  · simpa [hi] using h
set_option maxRecDepth 65536 in
theorem w_c0 : (Jvm.Cond.code x code maxLocals ret).before args0 about1 = true := code_word (m := ⟨1, 1⟩) (meth := k1m1) (c := k1c1) (by decide +kernel) rfl rfl rfl (by decide +kernel)
set_option maxRecDepth 65536 in
theorem w_c1 : (Jvm.Cond.code ({ cls := "com/example/slotwright/slotwright/problems/IndexSet", name := "<init>", desc := "(I)V" } : Jvm.MethodName) prog_12_method_1_code (2 : Nat) (Option.none : Option Jvm.ClassFile.FieldType)).before args0 about1 = true := code_word (m := ⟨2, 0⟩) (meth := k2m0) (c := k2c0) (by decide +kernel) rfl rfl rfl (by decide +kernel)
set_option maxRecDepth 65536 in
theorem w_c2 : (Jvm.Cond.code ({ cls := "java/lang/Object", name := "<init>", desc := "()V" } : Jvm.MethodName) object_method_1_code (1 : Nat) (Option.none : Option Jvm.ClassFile.FieldType)).before args0 about1 = true := code_word (m := ⟨0, 0⟩) (meth := k0m0) (c := k0c0) (by decide +kernel) rfl rfl rfl (by decide +kernel)
set_option maxRecDepth 65536 in
theorem w_c3 : (Jvm.Cond.code ({ cls := "java/util/Arrays", name := "fill", desc := "([II)V" } : Jvm.MethodName) jdk_65_method_103_code (4 : Nat) (Option.none : Option Jvm.ClassFile.FieldType)).before args0 about1 = true := code_word (m := ⟨3, 1⟩) (meth := k3m1) (c := k3c1) (by decide +kernel) rfl rfl rfl (by decide +kernel)
set_option maxRecDepth 65536 in
theorem w_c4 : (Jvm.Cond.code ({ cls := "com/example/slotwright/slotwright/problems/IndexSet", name := "add", desc := "(I)V" } : Jvm.MethodName) prog_12_method_5_code (2 : Nat) (Option.none : Option Jvm.ClassFile.FieldType)).before args0 about1 = true := code_word (m := ⟨2, 4⟩) (meth := k2m4) (c := k2c4) (by decide +kernel) rfl rfl rfl (by decide +kernel)
set_option maxRecDepth 65536 in
theorem w_c5 : (Jvm.Cond.code ({ cls := "com/example/slotwright/slotwright/problems/IndexSet", name := "size", desc := "()I" } : Jvm.MethodName) prog_12_method_2_code (1 : Nat) (Option.some Jvm.ClassFile.FieldType.int)).before args0 about1 = true := code_word (m := ⟨2, 1⟩) (meth := k2m1) (c := k2c1) (by decide +kernel) rfl rfl rfl (by decide +kernel)
set_option maxRecDepth 65536 in
theorem w_c6 : (Jvm.Cond.code ({ cls := "com/example/slotwright/slotwright/problems/IndexSet", name := "get", desc := "(I)I" } : Jvm.MethodName) prog_12_method_3_code (2 : Nat) (Option.some Jvm.ClassFile.FieldType.int)).before args0 about1 = true := code_word (m := ⟨2, 2⟩) (meth := k2m2) (c := k2c2) (by decide +kernel) rfl rfl rfl (by decide +kernel)
set_option maxRecDepth 65536 in
theorem w_c7 : (Jvm.Cond.code ({ cls := "com/example/slotwright/slotwright/problems/IndexSet", name := "contains", desc := "(I)Z" } : Jvm.MethodName) prog_12_method_4_code (2 : Nat) (Option.some Jvm.ClassFile.FieldType.boolean)).before args0 about1 = true := code_word (m := ⟨2, 3⟩) (meth := k2m3) (c := k2c3) (by decide +kernel) rfl rfl rfl (by decide +kernel)
set_option maxRecDepth 65536 in
theorem w_c8 : (Jvm.Cond.code ({ cls := "com/example/slotwright/slotwright/problems/IndexSet", name := "remove", desc := "(I)V" } : Jvm.MethodName) prog_12_method_6_code (4 : Nat) (Option.none : Option Jvm.ClassFile.FieldType)).before args0 about1 = true := code_word (m := ⟨2, 5⟩) (meth := k2m5) (c := k2c5) (by decide +kernel) rfl rfl rfl (by decide +kernel)
def codes1 : List Jvm.Cond := [Jvm.Cond.code x code maxLocals ret, Jvm.Cond.code ({ cls := "com/example/slotwright/slotwright/problems/IndexSet", name := "<init>", desc := "(I)V" } : Jvm.MethodName) prog_12_method_1_code (2 : Nat) (Option.none : Option Jvm.ClassFile.FieldType), Jvm.Cond.code ({ cls := "java/lang/Object", name := "<init>", desc := "()V" } : Jvm.MethodName) object_method_1_code (1 : Nat) (Option.none : Option Jvm.ClassFile.FieldType), Jvm.Cond.code ({ cls := "java/util/Arrays", name := "fill", desc := "([II)V" } : Jvm.MethodName) jdk_65_method_103_code (4 : Nat) (Option.none : Option Jvm.ClassFile.FieldType), Jvm.Cond.code ({ cls := "com/example/slotwright/slotwright/problems/IndexSet", name := "add", desc := "(I)V" } : Jvm.MethodName) prog_12_method_5_code (2 : Nat) (Option.none : Option Jvm.ClassFile.FieldType), Jvm.Cond.code ({ cls := "com/example/slotwright/slotwright/problems/IndexSet", name := "size", desc := "()I" } : Jvm.MethodName) prog_12_method_2_code (1 : Nat) (Option.some Jvm.ClassFile.FieldType.int), Jvm.Cond.code ({ cls := "com/example/slotwright/slotwright/problems/IndexSet", name := "get", desc := "(I)I" } : Jvm.MethodName) prog_12_method_3_code (2 : Nat) (Option.some Jvm.ClassFile.FieldType.int), Jvm.Cond.code ({ cls := "com/example/slotwright/slotwright/problems/IndexSet", name := "contains", desc := "(I)Z" } : Jvm.MethodName) prog_12_method_4_code (2 : Nat) (Option.some Jvm.ClassFile.FieldType.boolean), Jvm.Cond.code ({ cls := "com/example/slotwright/slotwright/problems/IndexSet", name := "remove", desc := "(I)V" } : Jvm.MethodName) prog_12_method_6_code (4 : Nat) (Option.none : Option Jvm.ClassFile.FieldType)]
set_option maxRecDepth 65536 in
theorem codes_eq : words1.filter isCode = codes1 := rfl
theorem w_codes : ∀ c ∈ words1.filter isCode, c.before args0 about1 = true := by
  rw [codes_eq]
  intro c hc
  simp only [codes1, List.mem_cons, List.not_mem_nil, or_false] at hc
  rcases hc with rfl | rfl | rfl | rfl | rfl | rfl | rfl | rfl | rfl
  · exact w_c0
  · exact w_c1
  · exact w_c2
  · exact w_c3
  · exact w_c4
  · exact w_c5
  · exact w_c6
  · exact w_c7
  · exact w_c8
set_option maxRecDepth 65536 in
theorem w_t1 : (words1.take 24).all (fun c => isCode c || c.before args0 about1) = true := by decide +kernel
set_option maxRecDepth 65536 in
theorem w_t2 : (words1.drop 24).all (fun c => isCode c || c.before args0 about1) = true := by decide +kernel
theorem w_tables : (allAtoms (Jvm.Cond.code x code maxLocals ret :: tables_1)).before args0 about1 = true := by
  rw [allAtoms_all]
  show words1.all (fun c => c.before args0 about1) = true
  refine all_split ?_ w_codes
  rw [← List.take_append_drop 24 words1, List.all_append, w_t1, w_t2]
  rfl
set_option maxRecDepth 65536 in
theorem w_case : (Jvm.Cond.and given_1 narrow_1).before args0 about1 = true := by decide +kernel
theorem w_applies : (headSpec (Jvm.Cond.code x code maxLocals ret :: tables_1) room_1).applies x e0.platform about1 = true :=
  (Spec.applies_iff w_frames).mpr ⟨w_running, w_runnable, w_alone, w_named, w_hears, w_ripe, w_room, w_tables⟩
theorem atStart : AtStart classFile x code maxLocals ret World_1 tables_1 room_1 Calls_1 rest_1 Pre_1 launch0 p0 e0 about1 theMethod args0 below0 :=
  ⟨lists_1, trivial, launch0.admits_env _ _ _, launch0.least_env, fairChoices_fair.cas, fairChoices_fair.clock, w_frames, w_args, w_heap, w_applies, trivial, trivial, w_case⟩
end start1
theorem witness_1 : WitnessClaimed_1 := ⟨start1.p0, start1.e0, start1.about1, start1.theMethod, start1.args0, start1.below0, start1.atStart⟩
end Jvm.Pilot.@@N@@
