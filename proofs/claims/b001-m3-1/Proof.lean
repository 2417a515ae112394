import JvmDerived
import JvmDerived.Pilot.@@N@@Statement
import JvmDerived.Pilot.@@N@@Code
set_option linter.unusedVariables false
set_option linter.unusedSimpArgs false
namespace Jvm.RoadKit
open Sem ClassFile Op Lib Jvm.Stand Jvm.Free Jvm.LawKit
section New
variable {p : Program} {l : Launch} {e : Env} {R : Room} {s : State} {m : MethodId} {args : Array Value} {below : List Frame} {meth : Method} {c : Code} {T : State} {locs : List Loc} {cells slots : Nat}
theorem retI (X : Stand p l e R s m args below meth c T locs cells slots) (hx : p.tables.exec = Jvm.exec) {pc : Nat} {Ls : Array Slot} {z : Int32} {rest : List Value} (hret : meth.sig.returnType = some .int) (hd : decode c.code pc = .ok (.ireturn, 1)) {fs : List Frame}
    (hl : ∀ (f : JFrame) (acts : List Action), f.method = m → f.locked = none → f.entered = [] → (doReturn e (T.setTop f) acts (some (.int z))).1 = T.setFrames fs) : Steps p.tables e below (T.setTop (mkF m pc Ls (.int z :: rest))) (T.setFrames fs) := by
  have hm' : T.vm.method? m = some meth := X.method'
  have hn : narrow .int (.int z) = .int z := rfl
  show Steps p.tables e below (T.setTop { method := m, pc := pc, locals := Ls, stack := _ :: rest, locked := none }) _
  jvm_step X.here [X.here.top, hx, hd, hm', hret, hn]
  first | (intro acts; rw [hl _ acts rfl rfl rfl]) | rw [hl _ _ rfl rfl rfl]
  exact Steps.refl _
end New
end Jvm.RoadKit
namespace Jvm.Pilot.@@N@@
open Jvm Jvm.ClassFile Sem Op Lib Jvm.Free Jvm.Stand Jvm.LawKit Jvm.RoadKit Bundle Jvm.Pilot.@@N@@.Jvm.D
section OwnKit
variable {p : Program} {l : Launch} {e : Env} {R : Room} {s : State} {m : MethodId} {args : Array Value} {below : List Frame} {meth : Method} {c : Code} {T : State} {locs : List Loc} {cells slots : Nat}
/-- from S the run comes to a return of which F holds -/
def Goes (tb : Tables) (e : Env) (below : List Frame) (s : State) (F : Option Value → Heap → List Loc → Prop) (k n : Nat) (S : State) : Prop :=
  ∃ s₂ o, Steps tb e below S s₂ ∧ s₂.status = .running ∧ Ended s₂ below o ∧ ∃ v L, o = .returned v ∧ F v s₂.heap L ∧ FrameEnd s o s₂ L k n
theorem Goes.of {tb : Tables} {F : Option Value → Heap → List Loc → Prop} {k n : Nat} {S S' : State} (h : ∀ t, Steps tb e below S' t → Steps tb e below S t) (g : Goes tb e below s F k n S') : Goes tb e below s F k n S := by
  obtain ⟨s₂, o, h1, r⟩ := g
  exact ⟨s₂, o, h _ h1, r⟩
theorem Goes.mono {tb : Tables} {F G : Option Value → Heap → List Loc → Prop} {k n : Nat} {S : State} (h : ∀ v h L, F v h L → G v h L) (g : Goes tb e below s F k n S) : Goes tb e below s G k n S := by
  obtain ⟨s₂, o, h1, h2, h3, v, L, h4, h5, h6⟩ := g
  exact ⟨s₂, o, h1, h2, h3, v, L, h4, h _ _ _ h5, h6⟩
theorem Goes.fin (X : Stand p l e R s m args below meth c T locs cells slots) (hlk : meth.locks = false) {v : Option Value} {F : Option Value → Heap → List Loc → Prop} {k n : Nat} {S : State} (hv : meth.sig.returnType = none → v = none)
    (step : ∀ fs, (∀ (f : JFrame) (acts : List Action), f.method = m → f.locked = none → f.entered = [] → (doReturn e (T.setTop f) acts v).1 = T.setFrames fs) → Steps p.tables e below S (T.setFrames fs)) (hF : F v T.heap locs) (hk : cells ≤ k) (hn : slots ≤ n) : Goes p.tables e below s F k n S := by
  obtain ⟨fs, hr, hrun, hended, hW, hsame⟩ := X.leave hv hlk
  exact ⟨_, _, step fs hr, hrun, hended, v, locs, rfl, hF, ⟨_, rfl⟩, hW, hsame.mono hk hn⟩
end OwnKit
section OwnArr
variable {p : Program} {l : Launch} {e : Env} {R : Room} {s : State} {m : MethodId} {args : Array Value} {below : List Frame} {meth : Method} {c : Code} {T : State} {locs : List Loc} {cells slots : Nat} {Z : State} {h h' : Heap} {a b : Addr} {ty : FieldType} {n i : Nat} {f : Nat → Int32} {ws : List Addr} {sl : Nat} {w : Value}
/-- at a stands an array of n places; place j holds f j -/
def AI (Z : State) (h : Heap) (a : Addr) (ty : FieldType) (n : Nat) (f : Nat → Int32) : Prop :=
  ∃ c : Cell, Arr Z h a c ty ∧ c.slots.size = n ∧ n < 2147483648 ∧ ∀ j, j < n → c.slots[j]? = some (.int (f j)) ∧ fits ty (.int (f j)) = true
def upd (f : Nat → Int32) (i : Nat) (v : Int32) : Nat → Int32 := fun j => if j = i then v else f j
theorem AI.lt (F : AI Z h a ty n f) : a < h.size := by obtain ⟨c, A, -⟩ := F; exact A.lt
theorem AI.ext (F : AI Z h a ty n f) (E : Ext h h') : AI Z h' a ty n f := by obtain ⟨c, A, r⟩ := F; exact ⟨c, A.ext E, r⟩
theorem AI.other (F : AI Z h a ty n f) (W : Wr h h' b sl w) (q : a ≠ b) : AI Z h' a ty n f := by obtain ⟨c, A, r⟩ := F; exact ⟨c, A.other W q, r⟩
theorem AI.keep (F : AI Z h a ty n f) (K : Keep h h' ws) (q : a ∉ ws) : AI Z h' a ty n f := by obtain ⟨c, A, r⟩ := F; exact ⟨c, ⟨K.2.1 a c A.1 q, A.2⟩, r⟩
theorem AI.congr {f' : Nat → Int32} (F : AI Z h a ty n f) (q : ∀ j, j < n → f j = f' j) : AI Z h a ty n f' := by
  obtain ⟨c, A, S, M, H⟩ := F
  exact ⟨c, A, S, M, fun j hj => by rw [← q j hj]; exact H j hj⟩
theorem AI.fits (F : AI Z h a ty n f) {j : Nat} (hj : j < n) : Jvm.fits ty (.int (f j)) = true := by
  obtain ⟨c, A, S, M, H⟩ := F
  exact (H j hj).2
theorem AI.new {cA : ClassId} {z : Int32} (hd : defaultValue ty = .int 0) (hf : Jvm.fits ty (.int 0) = true) (A : Arr Z h a (newA cA ty z) ty) (q : ¬ z < 0) (hn : z.toNatClampNeg = n) : AI Z h a ty n (fun _ => 0) := by
  subst hn
  refine ⟨_, A, sz_new _ _ _, (back32 q).2, fun j hj => ⟨?_, hf⟩⟩
  show (Array.replicate z.toNatClampNeg (defaultValue ty))[j]? = _
  rw [hd, Array.getElem?_replicate, if_pos hj]
theorem AI.set {v : Int32} (F : AI Z h a ty n f) (W : Wr h h' a i (.int v)) (hv : Jvm.fits ty (.int v) = true) : AI Z h' a ty n (upd f i v) := by
  obtain ⟨c, A, S, M, H⟩ := F
  refine ⟨c.setSlot i (.int v), A.same W, by rw [sz_set]; exact S, M, fun j hj => ?_⟩
  show (c.slots.setIfInBounds i (.int v))[j]? = _ ∧ _
  by_cases q : j = i
  · subst q
    rw [Array.getElem?_setIfInBounds_self_of_lt (by omega)]
    have e : upd f j v j = v := if_pos rfl
    rw [e]; exact ⟨rfl, hv⟩
  · rw [Array.getElem?_setIfInBounds_ne (Ne.symm q)]
    have e : upd f i v j = f j := if_neg q
    rw [e]; exact H j hj
theorem own_nn {j : Int32} (h : 0 ≤ j.toInt) : ¬ j < 0 := by
  rw [Int32.lt_iff_toInt_lt, show (0 : Int32).toInt = 0 from rfl]; omega
theorem own_ltn {j : Int32} {n : Nat} (h0 : 0 ≤ j.toInt) (h : j.toInt < n) : j.toNatClampNeg < n := by
  simp only [Int32.toNatClampNeg]; omega
theorem own_tn {z : Int32} {n : Nat} (h : z.toInt = n) : z.toNatClampNeg = n := by
  simp only [Int32.toNatClampNeg]; omega
theorem own_inc {i : Int32} (h : i.toInt < 2147483647) : (i + (1 : Int32)).toInt = i.toInt + 1 := by
  have a := c_iadd i 1
  have r := rng32 (i + 1)
  have r2 := rng32 i
  rw [show (1 : Int32).toInt = 1 from rfl] at a
  omega
theorem own_ilt {a b : Int32} (h : a.toInt < b.toInt) : a < b := by rw [Int32.lt_iff_toInt_lt]; exact h
theorem own_nlt {a b : Int32} (h : b.toInt ≤ a.toInt) : ¬ a < b := by rw [Int32.lt_iff_toInt_lt]; omega
theorem own_ltI {a b : Int32} (h : a < b) : a.toInt < b.toInt := Int32.lt_iff_toInt_lt.mp h
theorem own_geI {a b : Int32} (h : ¬ a < b) : b.toInt ≤ a.toInt := by rw [Int32.lt_iff_toInt_lt] at h; omega
theorem own_neI {a b : Int32} (h : ¬ a = b) : a.toInt ≠ b.toInt := fun q => h (Int32.toInt_inj.mp q)
theorem own_turn {G : Nat → Int32} {n k i : Nat} {w : Int32} (hi : i + (k + 1) = n) (hw : w = G i) : ∀ j, j < n → upd (fun j => if j + (k + 1) < n then G j else 0) i w j = if j + k < n then G j else 0 := by
  intro j hj
  by_cases q : j = i
  · subst q
    rw [if_pos (by omega)]
    exact (if_pos rfl).trans hw
  · refine (if_neg q).trans ?_
    by_cases r : j + (k + 1) < n
    · show (if _ then _ else _) = _
      rw [if_pos r, if_pos (by omega)]
    · show (if _ then _ else _) = _
      rw [if_neg r, if_neg (by omega)]
theorem own_turn2 {D : Nat → Int32} {n k i : Nat} {w : Int32} (hi : i + (k + 1) = n) : ∀ j, j < n → upd (fun j => if j + (k + 1) < n then w else D j) i w j = if j + k < n then w else D j := by
  intro j hj
  by_cases q : j = i
  · subst q
    rw [if_pos (by omega)]
    exact if_pos rfl
  · refine (if_neg q).trans ?_
    by_cases r : j + (k + 1) < n
    · show (if _ then _ else _) = _
      rw [if_pos r, if_pos (by omega)]
    · show (if _ then _ else _) = _
      rw [if_neg r, if_neg (by omega)]
theorem own_in {cl : Cell} {j : Int32} (S : cl.slots.size = n) (h0 : ¬ j < 0) (hi : j.toNatClampNeg = i) (hn : i < n) : ¬ (j < 0 ∨ cl.slots.size ≤ j.toNatClampNeg) := by
  rintro (q | q)
  · exact h0 q
  · omega
theorem ldI (X : Stand p l e R s m args below meth c T locs cells slots) (hx : p.tables.exec = Jvm.exec) (hZ : Z.Warmed39 s.vm) (eT : T.heap = h) (F : AI Z h a .int n f) {j v : Int32} (h0 : ¬ j < 0) (hi : j.toNatClampNeg = i) (hn : i < n) (hv : f i = v) {g : JFrame} (hg : g.method = m) {rest : List Value} (hs : g.stack = .int j :: .ref a :: rest) (hd : decode c.code g.pc = .ok (.iaload, 1)) (t : State)
    (k : Steps p.tables e below (T.setTop { g with pc := g.pc + 1, stack := .int v :: rest }) t) : Steps p.tables e below (T.setTop g) t := by
  obtain ⟨cl, A, S, M, H⟩ := F
  exact X.iaload hx (j := j) (v := .int v) (by rw [eT]; exact A.1) (State.isArrayOf_alike hZ.alike A.2.1) A.2.2 (own_in S h0 hi hn) (by rw [hi, (H i hn).1, hv]) hg hs hd t k
theorem ldB (X : Stand p l e R s m args below meth c T locs cells slots) (hx : p.tables.exec = Jvm.exec) (hZ : Z.Warmed39 s.vm) (eT : T.heap = h) (F : AI Z h a .byte n f) {j v : Int32} (h0 : ¬ j < 0) (hi : j.toNatClampNeg = i) (hn : i < n) (hv : f i = v) {g : JFrame} (hg : g.method = m) {rest : List Value} (hs : g.stack = .int j :: .ref a :: rest) (hd : decode c.code g.pc = .ok (.baload, 1)) (t : State)
    (k : Steps p.tables e below (T.setTop { g with pc := g.pc + 1, stack := .int v :: rest }) t) : Steps p.tables e below (T.setTop g) t := by
  obtain ⟨cl, A, S, M, H⟩ := F
  exact X.baloadBytes hx (j := j) (v := .int v) (by rw [eT]; exact A.1) (State.isArrayOf_alike hZ.alike A.2.1) A.2.2 (own_in S h0 hi hn) (by rw [hi, (H i hn).1, hv]) hg hs hd t k
theorem ldZ (X : Stand p l e R s m args below meth c T locs cells slots) (hx : p.tables.exec = Jvm.exec) (hZ : Z.Warmed39 s.vm) (eT : T.heap = h) (F : AI Z h a .boolean n f) {j v : Int32} (h0 : ¬ j < 0) (hi : j.toNatClampNeg = i) (hn : i < n) (hv : f i = v) {g : JFrame} (hg : g.method = m) {rest : List Value} (hs : g.stack = .int j :: .ref a :: rest) (hd : decode c.code g.pc = .ok (.baload, 1)) (t : State)
    (k : Steps p.tables e below (T.setTop { g with pc := g.pc + 1, stack := .int v :: rest }) t) : Steps p.tables e below (T.setTop g) t := by
  obtain ⟨cl, A, S, M, H⟩ := F
  exact X.baloadBooleans hx (j := j) (v := .int v) (by rw [eT]; exact A.1) (State.isArrayOf_alike hZ.alike A.2.1) A.2.2 (own_in S h0 hi hn) (by rw [hi, (H i hn).1, hv]) hg hs hd t k
theorem putI (X : Stand p l e R s m args below meth c T locs cells slots) (hx : p.tables.exec = Jvm.exec) (hZ : Z.Warmed39 s.vm) (eT : T.heap = h) (F : AI Z h a .int n f) {j x : Int32} (h0 : ¬ j < 0) (hi : j.toNatClampNeg = i) (hn : i < n) {g : JFrame} (hg : g.method = m) {rest : List Value} (hs : g.stack = .int x :: .int j :: .ref a :: rest) (hd : decode c.code g.pc = .ok (.iastore, 1)) :
    ∃ T' h', Stand p l e R s m args below meth c T' (locs ++ [⟨a, i⟩]) cells slots ∧ T'.heap = h' ∧ Wr h h' a i (.int x) ∧ AI Z h' a .int n (upd f i x) ∧ ∀ t, Steps p.tables e below (T'.setTop { g with pc := g.pc + 1, stack := rest }) t → Steps p.tables e below (T.setTop g) t := by
  have F0 := F
  obtain ⟨cl, A, S, M, H⟩ := F
  subst hi
  obtain ⟨T', h', X', e', W, st⟩ := stI X hx hZ eT A (own_in S h0 rfl hn) hg hs hd
  exact ⟨T', h', X', e', W, F0.set W rfl, st⟩
theorem putB (X : Stand p l e R s m args below meth c T locs cells slots) (hx : p.tables.exec = Jvm.exec) (hZ : Z.Warmed39 s.vm) (eT : T.heap = h) (F : AI Z h a .byte n f) {j x : Int32} (h0 : ¬ j < 0) (hi : j.toNatClampNeg = i) (hn : i < n) {g : JFrame} (hg : g.method = m) {rest : List Value} (hs : g.stack = .int x :: .int j :: .ref a :: rest) (hd : decode c.code g.pc = .ok (.bastore, 1)) :
    ∃ T' h', Stand p l e R s m args below meth c T' (locs ++ [⟨a, i⟩]) cells slots ∧ T'.heap = h' ∧ Wr h h' a i (.int x.toInt8.toInt32) ∧ AI Z h' a .byte n (upd f i x.toInt8.toInt32) ∧ ∀ t, Steps p.tables e below (T'.setTop { g with pc := g.pc + 1, stack := rest }) t → Steps p.tables e below (T.setTop g) t := by
  have F0 := F
  obtain ⟨cl, A, S, M, H⟩ := F
  subst hi
  obtain ⟨T', h', X', e', W, st⟩ := stB X hx hZ eT A (own_in S h0 rfl hn) hg hs hd
  exact ⟨T', h', X', e', W, F0.set W (fits_nar_byte x), st⟩
theorem putZ (X : Stand p l e R s m args below meth c T locs cells slots) (hx : p.tables.exec = Jvm.exec) (hZ : Z.Warmed39 s.vm) (eT : T.heap = h) (F : AI Z h a .boolean n f) {j x : Int32} (h0 : ¬ j < 0) (hi : j.toNatClampNeg = i) (hn : i < n) {g : JFrame} (hg : g.method = m) {rest : List Value} (hs : g.stack = .int x :: .int j :: .ref a :: rest) (hd : decode c.code g.pc = .ok (.bastore, 1)) :
    ∃ T' h', Stand p l e R s m args below meth c T' (locs ++ [⟨a, i⟩]) cells slots ∧ T'.heap = h' ∧ Wr h h' a i (.int (x &&& 1)) ∧ AI Z h' a .boolean n (upd f i (x &&& 1)) ∧ ∀ t, Steps p.tables e below (T'.setTop { g with pc := g.pc + 1, stack := rest }) t → Steps p.tables e below (T.setTop g) t := by
  have F0 := F
  obtain ⟨cl, A, S, M, H⟩ := F
  subst hi
  obtain ⟨T', h', X', e', W, st⟩ := stZ X hx hZ eT A (own_in S h0 rfl hn) hg hs hd
  exact ⟨T', h', X', e', W, F0.set W (fits_nar_bool x), st⟩
theorem lenA (X : Stand p l e R s m args below meth c T locs cells slots) (hx : p.tables.exec = Jvm.exec) (hZ : Z.Warmed39 s.vm) (eT : T.heap = h) (F : AI Z h a ty n f) {z : Int32} (hz : z.toInt = n) {g : JFrame} (hg : g.method = m) {rest : List Value} (hs : g.stack = .ref a :: rest) (hd : decode c.code g.pc = .ok (.arraylength, 1)) (t : State)
    (k : Steps p.tables e below (T.setTop { g with pc := g.pc + 1, stack := .int z :: rest }) t) : Steps p.tables e below (T.setTop g) t := by
  obtain ⟨cl, A, S, M, H⟩ := F
  have e1 : cl.slots.size.toInt32 = z := by rw [S]; exact Int32.toInt_inj.mp (by rw [len_toInt M, hz])
  exact X.arraylength hx (by rw [eT]; exact A.1) (State.isArrayOf_alike hZ.alike A.2.1) hg hs hd t (by rw [e1]; exact k)
end OwnArr
theorem d2_0 : decode jdk_30_method_1_code 0 = .ok (.aload_n 0, 1) := by decide +kernel
theorem d2_1 : decode jdk_30_method_1_code 1 = .ok (.invokespecial 1, 3) := by decide +kernel
theorem d2_4 : decode jdk_30_method_1_code 4 = .ok (.return_, 1) := by decide +kernel
theorem pn_0 : plainName "java/lang/Record" = true := by first | (simp [plainName, overriddenIn]; done) | decide +kernel
theorem pd_0 : parseMethodDescriptor "()V" = some ⟨[], none⟩ := by decide +kernel
theorem ef_2 (m : MethodId) (o : Addr) : entryFrame m #[(.ref o)] 1 = mkF m 0 #[.val (.ref o)] [] := by first | (simp [entryFrame, mkF, argsToLocals, Value.category]; done) | rfl
def Q2 (h0 : Heap) (n0 : Nat) (v : Option Value) (h : Heap) (L : List Loc) : Prop := v = none ∧ Fr n0 L ∧ h = h0
set_option maxRecDepth 65536 in
set_option maxHeartbeats 40000000 in
theorem rm2 (l : Launch) (Z : State) (a0 : Array Value) (hw : ∀ d ∈ tables_1, d.before a0 Z = true) (ws : List Jvm.Cond) (o : Addr) (h0 : Heap) (n0 : Nat) (Z0 : n0 ≤ h0.size) :
    MetFree l (⟨"java/lang/Record", "<init>", "()V"⟩ : MethodName) (head1 (Jvm.Cond.code (⟨"java/lang/Record", "<init>", "()V"⟩ : MethodName) jdk_30_method_1_code 1 none :: ws) ({ frames := 1, cells := 0, slots := 0, locals := 12 } : Room)) (fun ar' Ur => ar' = #[(.ref o)] ∧ Z.Warmed39 Ur.vm ∧ Ur.heap = h0) (fun _ _ _ _ _ => True) (fun _ Ur or' Us => ∃ v L, or' = .returned v ∧ Q2 h0 n0 v Us.heap L ∧ FrameEnd Ur or' Us L 0 0) := by
  refine MetFree.of_bodySF (plainFor_of_name pn_0) hisR ?_
  intro p e s m args below meth c s₁ Bd hml0 hP hK
  obtain ⟨rfl, hZ, hh⟩ := hP
  have hx := Bd.exec
  have hby := Bd.bytes
  have hlk : meth.locks = false := BodyLoose.notSynchronized Bd
  have hml : c.maxLocals = 1 := hml0
  have hown : s.vm.findClass "java/lang/Record" = some m.cls := findClass_of_methodNamed Bd.named
  have hnm := (name_of_methodNamed Bd.named Bd.method).1
  have X0 : Stand p l e ({ frames := 1, cells := 0, slots := 0, locals := 12 } : Room) s m #[(.ref o)] below meth c s₁ [] 0 0 := Stand.of_body Bd
  have e0 : s₁.heap = h0 := by rw [← hh, Bd.state]; rfl
  have N0 := Fr.nil n0
  show Goes p.tables e below s (Q2 h0 n0) 0 0 (s₁.setTop (entryFrame m #[(.ref o)] 1))
  refine Goes.of (fun t k => castTop (ef_2 m o) k) ?_
  show Goes _ _ _ _ _ _ _ (s₁.setTop (mkF m 0 #[.val (.ref o)] []))
  refine Goes.of (fun t k => XS.aloadN X0.here hx rfl (hb hby d2_0) rfl rfl k) ?_
  show Goes _ _ _ _ _ _ _ (s₁.setTop (mkF m 1 #[.val (.ref o)] [(.ref o)]))
  obtain ⟨T1, X1, e1, st1⟩ := initO X0 hx hZ hown (hw _ (List.mem_of_getElem? (i := 11) rfl)) (hw _ (List.mem_of_getElem? (i := 12) rfl)) (hw _ (List.mem_of_getElem? (i := 13) rfl)) e0 (g := (mkF m 1 #[.val (.ref o)] [(.ref o)])) rfl (by rw [hml]; rfl) rfl (hb hby d2_1) (by decide) (W := 0) (by show 2 * 0 + _ ≤ _; exact Nat.le_of_eq rfl) (by decide)
  refine Goes.of st1 ?_
  show Goes _ _ _ _ _ _ _ (T1.setTop (mkF m 4 #[.val (.ref o)] []))
  exact Goes.fin X1 hlk (v := none) (fun _ => rfl) (fun fs hr => X1.returnOut hx Bd.returns (hb hby d2_4) hr) ⟨rfl, N0, e1⟩ (by decide) (by decide)
theorem d1_0 : decode prog_41_method_1_code 0 = .ok (.aload_n 0, 1) := by decide +kernel
theorem d1_1 : decode prog_41_method_1_code 1 = .ok (.invokespecial 1, 3) := by decide +kernel
theorem d1_4 : decode prog_41_method_1_code 4 = .ok (.aload_n 0, 1) := by decide +kernel
theorem d1_5 : decode prog_41_method_1_code 5 = .ok (.iload_n 1, 1) := by decide +kernel
theorem d1_6 : decode prog_41_method_1_code 6 = .ok (.putfield 7, 3) := by decide +kernel
theorem d1_9 : decode prog_41_method_1_code 9 = .ok (.aload_n 0, 1) := by decide +kernel
theorem d1_10 : decode prog_41_method_1_code 10 = .ok (.iload_n 2, 1) := by decide +kernel
theorem d1_11 : decode prog_41_method_1_code 11 = .ok (.putfield 13, 3) := by decide +kernel
theorem d1_14 : decode prog_41_method_1_code 14 = .ok (.aload_n 0, 1) := by decide +kernel
theorem d1_15 : decode prog_41_method_1_code 15 = .ok (.iload_n 3, 1) := by decide +kernel
theorem d1_16 : decode prog_41_method_1_code 16 = .ok (.putfield 16, 3) := by decide +kernel
theorem d1_19 : decode prog_41_method_1_code 19 = .ok (.return_, 1) := by decide +kernel
theorem pn_1 : plainName "com/example/verbguard/verbguard/SegmentPart$Traits" = true := by first | (simp [plainName, overriddenIn]; done) | decide +kernel
theorem ef_1 (m : MethodId) (o : Addr) (b1 : Int32) (b2 : Int32) (b3 : Int32) : entryFrame m #[(.ref o), (.int b1), (.int b2), (.int b3)] 4 = mkF m 0 #[.val (.ref o), .val (.int b1), .val (.int b2), .val (.int b3)] [] := by first | (simp [entryFrame, mkF, argsToLocals, Value.category]; done) | rfl
def Q1 (Z : State) (o : Addr) (b1 b2 b3 : Int32) (h0 : Heap) (n0 : Nat) (v : Option Value) (h : Heap) (L : List Loc) : Prop := v = none ∧ Fr n0 L ∧ Keep h0 h [o] ∧ Fld Z h o "com/example/verbguard/verbguard/SegmentPart$Traits" "commits" "Z" (.int (b1 &&& 1)) ∧ Fld Z h o "com/example/verbguard/verbguard/SegmentPart$Traits" "clusters" "Z" (.int (b2 &&& 1)) ∧ Fld Z h o "com/example/verbguard/verbguard/SegmentPart$Traits" "repeats" "Z" (.int (b3 &&& 1))
set_option maxRecDepth 65536 in
set_option maxHeartbeats 40000000 in
theorem rm1 (l : Launch) (Z : State) (a0 : Array Value) (hw : ∀ d ∈ tables_1, d.before a0 Z = true) (ws : List Jvm.Cond) (o : Addr) (b1 : Int32) (b2 : Int32) (b3 : Int32) (h0 : Heap) (n0 : Nat) (Z0 : n0 ≤ h0.size) (E_o : Exa Z h0 o "com/example/verbguard/verbguard/SegmentPart$Traits") (g_o : n0 ≤ o) (F_commits : Fld Z h0 o "com/example/verbguard/verbguard/SegmentPart$Traits" "commits" "Z" (.int (0 : Int32))) (F_clusters : Fld Z h0 o "com/example/verbguard/verbguard/SegmentPart$Traits" "clusters" "Z" (.int (0 : Int32))) (F_repeats : Fld Z h0 o "com/example/verbguard/verbguard/SegmentPart$Traits" "repeats" "Z" (.int (0 : Int32))) :
    MetFree l (⟨"com/example/verbguard/verbguard/SegmentPart$Traits", "<init>", "(ZZZ)V"⟩ : MethodName) (head1 (Jvm.Cond.code (⟨"com/example/verbguard/verbguard/SegmentPart$Traits", "<init>", "(ZZZ)V"⟩ : MethodName) prog_41_method_1_code 4 none :: ws) ({ frames := 2, cells := 0, slots := 0, locals := 24 } : Room)) (fun ar' Ur => ar' = #[(.ref o), (.int b1), (.int b2), (.int b3)] ∧ Z.Warmed39 Ur.vm ∧ Ur.heap = h0) (fun _ _ _ _ _ => True) (fun _ Ur or' Us => ∃ v L, or' = .returned v ∧ Q1 Z o b1 b2 b3 h0 n0 v Us.heap L ∧ FrameEnd Ur or' Us L 0 0) := by
  refine MetFree.of_bodySF (plainFor_of_name pn_1) hisR ?_
  intro p e s m args below meth c s₁ Bd hml0 hP hK
  obtain ⟨rfl, hZ, hh⟩ := hP
  have hx := Bd.exec
  have hby := Bd.bytes
  have hlk : meth.locks = false := BodyLoose.notSynchronized Bd
  have hml : c.maxLocals = 4 := hml0
  have hown : s.vm.findClass "com/example/verbguard/verbguard/SegmentPart$Traits" = some m.cls := findClass_of_methodNamed Bd.named
  have hnm := (name_of_methodNamed Bd.named Bd.method).1
  have X0 : Stand p l e ({ frames := 2, cells := 0, slots := 0, locals := 24 } : Room) s m #[(.ref o), (.int b1), (.int b2), (.int b3)] below meth c s₁ [] 0 0 := Stand.of_body Bd
  have e0 : s₁.heap = h0 := by rw [← hh, Bd.state]; rfl
  have N0 := Fr.nil n0
  show Goes p.tables e below s (Q1 Z o b1 b2 b3 h0 n0) 0 0 (s₁.setTop (entryFrame m #[(.ref o), (.int b1), (.int b2), (.int b3)] 4))
  refine Goes.of (fun t k => castTop (ef_1 m o b1 b2 b3) k) ?_
  show Goes _ _ _ _ _ _ _ (s₁.setTop (mkF m 0 #[.val (.ref o), .val (.int b1), .val (.int b2), .val (.int b3)] []))
  refine Goes.of (fun t k => XS.aloadN X0.here hx rfl (hb hby d1_0) rfl rfl k) ?_
  show Goes _ _ _ _ _ _ _ (s₁.setTop (mkF m 1 #[.val (.ref o), .val (.int b1), .val (.int b2), .val (.int b3)] [(.ref o)]))
  obtain ⟨_, _, ⟨T2, L2, k2, n2⟩, -, X2, ⟨Lc2, hQ2, l2, y2, z2⟩, st2⟩ := X0.specialBack hx (y := (⟨"java/lang/Record", "<init>", "()V"⟩ : MethodName)) rfl hown (mvT hZ (hw _ (List.mem_of_getElem? (i := 6) rfl))) (mvT hZ (hw _ (List.mem_of_getElem? (i := 7) rfl))) (mvT hZ (hw _ (List.mem_of_getElem? (i := 10) rfl))) (by decide) (backOf (W := 0) (rm2 l Z a0 hw [] o  h0 n0 Z0) hZ (hw _ (List.mem_of_getElem? (i := 10) rfl)) (hw _ (List.mem_of_getElem? (i := 9) rfl)) (by decide) (by decide)) (g := (mkF m 1 #[.val (.ref o), .val (.int b1), .val (.int b2), .val (.int b3)] [(.ref o)])) rfl (by rw [hml]; rfl) (Steps.refl _) (a := o) (argsL := []) (rest := []) (lenOf pd_0 rfl) rfl (by show 2 * 0 + _ ≤ _; exact Nat.le_of_eq rfl) (hb hby d1_1) (fun _ _ => ⟨rfl, e0, (by decide : 0 + 0 ≤ _), (by decide : 0 + 0 ≤ _)⟩)
  dsimp only [Pt.U, Pt.locs, Pt.cells, Pt.slots] at X2 l2 y2 z2 st2 hQ2
  subst l2 y2 z2
  obtain ⟨rfl, N2q, e2⟩ := hQ2
  have N2 := Fr.app N0 N2q
  refine Goes.of (fun t k => st2.trans k) ?_
  show Goes _ _ _ _ _ _ _ (T2.setTop (mkF m 4 #[.val (.ref o), .val (.int b1), .val (.int b2), .val (.int b3)] []))
  refine Goes.of (fun t k => XS.aloadN X2.here hx rfl (hb hby d1_4) rfl rfl k) ?_
  show Goes _ _ _ _ _ _ _ (T2.setTop (mkF m 5 #[.val (.ref o), .val (.int b1), .val (.int b2), .val (.int b3)] [(.ref o)]))
  refine Goes.of (fun t k => XS.iloadN X2.here hx rfl (hb hby d1_5) rfl k) ?_
  show Goes _ _ _ _ _ _ _ (T2.setTop (mkF m 6 #[.val (.ref o), .val (.int b1), .val (.int b2), .val (.int b3)] [(.int b1), (.ref o)]))
  obtain ⟨T3, h3, X3, e3, W3, st3⟩ := putFN X2 hx hZ hown (hw _ (List.mem_of_getElem? (i := 14) rfl)) Via.refl e2 F_commits E_o (Or.inr ⟨(hw _ (List.mem_of_getElem? (i := 15) rfl)), rfl, hnm⟩) (hw _ (List.mem_of_getElem? (i := 1) rfl)) (ty := .boolean) (v' := (.int (b1 &&& 1))) (by decide) rfl (fits_nar_bool _) (g := (mkF m 6 #[.val (.ref o), .val (.int b1), .val (.int b2), .val (.int b3)] [(.int b1), (.ref o)])) rfl rfl (hb hby d1_6)
  have Fw3 := Fld.same W3 F_commits
  have F4 := Exa.wr W3 E_o
  have F5 := Fld.other W3 F_clusters (Or.inr (slot_ne (Or.inr (hw _ (List.mem_of_getElem? (i := 17) rfl))) (Or.inr (hw _ (List.mem_of_getElem? (i := 15) rfl))) (by decide) (t := .boolean) (t' := .boolean) (by decide) (by decide)))
  have F6 := Fld.other W3 F_repeats (Or.inr (slot_ne (Or.inr (hw _ (List.mem_of_getElem? (i := 19) rfl))) (Or.inr (hw _ (List.mem_of_getElem? (i := 15) rfl))) (by decide) (t := .boolean) (t' := .boolean) (by decide) (by decide)))
  have Z3 : n0 ≤ h3.size := Nat.le_trans Z0 (Keep.of_wr W3).1
  have K3 : Keep h0 h3 [o] := (Keep.refl h0 [o]).wr W3 (Or.inl (List.mem_of_getElem? (i := 0) rfl))
  have N3 := Fr.snoc X3 N2 g_o
  refine Goes.of st3 ?_
  show Goes _ _ _ _ _ _ _ (T3.setTop (mkF m 9 #[.val (.ref o), .val (.int b1), .val (.int b2), .val (.int b3)] []))
  refine Goes.of (fun t k => XS.aloadN X3.here hx rfl (hb hby d1_9) rfl rfl k) ?_
  show Goes _ _ _ _ _ _ _ (T3.setTop (mkF m 10 #[.val (.ref o), .val (.int b1), .val (.int b2), .val (.int b3)] [(.ref o)]))
  refine Goes.of (fun t k => XS.iloadN X3.here hx rfl (hb hby d1_10) rfl k) ?_
  show Goes _ _ _ _ _ _ _ (T3.setTop (mkF m 11 #[.val (.ref o), .val (.int b1), .val (.int b2), .val (.int b3)] [(.int b2), (.ref o)]))
  obtain ⟨T7, h7, X7, e7, W7, st7⟩ := putFN X3 hx hZ hown (hw _ (List.mem_of_getElem? (i := 16) rfl)) Via.refl e3 F5 F4 (Or.inr ⟨(hw _ (List.mem_of_getElem? (i := 17) rfl)), rfl, hnm⟩) (hw _ (List.mem_of_getElem? (i := 1) rfl)) (ty := .boolean) (v' := (.int (b2 &&& 1))) (by decide) rfl (fits_nar_bool _) (g := (mkF m 11 #[.val (.ref o), .val (.int b1), .val (.int b2), .val (.int b3)] [(.int b2), (.ref o)])) rfl rfl (hb hby d1_11)
  have Fw7 := Fld.same W7 F5
  have F8 := Exa.wr W7 F4
  have F9 := Fld.other W7 Fw3 (Or.inr (slot_ne (Or.inr (hw _ (List.mem_of_getElem? (i := 15) rfl))) (Or.inr (hw _ (List.mem_of_getElem? (i := 17) rfl))) (by decide) (t := .boolean) (t' := .boolean) (by decide) (by decide)))
  have F10 := Fld.other W7 F6 (Or.inr (slot_ne (Or.inr (hw _ (List.mem_of_getElem? (i := 19) rfl))) (Or.inr (hw _ (List.mem_of_getElem? (i := 17) rfl))) (by decide) (t := .boolean) (t' := .boolean) (by decide) (by decide)))
  have Z7 : n0 ≤ h7.size := Nat.le_trans Z3 (Keep.of_wr W7).1
  have K7 : Keep h0 h7 [o] := K3.wr W7 (Or.inl (List.mem_of_getElem? (i := 0) rfl))
  have N7 := Fr.snoc X7 N3 g_o
  refine Goes.of st7 ?_
  show Goes _ _ _ _ _ _ _ (T7.setTop (mkF m 14 #[.val (.ref o), .val (.int b1), .val (.int b2), .val (.int b3)] []))
  refine Goes.of (fun t k => XS.aloadN X7.here hx rfl (hb hby d1_14) rfl rfl k) ?_
  show Goes _ _ _ _ _ _ _ (T7.setTop (mkF m 15 #[.val (.ref o), .val (.int b1), .val (.int b2), .val (.int b3)] [(.ref o)]))
  refine Goes.of (fun t k => XS.iloadN X7.here hx rfl (hb hby d1_15) rfl k) ?_
  show Goes _ _ _ _ _ _ _ (T7.setTop (mkF m 16 #[.val (.ref o), .val (.int b1), .val (.int b2), .val (.int b3)] [(.int b3), (.ref o)]))
  obtain ⟨T11, h11, X11, e11, W11, st11⟩ := putFN X7 hx hZ hown (hw _ (List.mem_of_getElem? (i := 18) rfl)) Via.refl e7 F10 F8 (Or.inr ⟨(hw _ (List.mem_of_getElem? (i := 19) rfl)), rfl, hnm⟩) (hw _ (List.mem_of_getElem? (i := 1) rfl)) (ty := .boolean) (v' := (.int (b3 &&& 1))) (by decide) rfl (fits_nar_bool _) (g := (mkF m 16 #[.val (.ref o), .val (.int b1), .val (.int b2), .val (.int b3)] [(.int b3), (.ref o)])) rfl rfl (hb hby d1_16)
  have Fw11 := Fld.same W11 F10
  have F12 := Exa.wr W11 F8
  have F13 := Fld.other W11 F9 (Or.inr (slot_ne (Or.inr (hw _ (List.mem_of_getElem? (i := 15) rfl))) (Or.inr (hw _ (List.mem_of_getElem? (i := 19) rfl))) (by decide) (t := .boolean) (t' := .boolean) (by decide) (by decide)))
  have F14 := Fld.other W11 Fw7 (Or.inr (slot_ne (Or.inr (hw _ (List.mem_of_getElem? (i := 17) rfl))) (Or.inr (hw _ (List.mem_of_getElem? (i := 19) rfl))) (by decide) (t := .boolean) (t' := .boolean) (by decide) (by decide)))
  have Z11 : n0 ≤ h11.size := Nat.le_trans Z7 (Keep.of_wr W11).1
  have K11 : Keep h0 h11 [o] := K7.wr W11 (Or.inl (List.mem_of_getElem? (i := 0) rfl))
  have N11 := Fr.snoc X11 N7 g_o
  refine Goes.of st11 ?_
  show Goes _ _ _ _ _ _ _ (T11.setTop (mkF m 19 #[.val (.ref o), .val (.int b1), .val (.int b2), .val (.int b3)] []))
  exact Goes.fin X11 hlk (v := none) (fun _ => rfl) (fun fs hr => X11.returnOut hx Bd.returns (hb hby d1_19) hr) (by rw [e11]; exact ⟨rfl, N11, K11, F13, F14, Fw11⟩) (by decide) (by decide)
theorem own_t1 {t : Int32} (h : t = (0 : Int32) ∨ t = (1 : Int32)) : (t &&& 1) = t := by rcases h with rfl | rfl <;> rfl
theorem d6_0 : decode prog_41_method_5_code 0 = .ok (.iload_n 0, 1) := by decide +kernel
theorem d6_1 : decode prog_41_method_5_code 1 = .ok (.ifCond .eq 7, 3) := by decide +kernel
theorem d6_4 : decode prog_41_method_5_code 4 = .ok (.iconst 1, 1) := by decide +kernel
theorem d6_5 : decode prog_41_method_5_code 5 = .ok (.goto 4, 3) := by decide +kernel
theorem d6_8 : decode prog_41_method_5_code 8 = .ok (.iconst 0, 1) := by decide +kernel
theorem d6_9 : decode prog_41_method_5_code 9 = .ok (.iload_n 1, 1) := by decide +kernel
theorem d6_10 : decode prog_41_method_5_code 10 = .ok (.ifCond .eq 7, 3) := by decide +kernel
theorem d6_13 : decode prog_41_method_5_code 13 = .ok (.iconst 2, 1) := by decide +kernel
theorem d6_14 : decode prog_41_method_5_code 14 = .ok (.goto 4, 3) := by decide +kernel
theorem d6_17 : decode prog_41_method_5_code 17 = .ok (.iconst 0, 1) := by decide +kernel
theorem d6_18 : decode prog_41_method_5_code 18 = .ok (.iadd, 1) := by decide +kernel
theorem d6_19 : decode prog_41_method_5_code 19 = .ok (.iload_n 2, 1) := by decide +kernel
theorem d6_20 : decode prog_41_method_5_code 20 = .ok (.ifCond .eq 7, 3) := by decide +kernel
theorem d6_23 : decode prog_41_method_5_code 23 = .ok (.iconst 4, 1) := by decide +kernel
theorem d6_24 : decode prog_41_method_5_code 24 = .ok (.goto 4, 3) := by decide +kernel
theorem d6_27 : decode prog_41_method_5_code 27 = .ok (.iconst 0, 1) := by decide +kernel
theorem d6_28 : decode prog_41_method_5_code 28 = .ok (.iadd, 1) := by decide +kernel
theorem d6_29 : decode prog_41_method_5_code 29 = .ok (.ireturn, 1) := by decide +kernel
theorem ef_6 (m : MethodId) (c1 : Int32) (c2 : Int32) (c3 : Int32) : entryFrame m #[(.int c1), (.int c2), (.int c3)] 3 = mkF m 0 #[.val (.int c1), .val (.int c2), .val (.int c3)] [] := by first | (simp [entryFrame, mkF, argsToLocals, Value.category]; done) | rfl
def f6 (c1 : Int32) (c2 : Int32) (c3 : Int32) : Int32 :=
  (if c1 = (0 : Int32) then (if c2 = (0 : Int32) then (if c3 = (0 : Int32) then (((0 : Int32) + (0 : Int32)) + (0 : Int32))
      else (((0 : Int32) + (0 : Int32)) + (4 : Int32)))
    else (if c3 = (0 : Int32) then (((0 : Int32) + (2 : Int32)) + (0 : Int32))
      else (((0 : Int32) + (2 : Int32)) + (4 : Int32))))
  else (if c2 = (0 : Int32) then (if c3 = (0 : Int32) then (((1 : Int32) + (0 : Int32)) + (0 : Int32))
      else (((1 : Int32) + (0 : Int32)) + (4 : Int32)))
    else (if c3 = (0 : Int32) then (((1 : Int32) + (2 : Int32)) + (0 : Int32))
      else (((1 : Int32) + (2 : Int32)) + (4 : Int32)))))
def Q6 (c1 : Int32) (c2 : Int32) (c3 : Int32) (h0 : Heap) (n0 : Nat) (v : Option Value) (h : Heap) (L : List Loc) : Prop := v = some (.int (f6 c1 c2 c3)) ∧ Fr n0 L ∧ h = h0
set_option maxRecDepth 65536 in
set_option maxHeartbeats 40000000 in
theorem rm6 (l : Launch) (Z : State) (a0 : Array Value) (hw : ∀ d ∈ tables_1, d.before a0 Z = true) (ws : List Jvm.Cond) (c1 : Int32) (c2 : Int32) (c3 : Int32) (h0 : Heap) (n0 : Nat) :
    MetFree l (⟨"com/example/verbguard/verbguard/SegmentPart$Traits", "index", "(ZZZ)I"⟩ : MethodName) (head1 (Jvm.Cond.code (⟨"com/example/verbguard/verbguard/SegmentPart$Traits", "index", "(ZZZ)I"⟩ : MethodName) prog_41_method_5_code 3 (some .int) :: ws) ({ frames := 0, cells := 0, slots := 0, locals := 0 } : Room)) (fun ar' Ur => ar' = #[(.int c1), (.int c2), (.int c3)] ∧ Z.Warmed39 Ur.vm ∧ Ur.heap = h0) (fun _ _ _ _ _ => True) (fun _ Ur or' Us => ∃ v L, or' = .returned v ∧ Q6 c1 c2 c3 h0 n0 v Us.heap L ∧ FrameEnd Ur or' Us L 0 0) := by
  refine MetFree.of_bodySF (plainFor_of_name pn_1) hisR ?_
  intro p e s m args below meth c s₁ Bd hml0 hP hK
  obtain ⟨rfl, hZ, hh⟩ := hP
  have hx := Bd.exec
  have hby := Bd.bytes
  have hlk : meth.locks = false := BodyLoose.notSynchronized Bd
  have hml : c.maxLocals = 3 := hml0
  have hown : s.vm.findClass "com/example/verbguard/verbguard/SegmentPart$Traits" = some m.cls := findClass_of_methodNamed Bd.named
  have X0 : Stand p l e ({ frames := 0, cells := 0, slots := 0, locals := 0 } : Room) s m #[(.int c1), (.int c2), (.int c3)] below meth c s₁ [] 0 0 := Stand.of_body Bd
  have e0 : s₁.heap = h0 := by rw [← hh, Bd.state]; rfl
  have N0 := Fr.nil n0
  show Goes p.tables e below s (Q6 c1 c2 c3 h0 n0) 0 0 (s₁.setTop (entryFrame m #[(.int c1), (.int c2), (.int c3)] 3))
  refine Goes.of (fun t k => castTop (ef_6 m c1 c2 c3) k) ?_
  show Goes _ _ _ _ _ _ _ (s₁.setTop (mkF m 0 #[.val (.int c1), .val (.int c2), .val (.int c3)] []))
  refine Goes.of (fun t k => XS.iloadN X0.here hx rfl (hb hby d6_0) rfl k) ?_
  show Goes _ _ _ _ _ _ _ (s₁.setTop (mkF m 1 #[.val (.int c1), .val (.int c2), .val (.int c3)] [(.int c1)]))
  by_cases hc15 : c1 = (0 : Int32)
  · refine Goes.of (fun t k => XS.ifYes X0.here hx rfl (pc0 := 1) (pc' := 8) rfl (hb hby d6_1) rfl ((if0 _ _).trans (teq hc15).1) (by decide) (by decide) k) ?_
    show Goes _ _ _ _ _ _ _ (s₁.setTop (mkF m 8 #[.val (.int c1), .val (.int c2), .val (.int c3)] []))
    refine Goes.of (fun t k => XS.iconst X0.here hx rfl (hb hby d6_8) k) ?_
    show Goes _ _ _ _ _ _ _ (s₁.setTop (mkF m 9 #[.val (.int c1), .val (.int c2), .val (.int c3)] [(.int (0 : Int32))]))
    refine Goes.of (fun t k => XS.iloadN X0.here hx rfl (hb hby d6_9) rfl k) ?_
    show Goes _ _ _ _ _ _ _ (s₁.setTop (mkF m 10 #[.val (.int c1), .val (.int c2), .val (.int c3)] [(.int c2), (.int (0 : Int32))]))
    by_cases hc16 : c2 = (0 : Int32)
    · refine Goes.of (fun t k => XS.ifYes X0.here hx rfl (pc0 := 10) (pc' := 17) rfl (hb hby d6_10) rfl ((if0 _ _).trans (teq hc16).1) (by decide) (by decide) k) ?_
      show Goes _ _ _ _ _ _ _ (s₁.setTop (mkF m 17 #[.val (.int c1), .val (.int c2), .val (.int c3)] [(.int (0 : Int32))]))
      refine Goes.of (fun t k => XS.iconst X0.here hx rfl (hb hby d6_17) k) ?_
      show Goes _ _ _ _ _ _ _ (s₁.setTop (mkF m 18 #[.val (.int c1), .val (.int c2), .val (.int c3)] [(.int (0 : Int32)), (.int (0 : Int32))]))
      refine Goes.of (fun t k => XS.iadd X0.here hx rfl (hb hby d6_18) rfl k) ?_
      show Goes _ _ _ _ _ _ _ (s₁.setTop (mkF m 19 #[.val (.int c1), .val (.int c2), .val (.int c3)] [(.int ((0 : Int32) + (0 : Int32)))]))
      refine Goes.of (fun t k => XS.iloadN X0.here hx rfl (hb hby d6_19) rfl k) ?_
      show Goes _ _ _ _ _ _ _ (s₁.setTop (mkF m 20 #[.val (.int c1), .val (.int c2), .val (.int c3)] [(.int c3), (.int ((0 : Int32) + (0 : Int32)))]))
      by_cases hc17 : c3 = (0 : Int32)
      · refine Goes.of (fun t k => XS.ifYes X0.here hx rfl (pc0 := 20) (pc' := 27) rfl (hb hby d6_20) rfl ((if0 _ _).trans (teq hc17).1) (by decide) (by decide) k) ?_
        show Goes _ _ _ _ _ _ _ (s₁.setTop (mkF m 27 #[.val (.int c1), .val (.int c2), .val (.int c3)] [(.int ((0 : Int32) + (0 : Int32)))]))
        refine Goes.of (fun t k => XS.iconst X0.here hx rfl (hb hby d6_27) k) ?_
        show Goes _ _ _ _ _ _ _ (s₁.setTop (mkF m 28 #[.val (.int c1), .val (.int c2), .val (.int c3)] [(.int (0 : Int32)), (.int ((0 : Int32) + (0 : Int32)))]))
        refine Goes.of (fun t k => XS.iadd X0.here hx rfl (hb hby d6_28) rfl k) ?_
        show Goes _ _ _ _ _ _ _ (s₁.setTop (mkF m 29 #[.val (.int c1), .val (.int c2), .val (.int c3)] [(.int (((0 : Int32) + (0 : Int32)) + (0 : Int32)))]))
        exact Goes.fin X0 hlk (v := some (.int (((0 : Int32) + (0 : Int32)) + (0 : Int32)))) (fun h => by rw [Bd.returns] at h; cases h) (fun fs hr => retI X0 hx Bd.returns (hb hby d6_29) hr) ⟨congrArg (fun z => some (Value.int z)) (by rw [f6, if_pos hc15, if_pos hc16, if_pos hc17] : (((0 : Int32) + (0 : Int32)) + (0 : Int32)) = f6 c1 c2 c3), N0, e0⟩ (by decide) (by decide)
      · refine Goes.of (fun t k => XS.ifNo X0.here hx rfl (hb hby d6_20) rfl ((if0 _ _).trans (feq hc17).1) k) ?_
        show Goes _ _ _ _ _ _ _ (s₁.setTop (mkF m 23 #[.val (.int c1), .val (.int c2), .val (.int c3)] [(.int ((0 : Int32) + (0 : Int32)))]))
        refine Goes.of (fun t k => XS.iconst X0.here hx rfl (hb hby d6_23) k) ?_
        show Goes _ _ _ _ _ _ _ (s₁.setTop (mkF m 24 #[.val (.int c1), .val (.int c2), .val (.int c3)] [(.int (4 : Int32)), (.int ((0 : Int32) + (0 : Int32)))]))
        refine Goes.of (fun t k => XS.goto X0.here hx rfl (pc0 := 24) (pc' := 28) rfl (hb hby d6_24) (by decide) (by decide) k) ?_
        show Goes _ _ _ _ _ _ _ (s₁.setTop (mkF m 28 #[.val (.int c1), .val (.int c2), .val (.int c3)] [(.int (4 : Int32)), (.int ((0 : Int32) + (0 : Int32)))]))
        refine Goes.of (fun t k => XS.iadd X0.here hx rfl (hb hby d6_28) rfl k) ?_
        show Goes _ _ _ _ _ _ _ (s₁.setTop (mkF m 29 #[.val (.int c1), .val (.int c2), .val (.int c3)] [(.int (((0 : Int32) + (0 : Int32)) + (4 : Int32)))]))
        exact Goes.fin X0 hlk (v := some (.int (((0 : Int32) + (0 : Int32)) + (4 : Int32)))) (fun h => by rw [Bd.returns] at h; cases h) (fun fs hr => retI X0 hx Bd.returns (hb hby d6_29) hr) ⟨congrArg (fun z => some (Value.int z)) (by rw [f6, if_pos hc15, if_pos hc16, if_neg hc17] : (((0 : Int32) + (0 : Int32)) + (4 : Int32)) = f6 c1 c2 c3), N0, e0⟩ (by decide) (by decide)
    · refine Goes.of (fun t k => XS.ifNo X0.here hx rfl (hb hby d6_10) rfl ((if0 _ _).trans (feq hc16).1) k) ?_
      show Goes _ _ _ _ _ _ _ (s₁.setTop (mkF m 13 #[.val (.int c1), .val (.int c2), .val (.int c3)] [(.int (0 : Int32))]))
      refine Goes.of (fun t k => XS.iconst X0.here hx rfl (hb hby d6_13) k) ?_
      show Goes _ _ _ _ _ _ _ (s₁.setTop (mkF m 14 #[.val (.int c1), .val (.int c2), .val (.int c3)] [(.int (2 : Int32)), (.int (0 : Int32))]))
      refine Goes.of (fun t k => XS.goto X0.here hx rfl (pc0 := 14) (pc' := 18) rfl (hb hby d6_14) (by decide) (by decide) k) ?_
      show Goes _ _ _ _ _ _ _ (s₁.setTop (mkF m 18 #[.val (.int c1), .val (.int c2), .val (.int c3)] [(.int (2 : Int32)), (.int (0 : Int32))]))
      refine Goes.of (fun t k => XS.iadd X0.here hx rfl (hb hby d6_18) rfl k) ?_
      show Goes _ _ _ _ _ _ _ (s₁.setTop (mkF m 19 #[.val (.int c1), .val (.int c2), .val (.int c3)] [(.int ((0 : Int32) + (2 : Int32)))]))
      refine Goes.of (fun t k => XS.iloadN X0.here hx rfl (hb hby d6_19) rfl k) ?_
      show Goes _ _ _ _ _ _ _ (s₁.setTop (mkF m 20 #[.val (.int c1), .val (.int c2), .val (.int c3)] [(.int c3), (.int ((0 : Int32) + (2 : Int32)))]))
      by_cases hc18 : c3 = (0 : Int32)
      · refine Goes.of (fun t k => XS.ifYes X0.here hx rfl (pc0 := 20) (pc' := 27) rfl (hb hby d6_20) rfl ((if0 _ _).trans (teq hc18).1) (by decide) (by decide) k) ?_
        show Goes _ _ _ _ _ _ _ (s₁.setTop (mkF m 27 #[.val (.int c1), .val (.int c2), .val (.int c3)] [(.int ((0 : Int32) + (2 : Int32)))]))
        refine Goes.of (fun t k => XS.iconst X0.here hx rfl (hb hby d6_27) k) ?_
        show Goes _ _ _ _ _ _ _ (s₁.setTop (mkF m 28 #[.val (.int c1), .val (.int c2), .val (.int c3)] [(.int (0 : Int32)), (.int ((0 : Int32) + (2 : Int32)))]))
        refine Goes.of (fun t k => XS.iadd X0.here hx rfl (hb hby d6_28) rfl k) ?_
        show Goes _ _ _ _ _ _ _ (s₁.setTop (mkF m 29 #[.val (.int c1), .val (.int c2), .val (.int c3)] [(.int (((0 : Int32) + (2 : Int32)) + (0 : Int32)))]))
        exact Goes.fin X0 hlk (v := some (.int (((0 : Int32) + (2 : Int32)) + (0 : Int32)))) (fun h => by rw [Bd.returns] at h; cases h) (fun fs hr => retI X0 hx Bd.returns (hb hby d6_29) hr) ⟨congrArg (fun z => some (Value.int z)) (by rw [f6, if_pos hc15, if_neg hc16, if_pos hc18] : (((0 : Int32) + (2 : Int32)) + (0 : Int32)) = f6 c1 c2 c3), N0, e0⟩ (by decide) (by decide)
      · refine Goes.of (fun t k => XS.ifNo X0.here hx rfl (hb hby d6_20) rfl ((if0 _ _).trans (feq hc18).1) k) ?_
        show Goes _ _ _ _ _ _ _ (s₁.setTop (mkF m 23 #[.val (.int c1), .val (.int c2), .val (.int c3)] [(.int ((0 : Int32) + (2 : Int32)))]))
        refine Goes.of (fun t k => XS.iconst X0.here hx rfl (hb hby d6_23) k) ?_
        show Goes _ _ _ _ _ _ _ (s₁.setTop (mkF m 24 #[.val (.int c1), .val (.int c2), .val (.int c3)] [(.int (4 : Int32)), (.int ((0 : Int32) + (2 : Int32)))]))
        refine Goes.of (fun t k => XS.goto X0.here hx rfl (pc0 := 24) (pc' := 28) rfl (hb hby d6_24) (by decide) (by decide) k) ?_
        show Goes _ _ _ _ _ _ _ (s₁.setTop (mkF m 28 #[.val (.int c1), .val (.int c2), .val (.int c3)] [(.int (4 : Int32)), (.int ((0 : Int32) + (2 : Int32)))]))
        refine Goes.of (fun t k => XS.iadd X0.here hx rfl (hb hby d6_28) rfl k) ?_
        show Goes _ _ _ _ _ _ _ (s₁.setTop (mkF m 29 #[.val (.int c1), .val (.int c2), .val (.int c3)] [(.int (((0 : Int32) + (2 : Int32)) + (4 : Int32)))]))
        exact Goes.fin X0 hlk (v := some (.int (((0 : Int32) + (2 : Int32)) + (4 : Int32)))) (fun h => by rw [Bd.returns] at h; cases h) (fun fs hr => retI X0 hx Bd.returns (hb hby d6_29) hr) ⟨congrArg (fun z => some (Value.int z)) (by rw [f6, if_pos hc15, if_neg hc16, if_neg hc18] : (((0 : Int32) + (2 : Int32)) + (4 : Int32)) = f6 c1 c2 c3), N0, e0⟩ (by decide) (by decide)
  · refine Goes.of (fun t k => XS.ifNo X0.here hx rfl (hb hby d6_1) rfl ((if0 _ _).trans (feq hc15).1) k) ?_
    show Goes _ _ _ _ _ _ _ (s₁.setTop (mkF m 4 #[.val (.int c1), .val (.int c2), .val (.int c3)] []))
    refine Goes.of (fun t k => XS.iconst X0.here hx rfl (hb hby d6_4) k) ?_
    show Goes _ _ _ _ _ _ _ (s₁.setTop (mkF m 5 #[.val (.int c1), .val (.int c2), .val (.int c3)] [(.int (1 : Int32))]))
    refine Goes.of (fun t k => XS.goto X0.here hx rfl (pc0 := 5) (pc' := 9) rfl (hb hby d6_5) (by decide) (by decide) k) ?_
    show Goes _ _ _ _ _ _ _ (s₁.setTop (mkF m 9 #[.val (.int c1), .val (.int c2), .val (.int c3)] [(.int (1 : Int32))]))
    refine Goes.of (fun t k => XS.iloadN X0.here hx rfl (hb hby d6_9) rfl k) ?_
    show Goes _ _ _ _ _ _ _ (s₁.setTop (mkF m 10 #[.val (.int c1), .val (.int c2), .val (.int c3)] [(.int c2), (.int (1 : Int32))]))
    by_cases hc19 : c2 = (0 : Int32)
    · refine Goes.of (fun t k => XS.ifYes X0.here hx rfl (pc0 := 10) (pc' := 17) rfl (hb hby d6_10) rfl ((if0 _ _).trans (teq hc19).1) (by decide) (by decide) k) ?_
      show Goes _ _ _ _ _ _ _ (s₁.setTop (mkF m 17 #[.val (.int c1), .val (.int c2), .val (.int c3)] [(.int (1 : Int32))]))
      refine Goes.of (fun t k => XS.iconst X0.here hx rfl (hb hby d6_17) k) ?_
      show Goes _ _ _ _ _ _ _ (s₁.setTop (mkF m 18 #[.val (.int c1), .val (.int c2), .val (.int c3)] [(.int (0 : Int32)), (.int (1 : Int32))]))
      refine Goes.of (fun t k => XS.iadd X0.here hx rfl (hb hby d6_18) rfl k) ?_
      show Goes _ _ _ _ _ _ _ (s₁.setTop (mkF m 19 #[.val (.int c1), .val (.int c2), .val (.int c3)] [(.int ((1 : Int32) + (0 : Int32)))]))
      refine Goes.of (fun t k => XS.iloadN X0.here hx rfl (hb hby d6_19) rfl k) ?_
      show Goes _ _ _ _ _ _ _ (s₁.setTop (mkF m 20 #[.val (.int c1), .val (.int c2), .val (.int c3)] [(.int c3), (.int ((1 : Int32) + (0 : Int32)))]))
      by_cases hc20 : c3 = (0 : Int32)
      · refine Goes.of (fun t k => XS.ifYes X0.here hx rfl (pc0 := 20) (pc' := 27) rfl (hb hby d6_20) rfl ((if0 _ _).trans (teq hc20).1) (by decide) (by decide) k) ?_
        show Goes _ _ _ _ _ _ _ (s₁.setTop (mkF m 27 #[.val (.int c1), .val (.int c2), .val (.int c3)] [(.int ((1 : Int32) + (0 : Int32)))]))
        refine Goes.of (fun t k => XS.iconst X0.here hx rfl (hb hby d6_27) k) ?_
        show Goes _ _ _ _ _ _ _ (s₁.setTop (mkF m 28 #[.val (.int c1), .val (.int c2), .val (.int c3)] [(.int (0 : Int32)), (.int ((1 : Int32) + (0 : Int32)))]))
        refine Goes.of (fun t k => XS.iadd X0.here hx rfl (hb hby d6_28) rfl k) ?_
        show Goes _ _ _ _ _ _ _ (s₁.setTop (mkF m 29 #[.val (.int c1), .val (.int c2), .val (.int c3)] [(.int (((1 : Int32) + (0 : Int32)) + (0 : Int32)))]))
        exact Goes.fin X0 hlk (v := some (.int (((1 : Int32) + (0 : Int32)) + (0 : Int32)))) (fun h => by rw [Bd.returns] at h; cases h) (fun fs hr => retI X0 hx Bd.returns (hb hby d6_29) hr) ⟨congrArg (fun z => some (Value.int z)) (by rw [f6, if_neg hc15, if_pos hc19, if_pos hc20] : (((1 : Int32) + (0 : Int32)) + (0 : Int32)) = f6 c1 c2 c3), N0, e0⟩ (by decide) (by decide)
      · refine Goes.of (fun t k => XS.ifNo X0.here hx rfl (hb hby d6_20) rfl ((if0 _ _).trans (feq hc20).1) k) ?_
        show Goes _ _ _ _ _ _ _ (s₁.setTop (mkF m 23 #[.val (.int c1), .val (.int c2), .val (.int c3)] [(.int ((1 : Int32) + (0 : Int32)))]))
        refine Goes.of (fun t k => XS.iconst X0.here hx rfl (hb hby d6_23) k) ?_
        show Goes _ _ _ _ _ _ _ (s₁.setTop (mkF m 24 #[.val (.int c1), .val (.int c2), .val (.int c3)] [(.int (4 : Int32)), (.int ((1 : Int32) + (0 : Int32)))]))
        refine Goes.of (fun t k => XS.goto X0.here hx rfl (pc0 := 24) (pc' := 28) rfl (hb hby d6_24) (by decide) (by decide) k) ?_
        show Goes _ _ _ _ _ _ _ (s₁.setTop (mkF m 28 #[.val (.int c1), .val (.int c2), .val (.int c3)] [(.int (4 : Int32)), (.int ((1 : Int32) + (0 : Int32)))]))
        refine Goes.of (fun t k => XS.iadd X0.here hx rfl (hb hby d6_28) rfl k) ?_
        show Goes _ _ _ _ _ _ _ (s₁.setTop (mkF m 29 #[.val (.int c1), .val (.int c2), .val (.int c3)] [(.int (((1 : Int32) + (0 : Int32)) + (4 : Int32)))]))
        exact Goes.fin X0 hlk (v := some (.int (((1 : Int32) + (0 : Int32)) + (4 : Int32)))) (fun h => by rw [Bd.returns] at h; cases h) (fun fs hr => retI X0 hx Bd.returns (hb hby d6_29) hr) ⟨congrArg (fun z => some (Value.int z)) (by rw [f6, if_neg hc15, if_pos hc19, if_neg hc20] : (((1 : Int32) + (0 : Int32)) + (4 : Int32)) = f6 c1 c2 c3), N0, e0⟩ (by decide) (by decide)
    · refine Goes.of (fun t k => XS.ifNo X0.here hx rfl (hb hby d6_10) rfl ((if0 _ _).trans (feq hc19).1) k) ?_
      show Goes _ _ _ _ _ _ _ (s₁.setTop (mkF m 13 #[.val (.int c1), .val (.int c2), .val (.int c3)] [(.int (1 : Int32))]))
      refine Goes.of (fun t k => XS.iconst X0.here hx rfl (hb hby d6_13) k) ?_
      show Goes _ _ _ _ _ _ _ (s₁.setTop (mkF m 14 #[.val (.int c1), .val (.int c2), .val (.int c3)] [(.int (2 : Int32)), (.int (1 : Int32))]))
      refine Goes.of (fun t k => XS.goto X0.here hx rfl (pc0 := 14) (pc' := 18) rfl (hb hby d6_14) (by decide) (by decide) k) ?_
      show Goes _ _ _ _ _ _ _ (s₁.setTop (mkF m 18 #[.val (.int c1), .val (.int c2), .val (.int c3)] [(.int (2 : Int32)), (.int (1 : Int32))]))
      refine Goes.of (fun t k => XS.iadd X0.here hx rfl (hb hby d6_18) rfl k) ?_
      show Goes _ _ _ _ _ _ _ (s₁.setTop (mkF m 19 #[.val (.int c1), .val (.int c2), .val (.int c3)] [(.int ((1 : Int32) + (2 : Int32)))]))
      refine Goes.of (fun t k => XS.iloadN X0.here hx rfl (hb hby d6_19) rfl k) ?_
      show Goes _ _ _ _ _ _ _ (s₁.setTop (mkF m 20 #[.val (.int c1), .val (.int c2), .val (.int c3)] [(.int c3), (.int ((1 : Int32) + (2 : Int32)))]))
      by_cases hc21 : c3 = (0 : Int32)
      · refine Goes.of (fun t k => XS.ifYes X0.here hx rfl (pc0 := 20) (pc' := 27) rfl (hb hby d6_20) rfl ((if0 _ _).trans (teq hc21).1) (by decide) (by decide) k) ?_
        show Goes _ _ _ _ _ _ _ (s₁.setTop (mkF m 27 #[.val (.int c1), .val (.int c2), .val (.int c3)] [(.int ((1 : Int32) + (2 : Int32)))]))
        refine Goes.of (fun t k => XS.iconst X0.here hx rfl (hb hby d6_27) k) ?_
        show Goes _ _ _ _ _ _ _ (s₁.setTop (mkF m 28 #[.val (.int c1), .val (.int c2), .val (.int c3)] [(.int (0 : Int32)), (.int ((1 : Int32) + (2 : Int32)))]))
        refine Goes.of (fun t k => XS.iadd X0.here hx rfl (hb hby d6_28) rfl k) ?_
        show Goes _ _ _ _ _ _ _ (s₁.setTop (mkF m 29 #[.val (.int c1), .val (.int c2), .val (.int c3)] [(.int (((1 : Int32) + (2 : Int32)) + (0 : Int32)))]))
        exact Goes.fin X0 hlk (v := some (.int (((1 : Int32) + (2 : Int32)) + (0 : Int32)))) (fun h => by rw [Bd.returns] at h; cases h) (fun fs hr => retI X0 hx Bd.returns (hb hby d6_29) hr) ⟨congrArg (fun z => some (Value.int z)) (by rw [f6, if_neg hc15, if_neg hc19, if_pos hc21] : (((1 : Int32) + (2 : Int32)) + (0 : Int32)) = f6 c1 c2 c3), N0, e0⟩ (by decide) (by decide)
      · refine Goes.of (fun t k => XS.ifNo X0.here hx rfl (hb hby d6_20) rfl ((if0 _ _).trans (feq hc21).1) k) ?_
        show Goes _ _ _ _ _ _ _ (s₁.setTop (mkF m 23 #[.val (.int c1), .val (.int c2), .val (.int c3)] [(.int ((1 : Int32) + (2 : Int32)))]))
        refine Goes.of (fun t k => XS.iconst X0.here hx rfl (hb hby d6_23) k) ?_
        show Goes _ _ _ _ _ _ _ (s₁.setTop (mkF m 24 #[.val (.int c1), .val (.int c2), .val (.int c3)] [(.int (4 : Int32)), (.int ((1 : Int32) + (2 : Int32)))]))
        refine Goes.of (fun t k => XS.goto X0.here hx rfl (pc0 := 24) (pc' := 28) rfl (hb hby d6_24) (by decide) (by decide) k) ?_
        show Goes _ _ _ _ _ _ _ (s₁.setTop (mkF m 28 #[.val (.int c1), .val (.int c2), .val (.int c3)] [(.int (4 : Int32)), (.int ((1 : Int32) + (2 : Int32)))]))
        refine Goes.of (fun t k => XS.iadd X0.here hx rfl (hb hby d6_28) rfl k) ?_
        show Goes _ _ _ _ _ _ _ (s₁.setTop (mkF m 29 #[.val (.int c1), .val (.int c2), .val (.int c3)] [(.int (((1 : Int32) + (2 : Int32)) + (4 : Int32)))]))
        exact Goes.fin X0 hlk (v := some (.int (((1 : Int32) + (2 : Int32)) + (4 : Int32)))) (fun h => by rw [Bd.returns] at h; cases h) (fun fs hr => retI X0 hx Bd.returns (hb hby d6_29) hr) ⟨congrArg (fun z => some (Value.int z)) (by rw [f6, if_neg hc15, if_neg hc19, if_neg hc21] : (((1 : Int32) + (2 : Int32)) + (4 : Int32)) = f6 c1 c2 c3), N0, e0⟩ (by decide) (by decide)
/-- the table EVERY: at the index that its components give stands an object that holds them -/
def own_Tab (Z : State) (h : Heap) (a : Addr) : Prop := ∃ cell : Cell, Arr Z h a cell (.object "com/example/verbguard/verbguard/SegmentPart$Traits") ∧ ∀ c1 c2 c3 : Int32, (c1 = (0 : Int32) ∨ c1 = (1 : Int32)) → (c2 = (0 : Int32) ∨ c2 = (1 : Int32)) → (c3 = (0 : Int32) ∨ c3 = (1 : Int32)) → ∃ e : Addr, ¬ (f6 c1 c2 c3 < 0 ∨ cell.slots.size ≤ (f6 c1 c2 c3).toNatClampNeg) ∧ cell.slots[(f6 c1 c2 c3).toNatClampNeg]? = some (.ref e) ∧ Exa Z h e "com/example/verbguard/verbguard/SegmentPart$Traits" ∧ Fld Z h e "com/example/verbguard/verbguard/SegmentPart$Traits" "commits" "Z" (.int c1) ∧ Fld Z h e "com/example/verbguard/verbguard/SegmentPart$Traits" "clusters" "Z" (.int c2) ∧ Fld Z h e "com/example/verbguard/verbguard/SegmentPart$Traits" "repeats" "Z" (.int c3)
theorem own_Tab.ext {Z : State} {h h' : Heap} {a : Addr} (F : own_Tab Z h a) (E : Ext h h') : own_Tab Z h' a := by
  obtain ⟨c, A, H⟩ := F
  refine ⟨c, A.ext E, fun c1 c2 c3 h1 h2 h3 => ?_⟩
  obtain ⟨e, q1, q2, q3, q4, q5, q6⟩ := H c1 c2 c3 h1 h2 h3
  exact ⟨e, q1, q2, Exa.ext E q3, Fld.ext E q4, Fld.ext E q5, Fld.ext E q6⟩
theorem own_ldT {p : Program} {l : Launch} {e : Env} {R : Room} {s : State} {m : MethodId} {args : Array Value} {below : List Frame} {meth : Method} {c : Code} {T : State} {locs : List Loc} {cells slots : Nat} {Z : State} {h : Heap} {a : Addr}
    (X : Stand p l e R s m args below meth c T locs cells slots) (hx : p.tables.exec = Jvm.exec) (hZ : Z.Warmed39 s.vm) (eT : T.heap = h) (F : own_Tab Z h a) {c1 c2 c3 : Int32} (h1 : (c1 = (0 : Int32) ∨ c1 = (1 : Int32))) (h2 : (c2 = (0 : Int32) ∨ c2 = (1 : Int32))) (h3 : (c3 = (0 : Int32) ∨ c3 = (1 : Int32))) {g : JFrame} (hg : g.method = m) {rest : List Value} (hs : g.stack = .int (f6 c1 c2 c3) :: .ref a :: rest) (hd : decode c.code g.pc = .ok (.aaload, 1)) :
    ∃ z : Addr, Exa Z h z "com/example/verbguard/verbguard/SegmentPart$Traits" ∧ Fld Z h z "com/example/verbguard/verbguard/SegmentPart$Traits" "commits" "Z" (.int c1) ∧ Fld Z h z "com/example/verbguard/verbguard/SegmentPart$Traits" "clusters" "Z" (.int c2) ∧ Fld Z h z "com/example/verbguard/verbguard/SegmentPart$Traits" "repeats" "Z" (.int c3) ∧ ∀ t, Steps p.tables e below (T.setTop { g with pc := g.pc + 1, stack := .ref z :: rest }) t → Steps p.tables e below (T.setTop g) t := by
  obtain ⟨cl, A, H⟩ := F
  obtain ⟨z, q1, q2, q3, q4, q5, q6⟩ := H c1 c2 c3 h1 h2 h3
  exact ⟨z, q3, q4, q5, q6, fun t k => X.aaload hx (by rw [eT]; exact A.1) (State.isArrayOf_alike hZ.alike A.2.1) rfl A.2.2 q1 q2 hg hs hd t k⟩
theorem d5_0 : decode prog_41_method_2_code 0 = .ok (.getstatic 19, 3) := by decide +kernel
theorem d5_3 : decode prog_41_method_2_code 3 = .ok (.iload_n 0, 1) := by decide +kernel
theorem d5_4 : decode prog_41_method_2_code 4 = .ok (.iload_n 1, 1) := by decide +kernel
theorem d5_5 : decode prog_41_method_2_code 5 = .ok (.iload_n 2, 1) := by decide +kernel
theorem d5_6 : decode prog_41_method_2_code 6 = .ok (.invokestatic 23, 3) := by decide +kernel
theorem d5_9 : decode prog_41_method_2_code 9 = .ok (.aaload, 1) := by decide +kernel
theorem d5_10 : decode prog_41_method_2_code 10 = .ok (.areturn, 1) := by decide +kernel
theorem pd_1 : parseMethodDescriptor "(ZZZ)I" = some ⟨[.boolean, .boolean, .boolean], some .int⟩ := by decide +kernel
theorem ef_5 (m : MethodId) (c1 : Int32) (c2 : Int32) (c3 : Int32) : entryFrame m #[(.int c1), (.int c2), (.int c3)] 3 = mkF m 0 #[.val (.int c1), .val (.int c2), .val (.int c3)] [] := by first | (simp [entryFrame, mkF, argsToLocals, Value.category]; done) | rfl
def Q5 (Z : State) (c1 c2 c3 : Int32) (h0 : Heap) (n0 : Nat) (v : Option Value) (h : Heap) (L : List Loc) : Prop := ∃ z : Addr, v = some (.ref z) ∧ Fr n0 L ∧ h = h0 ∧ Exa Z h0 z "com/example/verbguard/verbguard/SegmentPart$Traits" ∧ Fld Z h0 z "com/example/verbguard/verbguard/SegmentPart$Traits" "commits" "Z" (.int c1) ∧ Fld Z h0 z "com/example/verbguard/verbguard/SegmentPart$Traits" "clusters" "Z" (.int c2) ∧ Fld Z h0 z "com/example/verbguard/verbguard/SegmentPart$Traits" "repeats" "Z" (.int c3)
set_option maxRecDepth 65536 in
set_option maxHeartbeats 40000000 in
theorem rm5 (l : Launch) (Z : State) (a0 : Array Value) (hw : ∀ d ∈ tables_1, d.before a0 Z = true) (ws : List Jvm.Cond) (c1 : Int32) (c2 : Int32) (c3 : Int32) (ev : Addr) (h0 : Heap) (n0 : Nat) (Z0 : n0 ≤ h0.size) (S_ev : Sta Z h0 "com/example/verbguard/verbguard/SegmentPart$Traits" "EVERY" "[Lcom/example/verbguard/verbguard/SegmentPart$Traits;" (.ref ev)) (T_ev : own_Tab Z h0 ev) (hb1 : (c1 = (0 : Int32) ∨ c1 = (1 : Int32))) (hb2 : (c2 = (0 : Int32) ∨ c2 = (1 : Int32))) (hb3 : (c3 = (0 : Int32) ∨ c3 = (1 : Int32))) :
    MetFree l (⟨"com/example/verbguard/verbguard/SegmentPart$Traits", "of", "(ZZZ)Lcom/example/verbguard/verbguard/SegmentPart$Traits;"⟩ : MethodName) (head1 (Jvm.Cond.code (⟨"com/example/verbguard/verbguard/SegmentPart$Traits", "of", "(ZZZ)Lcom/example/verbguard/verbguard/SegmentPart$Traits;"⟩ : MethodName) prog_41_method_2_code 3 (some (.object "com/example/verbguard/verbguard/SegmentPart$Traits")) :: ws) ({ frames := 1, cells := 0, slots := 0, locals := 15 } : Room)) (fun ar' Ur => ar' = #[(.int c1), (.int c2), (.int c3)] ∧ Z.Warmed39 Ur.vm ∧ Ur.heap = h0) (fun _ _ _ _ _ => True) (fun _ Ur or' Us => ∃ v L, or' = .returned v ∧ Q5 Z c1 c2 c3 h0 n0 v Us.heap L ∧ FrameEnd Ur or' Us L 0 0) := by
  refine MetFree.of_bodySF (plainFor_of_name pn_1) hisR ?_
  intro p e s m args below meth c s₁ Bd hml0 hP hK
  obtain ⟨rfl, hZ, hh⟩ := hP
  have hx := Bd.exec
  have hby := Bd.bytes
  have hlk : meth.locks = false := BodyLoose.notSynchronized Bd
  have hml : c.maxLocals = 3 := hml0
  have hown : s.vm.findClass "com/example/verbguard/verbguard/SegmentPart$Traits" = some m.cls := findClass_of_methodNamed Bd.named
  have hnm := (name_of_methodNamed Bd.named Bd.method).1
  have X0 : Stand p l e ({ frames := 1, cells := 0, slots := 0, locals := 15 } : Room) s m #[(.int c1), (.int c2), (.int c3)] below meth c s₁ [] 0 0 := Stand.of_body Bd
  have e0 : s₁.heap = h0 := by rw [← hh, Bd.state]; rfl
  have N0 := Fr.nil n0
  show Goes p.tables e below s (Q5 Z c1 c2 c3 h0 n0) 0 0 (s₁.setTop (entryFrame m #[(.int c1), (.int c2), (.int c3)] 3))
  refine Goes.of (fun t k => castTop (ef_5 m c1 c2 c3) k) ?_
  show Goes _ _ _ _ _ _ _ (s₁.setTop (mkF m 0 #[.val (.int c1), .val (.int c2), .val (.int c3)] []))
  obtain ⟨T22, X22, e22, st22⟩ := getS2 X0 hx hZ hown (host := "") (Or.inl (hw _ (List.mem_of_getElem? (i := 28) rfl))) Via.refl e0 S_ev (g := (mkF m 0 #[.val (.int c1), .val (.int c2), .val (.int c3)] [])) rfl (hb hby d5_0)
  refine Goes.of st22 ?_
  show Goes _ _ _ _ _ _ _ (T22.setTop (mkF m 3 #[.val (.int c1), .val (.int c2), .val (.int c3)] [(.ref ev)]))
  refine Goes.of (fun t k => XS.iloadN X22.here hx rfl (hb hby d5_3) rfl k) ?_
  show Goes _ _ _ _ _ _ _ (T22.setTop (mkF m 4 #[.val (.int c1), .val (.int c2), .val (.int c3)] [(.int c1), (.ref ev)]))
  refine Goes.of (fun t k => XS.iloadN X22.here hx rfl (hb hby d5_4) rfl k) ?_
  show Goes _ _ _ _ _ _ _ (T22.setTop (mkF m 5 #[.val (.int c1), .val (.int c2), .val (.int c3)] [(.int c2), (.int c1), (.ref ev)]))
  refine Goes.of (fun t k => XS.iloadN X22.here hx rfl (hb hby d5_5) rfl k) ?_
  show Goes _ _ _ _ _ _ _ (T22.setTop (mkF m 6 #[.val (.int c1), .val (.int c2), .val (.int c3)] [(.int c3), (.int c2), (.int c1), (.ref ev)]))
  obtain ⟨_, _, ⟨T23, L23, k23, n23⟩, -, X23, ⟨Lc23, hQ23, l23, y23, z23⟩, st23⟩ := Jvm.LawKit.callS X22 hx (y := (⟨"com/example/verbguard/verbguard/SegmentPart$Traits", "index", "(ZZZ)I"⟩ : MethodName)) hown (mvT hZ (hw _ (List.mem_of_getElem? (i := 30) rfl))) (mvT hZ (hw _ (List.mem_of_getElem? (i := 31) rfl))) (mvT hZ (hw _ (List.mem_of_getElem? (i := 2) rfl))) (mvT hZ (hw _ (List.mem_of_getElem? (i := 32) rfl))) (by decide) (backOf (W := 1) (rm6 l Z a0 hw [] c1 c2 c3  h0 n0 ) hZ (hw _ (List.mem_of_getElem? (i := 32) rfl)) (hw _ (List.mem_of_getElem? (i := 2) rfl)) (by decide) (by decide)) (g := (mkF m 6 #[.val (.int c1), .val (.int c2), .val (.int c3)] [(.int c3), (.int c2), (.int c1), (.ref ev)])) rfl (by rw [hml]; rfl) (argsL := [(.int c1), (.int c2), (.int c3)]) (rest := [(.ref ev)]) (lenOf pd_1 rfl) rfl (by show 2 * 0 + _ ≤ _; exact Nat.le_of_eq rfl) (hb hby d5_6) (fun _ _ => ⟨rfl, e22, (by decide : 0 + 0 ≤ _), (by decide : 0 + 0 ≤ _)⟩)
  dsimp only [Pt.U, Pt.locs, Pt.cells, Pt.slots] at X23 l23 y23 z23 st23 hQ23
  subst l23 y23 z23
  obtain ⟨rfl, N23q, e23⟩ := hQ23
  have N23 := Fr.app N0 N23q
  refine Goes.of st23 ?_
  show Goes _ _ _ _ _ _ _ (T23.setTop (mkF m 9 #[.val (.int c1), .val (.int c2), .val (.int c3)] [(.int (f6 c1 c2 c3)), (.ref ev)]))
  obtain ⟨e24', Ez24, F124, F224, F324, st24⟩ := own_ldT X23 hx hZ e23 T_ev hb1 hb2 hb3 (g := (mkF m 9 #[.val (.int c1), .val (.int c2), .val (.int c3)] [(.int (f6 c1 c2 c3)), (.ref ev)])) rfl rfl (hb hby d5_9)
  refine Goes.of st24 ?_
  show Goes _ _ _ _ _ _ _ (T23.setTop (mkF m 10 #[.val (.int c1), .val (.int c2), .val (.int c3)] [(.ref e24')]))
  exact Goes.fin X23 hlk (v := some (.ref e24')) (fun h => by rw [Bd.returns] at h; cases h) (fun fs hr => retOut X23 hx Bd.returns (by rfl) (Or.inr (Or.inr (Or.inr (Or.inr ⟨rfl, rfl, rfl⟩)))) (hb hby d5_10) hr) ⟨e24', rfl, N23, e23, Ez24, F124, F224, F324⟩ (by decide) (by decide)
def own_or (x y : Int32) : Int32 := if x = (0 : Int32) then (if y = (0 : Int32) then (0 : Int32) else (1 : Int32)) else (1 : Int32)
theorem own_or01 {c x y : Int32} (h : c = own_or x y) : c = (0 : Int32) ∨ c = (1 : Int32) := by
  subst h
  unfold own_or
  split
  · split
    · exact Or.inl rfl
    · exact Or.inr rfl
  · exact Or.inr rfl
theorem d4_0 : decode prog_41_method_3_code 0 = .ok (.aload_n 0, 1) := by decide +kernel
theorem d4_1 : decode prog_41_method_3_code 1 = .ok (.getfield 7, 3) := by decide +kernel
theorem d4_4 : decode prog_41_method_3_code 4 = .ok (.ifCond .ne 10, 3) := by decide +kernel
theorem d4_7 : decode prog_41_method_3_code 7 = .ok (.aload_n 1, 1) := by decide +kernel
theorem d4_8 : decode prog_41_method_3_code 8 = .ok (.getfield 7, 3) := by decide +kernel
theorem d4_11 : decode prog_41_method_3_code 11 = .ok (.ifCond .eq 7, 3) := by decide +kernel
theorem d4_14 : decode prog_41_method_3_code 14 = .ok (.iconst 1, 1) := by decide +kernel
theorem d4_15 : decode prog_41_method_3_code 15 = .ok (.goto 4, 3) := by decide +kernel
theorem d4_18 : decode prog_41_method_3_code 18 = .ok (.iconst 0, 1) := by decide +kernel
theorem d4_19 : decode prog_41_method_3_code 19 = .ok (.aload_n 0, 1) := by decide +kernel
theorem d4_20 : decode prog_41_method_3_code 20 = .ok (.getfield 13, 3) := by decide +kernel
theorem d4_23 : decode prog_41_method_3_code 23 = .ok (.ifCond .ne 10, 3) := by decide +kernel
theorem d4_26 : decode prog_41_method_3_code 26 = .ok (.aload_n 1, 1) := by decide +kernel
theorem d4_27 : decode prog_41_method_3_code 27 = .ok (.getfield 13, 3) := by decide +kernel
theorem d4_30 : decode prog_41_method_3_code 30 = .ok (.ifCond .eq 7, 3) := by decide +kernel
theorem d4_33 : decode prog_41_method_3_code 33 = .ok (.iconst 1, 1) := by decide +kernel
theorem d4_34 : decode prog_41_method_3_code 34 = .ok (.goto 4, 3) := by decide +kernel
theorem d4_37 : decode prog_41_method_3_code 37 = .ok (.iconst 0, 1) := by decide +kernel
theorem d4_38 : decode prog_41_method_3_code 38 = .ok (.aload_n 0, 1) := by decide +kernel
theorem d4_39 : decode prog_41_method_3_code 39 = .ok (.getfield 16, 3) := by decide +kernel
theorem d4_42 : decode prog_41_method_3_code 42 = .ok (.ifCond .ne 10, 3) := by decide +kernel
theorem d4_45 : decode prog_41_method_3_code 45 = .ok (.aload_n 1, 1) := by decide +kernel
theorem d4_46 : decode prog_41_method_3_code 46 = .ok (.getfield 16, 3) := by decide +kernel
theorem d4_49 : decode prog_41_method_3_code 49 = .ok (.ifCond .eq 7, 3) := by decide +kernel
theorem d4_52 : decode prog_41_method_3_code 52 = .ok (.iconst 1, 1) := by decide +kernel
theorem d4_53 : decode prog_41_method_3_code 53 = .ok (.goto 4, 3) := by decide +kernel
theorem d4_56 : decode prog_41_method_3_code 56 = .ok (.iconst 0, 1) := by decide +kernel
theorem d4_57 : decode prog_41_method_3_code 57 = .ok (.invokestatic 27, 3) := by decide +kernel
theorem d4_60 : decode prog_41_method_3_code 60 = .ok (.areturn, 1) := by decide +kernel
theorem pd_2 : parseMethodDescriptor "(ZZZ)Lcom/example/verbguard/verbguard/SegmentPart$Traits;" = some ⟨[.boolean, .boolean, .boolean], some (.object "com/example/verbguard/verbguard/SegmentPart$Traits")⟩ := by decide +kernel
theorem ef_4 (m : MethodId) (a : Addr) (b : Addr) : entryFrame m #[(.ref a), (.ref b)] 2 = mkF m 0 #[.val (.ref a), .val (.ref b)] [] := by first | (simp [entryFrame, mkF, argsToLocals, Value.category]; done) | rfl
def Q4 (Z : State) (x1 x2 x3 y1 y2 y3 : Int32) (h0 : Heap) (n0 : Nat) (v : Option Value) (h : Heap) (L : List Loc) : Prop := ∃ z : Addr, v = some (.ref z) ∧ Fr n0 L ∧ h = h0 ∧ Exa Z h0 z "com/example/verbguard/verbguard/SegmentPart$Traits" ∧ Fld Z h0 z "com/example/verbguard/verbguard/SegmentPart$Traits" "commits" "Z" (.int (own_or x1 y1)) ∧ Fld Z h0 z "com/example/verbguard/verbguard/SegmentPart$Traits" "clusters" "Z" (.int (own_or x2 y2)) ∧ Fld Z h0 z "com/example/verbguard/verbguard/SegmentPart$Traits" "repeats" "Z" (.int (own_or x3 y3))
set_option maxRecDepth 65536 in
set_option maxHeartbeats 40000000 in
theorem rm4 (l : Launch) (Z : State) (a0 : Array Value) (hw : ∀ d ∈ tables_1, d.before a0 Z = true) (ws : List Jvm.Cond) (a : Addr) (b : Addr) (x1 x2 x3 y1 y2 y3 : Int32) (ev : Addr) (h0 : Heap) (n0 : Nat) (Z0 : n0 ≤ h0.size) (F_a1 : Fld Z h0 a "com/example/verbguard/verbguard/SegmentPart$Traits" "commits" "Z" (.int x1)) (F_a2 : Fld Z h0 a "com/example/verbguard/verbguard/SegmentPart$Traits" "clusters" "Z" (.int x2)) (F_a3 : Fld Z h0 a "com/example/verbguard/verbguard/SegmentPart$Traits" "repeats" "Z" (.int x3)) (F_b1 : Fld Z h0 b "com/example/verbguard/verbguard/SegmentPart$Traits" "commits" "Z" (.int y1)) (F_b2 : Fld Z h0 b "com/example/verbguard/verbguard/SegmentPart$Traits" "clusters" "Z" (.int y2)) (F_b3 : Fld Z h0 b "com/example/verbguard/verbguard/SegmentPart$Traits" "repeats" "Z" (.int y3)) (S_ev : Sta Z h0 "com/example/verbguard/verbguard/SegmentPart$Traits" "EVERY" "[Lcom/example/verbguard/verbguard/SegmentPart$Traits;" (.ref ev)) (T_ev : own_Tab Z h0 ev) :
    MetFree l (⟨"com/example/verbguard/verbguard/SegmentPart$Traits", "or", "(Lcom/example/verbguard/verbguard/SegmentPart$Traits;)Lcom/example/verbguard/verbguard/SegmentPart$Traits;"⟩ : MethodName) (head1 (Jvm.Cond.code (⟨"com/example/verbguard/verbguard/SegmentPart$Traits", "or", "(Lcom/example/verbguard/verbguard/SegmentPart$Traits;)Lcom/example/verbguard/verbguard/SegmentPart$Traits;"⟩ : MethodName) prog_41_method_3_code 2 (some (.object "com/example/verbguard/verbguard/SegmentPart$Traits")) :: ws) ({ frames := 2, cells := 0, slots := 0, locals := 29 } : Room)) (fun ar' Ur => ar' = #[(.ref a), (.ref b)] ∧ Z.Warmed39 Ur.vm ∧ Ur.heap = h0) (fun _ _ _ _ _ => True) (fun _ Ur or' Us => ∃ v L, or' = .returned v ∧ Q4 Z x1 x2 x3 y1 y2 y3 h0 n0 v Us.heap L ∧ FrameEnd Ur or' Us L 0 0) := by
  refine MetFree.of_bodySF (plainFor_of_name pn_1) hisR ?_
  intro p e s m args below meth c s₁ Bd hml0 hP hK
  obtain ⟨rfl, hZ, hh⟩ := hP
  have hx := Bd.exec
  have hby := Bd.bytes
  have hlk : meth.locks = false := BodyLoose.notSynchronized Bd
  have hml : c.maxLocals = 2 := hml0
  have hown : s.vm.findClass "com/example/verbguard/verbguard/SegmentPart$Traits" = some m.cls := findClass_of_methodNamed Bd.named
  have hnm := (name_of_methodNamed Bd.named Bd.method).1
  have X0 : Stand p l e ({ frames := 2, cells := 0, slots := 0, locals := 29 } : Room) s m #[(.ref a), (.ref b)] below meth c s₁ [] 0 0 := Stand.of_body Bd
  have e0 : s₁.heap = h0 := by rw [← hh, Bd.state]; rfl
  have N0 := Fr.nil n0
  show Goes p.tables e below s (Q4 Z x1 x2 x3 y1 y2 y3 h0 n0) 0 0 (s₁.setTop (entryFrame m #[(.ref a), (.ref b)] 2))
  refine Goes.of (fun t k => castTop (ef_4 m a b) k) ?_
  show Goes _ _ _ _ _ _ _ (s₁.setTop (mkF m 0 #[.val (.ref a), .val (.ref b)] []))
  have j25 : ∀ (T25 : State) (lc25 : List Loc) (c1 : Int32), Stand p l e ({ frames := 2, cells := 0, slots := 0, locals := 29 } : Room) s m #[(.ref a), (.ref b)] below meth c T25 lc25 0 0 → T25.heap = h0 → Fr n0 lc25 → c1 = own_or x1 y1 → Goes p.tables e below s (Q4 Z x1 x2 x3 y1 y2 y3 h0 n0) 0 0 (T25.setTop (mkF m 19 #[.val (.ref a), .val (.ref b)] [(.int c1)])) := by
    intro T25 lc25 c1 X25 e25 N25 hg25_c1_0
    show Goes _ _ _ _ _ _ _ (T25.setTop (mkF m 19 #[.val (.ref a), .val (.ref b)] [(.int c1)]))
    have j26 : ∀ (T26 : State) (lc26 : List Loc) (c2 : Int32), Stand p l e ({ frames := 2, cells := 0, slots := 0, locals := 29 } : Room) s m #[(.ref a), (.ref b)] below meth c T26 lc26 0 0 → T26.heap = h0 → Fr n0 lc26 → c2 = own_or x2 y2 → Goes p.tables e below s (Q4 Z x1 x2 x3 y1 y2 y3 h0 n0) 0 0 (T26.setTop (mkF m 38 #[.val (.ref a), .val (.ref b)] [(.int c2), (.int c1)])) := by
      intro T26 lc26 c2 X26 e26 N26 hg26_c2_0
      show Goes _ _ _ _ _ _ _ (T26.setTop (mkF m 38 #[.val (.ref a), .val (.ref b)] [(.int c2), (.int c1)]))
      have j27 : ∀ (T27 : State) (lc27 : List Loc) (c3 : Int32), Stand p l e ({ frames := 2, cells := 0, slots := 0, locals := 29 } : Room) s m #[(.ref a), (.ref b)] below meth c T27 lc27 0 0 → T27.heap = h0 → Fr n0 lc27 → c3 = own_or x3 y3 → Goes p.tables e below s (Q4 Z x1 x2 x3 y1 y2 y3 h0 n0) 0 0 (T27.setTop (mkF m 57 #[.val (.ref a), .val (.ref b)] [(.int c3), (.int c2), (.int c1)])) := by
        intro T27 lc27 c3 X27 e27 N27 hg27_c3_0
        show Goes _ _ _ _ _ _ _ (T27.setTop (mkF m 57 #[.val (.ref a), .val (.ref b)] [(.int c3), (.int c2), (.int c1)]))
        obtain ⟨_, _, ⟨T28, L28, k28, n28⟩, -, X28, ⟨Lc28, hQ28, l28, y28, z28⟩, st28⟩ := Jvm.LawKit.callS X27 hx (y := (⟨"com/example/verbguard/verbguard/SegmentPart$Traits", "of", "(ZZZ)Lcom/example/verbguard/verbguard/SegmentPart$Traits;"⟩ : MethodName)) hown (mvT hZ (hw _ (List.mem_of_getElem? (i := 25) rfl))) (mvT hZ (hw _ (List.mem_of_getElem? (i := 26) rfl))) (mvT hZ (hw _ (List.mem_of_getElem? (i := 2) rfl))) (mvT hZ (hw _ (List.mem_of_getElem? (i := 27) rfl))) (by decide) (backOf (W := 0) (rm5 l Z a0 hw [] c1 c2 c3 ev h0 n0 Z0 S_ev T_ev (own_or01 hg25_c1_0) (own_or01 hg26_c2_0) (own_or01 hg27_c3_0)) hZ (hw _ (List.mem_of_getElem? (i := 27) rfl)) (hw _ (List.mem_of_getElem? (i := 2) rfl)) (by decide) (by decide)) (g := (mkF m 57 #[.val (.ref a), .val (.ref b)] [(.int c3), (.int c2), (.int c1)])) rfl (by rw [hml]; rfl) (argsL := [(.int c1), (.int c2), (.int c3)]) (rest := []) (lenOf pd_2 rfl) rfl (by show 2 * 0 + _ ≤ _; exact Nat.le_of_eq rfl) (hb hby d4_57) (fun _ _ => ⟨rfl, e27, (by decide : 0 + 0 ≤ _), (by decide : 0 + 0 ≤ _)⟩)
        dsimp only [Pt.U, Pt.locs, Pt.cells, Pt.slots] at X28 l28 y28 z28 st28 hQ28
        subst l28 y28 z28
        obtain ⟨z28', rfl, N28q, e28, Ez28, F128, F228, F328⟩ := hQ28
        have N28 := Fr.app N27 N28q
        refine Goes.of st28 ?_
        show Goes _ _ _ _ _ _ _ (T28.setTop (mkF m 60 #[.val (.ref a), .val (.ref b)] [(.ref z28')]))
        exact Goes.fin X28 hlk (v := some (.ref z28')) (fun h => by rw [Bd.returns] at h; cases h) (fun fs hr => retOut X28 hx Bd.returns (by rfl) (Or.inr (Or.inr (Or.inr (Or.inr ⟨rfl, rfl, rfl⟩)))) (hb hby d4_60) hr) ⟨z28', rfl, N28, e28, Ez28, (by rw [← hg25_c1_0]; exact F128), (by rw [← hg26_c2_0]; exact F228), (by rw [← hg27_c3_0]; exact F328)⟩ (by decide) (by decide)
      refine Goes.of (fun t k => XS.aloadN X26.here hx rfl (hb hby d4_38) rfl rfl k) ?_
      show Goes _ _ _ _ _ _ _ (T26.setTop (mkF m 39 #[.val (.ref a), .val (.ref b)] [(.ref a), (.int c2), (.int c1)]))
      obtain ⟨T29, X29, e29, st29⟩ := getF X26 hx hZ hown (host := "") (Or.inl (hw _ (List.mem_of_getElem? (i := 18) rfl))) Via.refl e26 F_a3 (g := (mkF m 39 #[.val (.ref a), .val (.ref b)] [(.ref a), (.int c2), (.int c1)])) rfl rfl (hb hby d4_39)
      refine Goes.of st29 ?_
      show Goes _ _ _ _ _ _ _ (T29.setTop (mkF m 42 #[.val (.ref a), .val (.ref b)] [(.int x3), (.int c2), (.int c1)]))
      by_cases hc30 : x3 = (0 : Int32)
      · refine Goes.of (fun t k => XS.ifNo X29.here hx rfl (hb hby d4_42) rfl ((if0 _ _).trans (teq hc30).2) k) ?_
        show Goes _ _ _ _ _ _ _ (T29.setTop (mkF m 45 #[.val (.ref a), .val (.ref b)] [(.int c2), (.int c1)]))
        refine Goes.of (fun t k => XS.aloadN X29.here hx rfl (hb hby d4_45) rfl rfl k) ?_
        show Goes _ _ _ _ _ _ _ (T29.setTop (mkF m 46 #[.val (.ref a), .val (.ref b)] [(.ref b), (.int c2), (.int c1)]))
        obtain ⟨T31, X31, e31, st31⟩ := getF X29 hx hZ hown (host := "") (Or.inl (hw _ (List.mem_of_getElem? (i := 18) rfl))) Via.refl e29 F_b3 (g := (mkF m 46 #[.val (.ref a), .val (.ref b)] [(.ref b), (.int c2), (.int c1)])) rfl rfl (hb hby d4_46)
        refine Goes.of st31 ?_
        show Goes _ _ _ _ _ _ _ (T31.setTop (mkF m 49 #[.val (.ref a), .val (.ref b)] [(.int y3), (.int c2), (.int c1)]))
        by_cases hc32 : y3 = (0 : Int32)
        · refine Goes.of (fun t k => XS.ifYes X31.here hx rfl (pc0 := 49) (pc' := 56) rfl (hb hby d4_49) rfl ((if0 _ _).trans (teq hc32).1) (by decide) (by decide) k) ?_
          show Goes _ _ _ _ _ _ _ (T31.setTop (mkF m 56 #[.val (.ref a), .val (.ref b)] [(.int c2), (.int c1)]))
          refine Goes.of (fun t k => XS.iconst X31.here hx rfl (hb hby d4_56) k) ?_
          show Goes _ _ _ _ _ _ _ (T31.setTop (mkF m 57 #[.val (.ref a), .val (.ref b)] [(.int (0 : Int32)), (.int c2), (.int c1)]))
          exact j27 _ _ (0 : Int32) X31 e31 N26 (by rw [own_or, if_pos hc30, if_pos hc32])
        · refine Goes.of (fun t k => XS.ifNo X31.here hx rfl (hb hby d4_49) rfl ((if0 _ _).trans (feq hc32).1) k) ?_
          show Goes _ _ _ _ _ _ _ (T31.setTop (mkF m 52 #[.val (.ref a), .val (.ref b)] [(.int c2), (.int c1)]))
          refine Goes.of (fun t k => XS.iconst X31.here hx rfl (hb hby d4_52) k) ?_
          show Goes _ _ _ _ _ _ _ (T31.setTop (mkF m 53 #[.val (.ref a), .val (.ref b)] [(.int (1 : Int32)), (.int c2), (.int c1)]))
          refine Goes.of (fun t k => XS.goto X31.here hx rfl (pc0 := 53) (pc' := 57) rfl (hb hby d4_53) (by decide) (by decide) k) ?_
          show Goes _ _ _ _ _ _ _ (T31.setTop (mkF m 57 #[.val (.ref a), .val (.ref b)] [(.int (1 : Int32)), (.int c2), (.int c1)]))
          exact j27 _ _ (1 : Int32) X31 e31 N26 (by rw [own_or, if_pos hc30, if_neg hc32])
      · refine Goes.of (fun t k => XS.ifYes X29.here hx rfl (pc0 := 42) (pc' := 52) rfl (hb hby d4_42) rfl ((if0 _ _).trans (feq hc30).2) (by decide) (by decide) k) ?_
        show Goes _ _ _ _ _ _ _ (T29.setTop (mkF m 52 #[.val (.ref a), .val (.ref b)] [(.int c2), (.int c1)]))
        refine Goes.of (fun t k => XS.iconst X29.here hx rfl (hb hby d4_52) k) ?_
        show Goes _ _ _ _ _ _ _ (T29.setTop (mkF m 53 #[.val (.ref a), .val (.ref b)] [(.int (1 : Int32)), (.int c2), (.int c1)]))
        refine Goes.of (fun t k => XS.goto X29.here hx rfl (pc0 := 53) (pc' := 57) rfl (hb hby d4_53) (by decide) (by decide) k) ?_
        show Goes _ _ _ _ _ _ _ (T29.setTop (mkF m 57 #[.val (.ref a), .val (.ref b)] [(.int (1 : Int32)), (.int c2), (.int c1)]))
        exact j27 _ _ (1 : Int32) X29 e29 N26 (by rw [own_or, if_neg hc30])
    refine Goes.of (fun t k => XS.aloadN X25.here hx rfl (hb hby d4_19) rfl rfl k) ?_
    show Goes _ _ _ _ _ _ _ (T25.setTop (mkF m 20 #[.val (.ref a), .val (.ref b)] [(.ref a), (.int c1)]))
    obtain ⟨T33, X33, e33, st33⟩ := getF X25 hx hZ hown (host := "") (Or.inl (hw _ (List.mem_of_getElem? (i := 16) rfl))) Via.refl e25 F_a2 (g := (mkF m 20 #[.val (.ref a), .val (.ref b)] [(.ref a), (.int c1)])) rfl rfl (hb hby d4_20)
    refine Goes.of st33 ?_
    show Goes _ _ _ _ _ _ _ (T33.setTop (mkF m 23 #[.val (.ref a), .val (.ref b)] [(.int x2), (.int c1)]))
    by_cases hc34 : x2 = (0 : Int32)
    · refine Goes.of (fun t k => XS.ifNo X33.here hx rfl (hb hby d4_23) rfl ((if0 _ _).trans (teq hc34).2) k) ?_
      show Goes _ _ _ _ _ _ _ (T33.setTop (mkF m 26 #[.val (.ref a), .val (.ref b)] [(.int c1)]))
      refine Goes.of (fun t k => XS.aloadN X33.here hx rfl (hb hby d4_26) rfl rfl k) ?_
      show Goes _ _ _ _ _ _ _ (T33.setTop (mkF m 27 #[.val (.ref a), .val (.ref b)] [(.ref b), (.int c1)]))
      obtain ⟨T35, X35, e35, st35⟩ := getF X33 hx hZ hown (host := "") (Or.inl (hw _ (List.mem_of_getElem? (i := 16) rfl))) Via.refl e33 F_b2 (g := (mkF m 27 #[.val (.ref a), .val (.ref b)] [(.ref b), (.int c1)])) rfl rfl (hb hby d4_27)
      refine Goes.of st35 ?_
      show Goes _ _ _ _ _ _ _ (T35.setTop (mkF m 30 #[.val (.ref a), .val (.ref b)] [(.int y2), (.int c1)]))
      by_cases hc36 : y2 = (0 : Int32)
      · refine Goes.of (fun t k => XS.ifYes X35.here hx rfl (pc0 := 30) (pc' := 37) rfl (hb hby d4_30) rfl ((if0 _ _).trans (teq hc36).1) (by decide) (by decide) k) ?_
        show Goes _ _ _ _ _ _ _ (T35.setTop (mkF m 37 #[.val (.ref a), .val (.ref b)] [(.int c1)]))
        refine Goes.of (fun t k => XS.iconst X35.here hx rfl (hb hby d4_37) k) ?_
        show Goes _ _ _ _ _ _ _ (T35.setTop (mkF m 38 #[.val (.ref a), .val (.ref b)] [(.int (0 : Int32)), (.int c1)]))
        exact j26 _ _ (0 : Int32) X35 e35 N25 (by rw [own_or, if_pos hc34, if_pos hc36])
      · refine Goes.of (fun t k => XS.ifNo X35.here hx rfl (hb hby d4_30) rfl ((if0 _ _).trans (feq hc36).1) k) ?_
        show Goes _ _ _ _ _ _ _ (T35.setTop (mkF m 33 #[.val (.ref a), .val (.ref b)] [(.int c1)]))
        refine Goes.of (fun t k => XS.iconst X35.here hx rfl (hb hby d4_33) k) ?_
        show Goes _ _ _ _ _ _ _ (T35.setTop (mkF m 34 #[.val (.ref a), .val (.ref b)] [(.int (1 : Int32)), (.int c1)]))
        refine Goes.of (fun t k => XS.goto X35.here hx rfl (pc0 := 34) (pc' := 38) rfl (hb hby d4_34) (by decide) (by decide) k) ?_
        show Goes _ _ _ _ _ _ _ (T35.setTop (mkF m 38 #[.val (.ref a), .val (.ref b)] [(.int (1 : Int32)), (.int c1)]))
        exact j26 _ _ (1 : Int32) X35 e35 N25 (by rw [own_or, if_pos hc34, if_neg hc36])
    · refine Goes.of (fun t k => XS.ifYes X33.here hx rfl (pc0 := 23) (pc' := 33) rfl (hb hby d4_23) rfl ((if0 _ _).trans (feq hc34).2) (by decide) (by decide) k) ?_
      show Goes _ _ _ _ _ _ _ (T33.setTop (mkF m 33 #[.val (.ref a), .val (.ref b)] [(.int c1)]))
      refine Goes.of (fun t k => XS.iconst X33.here hx rfl (hb hby d4_33) k) ?_
      show Goes _ _ _ _ _ _ _ (T33.setTop (mkF m 34 #[.val (.ref a), .val (.ref b)] [(.int (1 : Int32)), (.int c1)]))
      refine Goes.of (fun t k => XS.goto X33.here hx rfl (pc0 := 34) (pc' := 38) rfl (hb hby d4_34) (by decide) (by decide) k) ?_
      show Goes _ _ _ _ _ _ _ (T33.setTop (mkF m 38 #[.val (.ref a), .val (.ref b)] [(.int (1 : Int32)), (.int c1)]))
      exact j26 _ _ (1 : Int32) X33 e33 N25 (by rw [own_or, if_neg hc34])
  refine Goes.of (fun t k => XS.aloadN X0.here hx rfl (hb hby d4_0) rfl rfl k) ?_
  show Goes _ _ _ _ _ _ _ (s₁.setTop (mkF m 1 #[.val (.ref a), .val (.ref b)] [(.ref a)]))
  obtain ⟨T37, X37, e37, st37⟩ := getF X0 hx hZ hown (host := "") (Or.inl (hw _ (List.mem_of_getElem? (i := 14) rfl))) Via.refl e0 F_a1 (g := (mkF m 1 #[.val (.ref a), .val (.ref b)] [(.ref a)])) rfl rfl (hb hby d4_1)
  refine Goes.of st37 ?_
  show Goes _ _ _ _ _ _ _ (T37.setTop (mkF m 4 #[.val (.ref a), .val (.ref b)] [(.int x1)]))
  by_cases hc38 : x1 = (0 : Int32)
  · refine Goes.of (fun t k => XS.ifNo X37.here hx rfl (hb hby d4_4) rfl ((if0 _ _).trans (teq hc38).2) k) ?_
    show Goes _ _ _ _ _ _ _ (T37.setTop (mkF m 7 #[.val (.ref a), .val (.ref b)] []))
    refine Goes.of (fun t k => XS.aloadN X37.here hx rfl (hb hby d4_7) rfl rfl k) ?_
    show Goes _ _ _ _ _ _ _ (T37.setTop (mkF m 8 #[.val (.ref a), .val (.ref b)] [(.ref b)]))
    obtain ⟨T39, X39, e39, st39⟩ := getF X37 hx hZ hown (host := "") (Or.inl (hw _ (List.mem_of_getElem? (i := 14) rfl))) Via.refl e37 F_b1 (g := (mkF m 8 #[.val (.ref a), .val (.ref b)] [(.ref b)])) rfl rfl (hb hby d4_8)
    refine Goes.of st39 ?_
    show Goes _ _ _ _ _ _ _ (T39.setTop (mkF m 11 #[.val (.ref a), .val (.ref b)] [(.int y1)]))
    by_cases hc40 : y1 = (0 : Int32)
    · refine Goes.of (fun t k => XS.ifYes X39.here hx rfl (pc0 := 11) (pc' := 18) rfl (hb hby d4_11) rfl ((if0 _ _).trans (teq hc40).1) (by decide) (by decide) k) ?_
      show Goes _ _ _ _ _ _ _ (T39.setTop (mkF m 18 #[.val (.ref a), .val (.ref b)] []))
      refine Goes.of (fun t k => XS.iconst X39.here hx rfl (hb hby d4_18) k) ?_
      show Goes _ _ _ _ _ _ _ (T39.setTop (mkF m 19 #[.val (.ref a), .val (.ref b)] [(.int (0 : Int32))]))
      exact j25 _ _ (0 : Int32) X39 e39 N0 (by rw [own_or, if_pos hc38, if_pos hc40])
    · refine Goes.of (fun t k => XS.ifNo X39.here hx rfl (hb hby d4_11) rfl ((if0 _ _).trans (feq hc40).1) k) ?_
      show Goes _ _ _ _ _ _ _ (T39.setTop (mkF m 14 #[.val (.ref a), .val (.ref b)] []))
      refine Goes.of (fun t k => XS.iconst X39.here hx rfl (hb hby d4_14) k) ?_
      show Goes _ _ _ _ _ _ _ (T39.setTop (mkF m 15 #[.val (.ref a), .val (.ref b)] [(.int (1 : Int32))]))
      refine Goes.of (fun t k => XS.goto X39.here hx rfl (pc0 := 15) (pc' := 19) rfl (hb hby d4_15) (by decide) (by decide) k) ?_
      show Goes _ _ _ _ _ _ _ (T39.setTop (mkF m 19 #[.val (.ref a), .val (.ref b)] [(.int (1 : Int32))]))
      exact j25 _ _ (1 : Int32) X39 e39 N0 (by rw [own_or, if_pos hc38, if_neg hc40])
  · refine Goes.of (fun t k => XS.ifYes X37.here hx rfl (pc0 := 4) (pc' := 14) rfl (hb hby d4_4) rfl ((if0 _ _).trans (feq hc38).2) (by decide) (by decide) k) ?_
    show Goes _ _ _ _ _ _ _ (T37.setTop (mkF m 14 #[.val (.ref a), .val (.ref b)] []))
    refine Goes.of (fun t k => XS.iconst X37.here hx rfl (hb hby d4_14) k) ?_
    show Goes _ _ _ _ _ _ _ (T37.setTop (mkF m 15 #[.val (.ref a), .val (.ref b)] [(.int (1 : Int32))]))
    refine Goes.of (fun t k => XS.goto X37.here hx rfl (pc0 := 15) (pc' := 19) rfl (hb hby d4_15) (by decide) (by decide) k) ?_
    show Goes _ _ _ _ _ _ _ (T37.setTop (mkF m 19 #[.val (.ref a), .val (.ref b)] [(.int (1 : Int32))]))
    exact j25 _ _ (1 : Int32) X37 e37 N0 (by rw [own_or, if_neg hc38])
theorem d7_0 : decode prog_41_method_9_code 0 = .ok (.aload_n 0, 1) := by decide +kernel
theorem d7_1 : decode prog_41_method_9_code 1 = .ok (.getfield 7, 3) := by decide +kernel
theorem d7_4 : decode prog_41_method_9_code 4 = .ok (.ireturn, 1) := by decide +kernel
theorem ef_7 (m : MethodId) (o : Addr) : entryFrame m #[(.ref o)] 1 = mkF m 0 #[.val (.ref o)] [] := by first | (simp [entryFrame, mkF, argsToLocals, Value.category]; done) | rfl
def Q7 (w : Int32) (h0 : Heap) (n0 : Nat) (v : Option Value) (h : Heap) (L : List Loc) : Prop := v = some (.int (w &&& 1)) ∧ Fr n0 L ∧ h = h0
set_option maxRecDepth 65536 in
set_option maxHeartbeats 40000000 in
theorem rm7 (l : Launch) (Z : State) (a0 : Array Value) (hw : ∀ d ∈ tables_1, d.before a0 Z = true) (ws : List Jvm.Cond) (o : Addr) (w : Int32) (h0 : Heap) (n0 : Nat) (Z0 : n0 ≤ h0.size) (F_o : Fld Z h0 o "com/example/verbguard/verbguard/SegmentPart$Traits" "commits" "Z" (.int w)) :
    MetFree l (⟨"com/example/verbguard/verbguard/SegmentPart$Traits", "commits", "()Z"⟩ : MethodName) (head1 (Jvm.Cond.code (⟨"com/example/verbguard/verbguard/SegmentPart$Traits", "commits", "()Z"⟩ : MethodName) prog_41_method_9_code 1 (some .boolean) :: ws) ({ frames := 0, cells := 0, slots := 0, locals := 0 } : Room)) (fun ar' Ur => ar' = #[(.ref o)] ∧ Z.Warmed39 Ur.vm ∧ Ur.heap = h0) (fun _ _ _ _ _ => True) (fun _ Ur or' Us => ∃ v L, or' = .returned v ∧ Q7 w h0 n0 v Us.heap L ∧ FrameEnd Ur or' Us L 0 0) := by
  refine MetFree.of_bodySF (plainFor_of_name pn_1) hisR ?_
  intro p e s m args below meth c s₁ Bd hml0 hP hK
  obtain ⟨rfl, hZ, hh⟩ := hP
  have hx := Bd.exec
  have hby := Bd.bytes
  have hlk : meth.locks = false := BodyLoose.notSynchronized Bd
  have hml : c.maxLocals = 1 := hml0
  have hown : s.vm.findClass "com/example/verbguard/verbguard/SegmentPart$Traits" = some m.cls := findClass_of_methodNamed Bd.named
  have hnm := (name_of_methodNamed Bd.named Bd.method).1
  have X0 : Stand p l e ({ frames := 0, cells := 0, slots := 0, locals := 0 } : Room) s m #[(.ref o)] below meth c s₁ [] 0 0 := Stand.of_body Bd
  have e0 : s₁.heap = h0 := by rw [← hh, Bd.state]; rfl
  have N0 := Fr.nil n0
  show Goes p.tables e below s (Q7 w h0 n0) 0 0 (s₁.setTop (entryFrame m #[(.ref o)] 1))
  refine Goes.of (fun t k => castTop (ef_7 m o) k) ?_
  show Goes _ _ _ _ _ _ _ (s₁.setTop (mkF m 0 #[.val (.ref o)] []))
  refine Goes.of (fun t k => XS.aloadN X0.here hx rfl (hb hby d7_0) rfl rfl k) ?_
  show Goes _ _ _ _ _ _ _ (s₁.setTop (mkF m 1 #[.val (.ref o)] [(.ref o)]))
  obtain ⟨T41, X41, e41, st41⟩ := getF X0 hx hZ hown (host := "") (Or.inl (hw _ (List.mem_of_getElem? (i := 14) rfl))) Via.refl e0 F_o (g := (mkF m 1 #[.val (.ref o)] [(.ref o)])) rfl rfl (hb hby d7_1)
  refine Goes.of st41 ?_
  show Goes _ _ _ _ _ _ _ (T41.setTop (mkF m 4 #[.val (.ref o)] [(.int w)]))
  exact Goes.fin X41 hlk (v := some (.int (w &&& 1))) (fun h => by rw [Bd.returns] at h; cases h) (fun fs hr => retN X41 hx (t := .boolean) Bd.returns (by simp) (hb hby d7_4) hr) ⟨rfl, N0, e41⟩ (by decide) (by decide)
theorem d8_0 : decode prog_41_method_10_code 0 = .ok (.aload_n 0, 1) := by decide +kernel
theorem d8_1 : decode prog_41_method_10_code 1 = .ok (.getfield 13, 3) := by decide +kernel
theorem d8_4 : decode prog_41_method_10_code 4 = .ok (.ireturn, 1) := by decide +kernel
theorem ef_8 (m : MethodId) (o : Addr) : entryFrame m #[(.ref o)] 1 = mkF m 0 #[.val (.ref o)] [] := by first | (simp [entryFrame, mkF, argsToLocals, Value.category]; done) | rfl
def Q8 (w : Int32) (h0 : Heap) (n0 : Nat) (v : Option Value) (h : Heap) (L : List Loc) : Prop := v = some (.int (w &&& 1)) ∧ Fr n0 L ∧ h = h0
set_option maxRecDepth 65536 in
set_option maxHeartbeats 40000000 in
theorem rm8 (l : Launch) (Z : State) (a0 : Array Value) (hw : ∀ d ∈ tables_1, d.before a0 Z = true) (ws : List Jvm.Cond) (o : Addr) (w : Int32) (h0 : Heap) (n0 : Nat) (Z0 : n0 ≤ h0.size) (F_o : Fld Z h0 o "com/example/verbguard/verbguard/SegmentPart$Traits" "clusters" "Z" (.int w)) :
    MetFree l (⟨"com/example/verbguard/verbguard/SegmentPart$Traits", "clusters", "()Z"⟩ : MethodName) (head1 (Jvm.Cond.code (⟨"com/example/verbguard/verbguard/SegmentPart$Traits", "clusters", "()Z"⟩ : MethodName) prog_41_method_10_code 1 (some .boolean) :: ws) ({ frames := 0, cells := 0, slots := 0, locals := 0 } : Room)) (fun ar' Ur => ar' = #[(.ref o)] ∧ Z.Warmed39 Ur.vm ∧ Ur.heap = h0) (fun _ _ _ _ _ => True) (fun _ Ur or' Us => ∃ v L, or' = .returned v ∧ Q8 w h0 n0 v Us.heap L ∧ FrameEnd Ur or' Us L 0 0) := by
  refine MetFree.of_bodySF (plainFor_of_name pn_1) hisR ?_
  intro p e s m args below meth c s₁ Bd hml0 hP hK
  obtain ⟨rfl, hZ, hh⟩ := hP
  have hx := Bd.exec
  have hby := Bd.bytes
  have hlk : meth.locks = false := BodyLoose.notSynchronized Bd
  have hml : c.maxLocals = 1 := hml0
  have hown : s.vm.findClass "com/example/verbguard/verbguard/SegmentPart$Traits" = some m.cls := findClass_of_methodNamed Bd.named
  have hnm := (name_of_methodNamed Bd.named Bd.method).1
  have X0 : Stand p l e ({ frames := 0, cells := 0, slots := 0, locals := 0 } : Room) s m #[(.ref o)] below meth c s₁ [] 0 0 := Stand.of_body Bd
  have e0 : s₁.heap = h0 := by rw [← hh, Bd.state]; rfl
  have N0 := Fr.nil n0
  show Goes p.tables e below s (Q8 w h0 n0) 0 0 (s₁.setTop (entryFrame m #[(.ref o)] 1))
  refine Goes.of (fun t k => castTop (ef_8 m o) k) ?_
  show Goes _ _ _ _ _ _ _ (s₁.setTop (mkF m 0 #[.val (.ref o)] []))
  refine Goes.of (fun t k => XS.aloadN X0.here hx rfl (hb hby d8_0) rfl rfl k) ?_
  show Goes _ _ _ _ _ _ _ (s₁.setTop (mkF m 1 #[.val (.ref o)] [(.ref o)]))
  obtain ⟨T42, X42, e42, st42⟩ := getF X0 hx hZ hown (host := "") (Or.inl (hw _ (List.mem_of_getElem? (i := 16) rfl))) Via.refl e0 F_o (g := (mkF m 1 #[.val (.ref o)] [(.ref o)])) rfl rfl (hb hby d8_1)
  refine Goes.of st42 ?_
  show Goes _ _ _ _ _ _ _ (T42.setTop (mkF m 4 #[.val (.ref o)] [(.int w)]))
  exact Goes.fin X42 hlk (v := some (.int (w &&& 1))) (fun h => by rw [Bd.returns] at h; cases h) (fun fs hr => retN X42 hx (t := .boolean) Bd.returns (by simp) (hb hby d8_4) hr) ⟨rfl, N0, e42⟩ (by decide) (by decide)
theorem d9_0 : decode prog_41_method_11_code 0 = .ok (.aload_n 0, 1) := by decide +kernel
theorem d9_1 : decode prog_41_method_11_code 1 = .ok (.getfield 16, 3) := by decide +kernel
theorem d9_4 : decode prog_41_method_11_code 4 = .ok (.ireturn, 1) := by decide +kernel
theorem ef_9 (m : MethodId) (o : Addr) : entryFrame m #[(.ref o)] 1 = mkF m 0 #[.val (.ref o)] [] := by first | (simp [entryFrame, mkF, argsToLocals, Value.category]; done) | rfl
def Q9 (w : Int32) (h0 : Heap) (n0 : Nat) (v : Option Value) (h : Heap) (L : List Loc) : Prop := v = some (.int (w &&& 1)) ∧ Fr n0 L ∧ h = h0
set_option maxRecDepth 65536 in
set_option maxHeartbeats 40000000 in
theorem rm9 (l : Launch) (Z : State) (a0 : Array Value) (hw : ∀ d ∈ tables_1, d.before a0 Z = true) (ws : List Jvm.Cond) (o : Addr) (w : Int32) (h0 : Heap) (n0 : Nat) (Z0 : n0 ≤ h0.size) (F_o : Fld Z h0 o "com/example/verbguard/verbguard/SegmentPart$Traits" "repeats" "Z" (.int w)) :
    MetFree l (⟨"com/example/verbguard/verbguard/SegmentPart$Traits", "repeats", "()Z"⟩ : MethodName) (head1 (Jvm.Cond.code (⟨"com/example/verbguard/verbguard/SegmentPart$Traits", "repeats", "()Z"⟩ : MethodName) prog_41_method_11_code 1 (some .boolean) :: ws) ({ frames := 0, cells := 0, slots := 0, locals := 0 } : Room)) (fun ar' Ur => ar' = #[(.ref o)] ∧ Z.Warmed39 Ur.vm ∧ Ur.heap = h0) (fun _ _ _ _ _ => True) (fun _ Ur or' Us => ∃ v L, or' = .returned v ∧ Q9 w h0 n0 v Us.heap L ∧ FrameEnd Ur or' Us L 0 0) := by
  refine MetFree.of_bodySF (plainFor_of_name pn_1) hisR ?_
  intro p e s m args below meth c s₁ Bd hml0 hP hK
  obtain ⟨rfl, hZ, hh⟩ := hP
  have hx := Bd.exec
  have hby := Bd.bytes
  have hlk : meth.locks = false := BodyLoose.notSynchronized Bd
  have hml : c.maxLocals = 1 := hml0
  have hown : s.vm.findClass "com/example/verbguard/verbguard/SegmentPart$Traits" = some m.cls := findClass_of_methodNamed Bd.named
  have hnm := (name_of_methodNamed Bd.named Bd.method).1
  have X0 : Stand p l e ({ frames := 0, cells := 0, slots := 0, locals := 0 } : Room) s m #[(.ref o)] below meth c s₁ [] 0 0 := Stand.of_body Bd
  have e0 : s₁.heap = h0 := by rw [← hh, Bd.state]; rfl
  have N0 := Fr.nil n0
  show Goes p.tables e below s (Q9 w h0 n0) 0 0 (s₁.setTop (entryFrame m #[(.ref o)] 1))
  refine Goes.of (fun t k => castTop (ef_9 m o) k) ?_
  show Goes _ _ _ _ _ _ _ (s₁.setTop (mkF m 0 #[.val (.ref o)] []))
  refine Goes.of (fun t k => XS.aloadN X0.here hx rfl (hb hby d9_0) rfl rfl k) ?_
  show Goes _ _ _ _ _ _ _ (s₁.setTop (mkF m 1 #[.val (.ref o)] [(.ref o)]))
  obtain ⟨T43, X43, e43, st43⟩ := getF X0 hx hZ hown (host := "") (Or.inl (hw _ (List.mem_of_getElem? (i := 18) rfl))) Via.refl e0 F_o (g := (mkF m 1 #[.val (.ref o)] [(.ref o)])) rfl rfl (hb hby d9_1)
  refine Goes.of st43 ?_
  show Goes _ _ _ _ _ _ _ (T43.setTop (mkF m 4 #[.val (.ref o)] [(.int w)]))
  exact Goes.fin X43 hlk (v := some (.int (w &&& 1))) (fun h => by rw [Bd.returns] at h; cases h) (fun fs hr => retN X43 hx (t := .boolean) Bd.returns (by simp) (hb hby d9_4) hr) ⟨rfl, N0, e43⟩ (by decide) (by decide)
theorem own_orL {a b : Int32} (h : a = (0 : Int32)) (hb : b = (0 : Int32) ∨ b = (1 : Int32)) : b = own_or a b := by
  rw [own_or, if_pos h]
  rcases hb with rfl | rfl <;> rfl
theorem own_orR {a b : Int32} (h : ¬ a = (0 : Int32)) : (1 : Int32) = own_or a b := by rw [own_or, if_neg h]
theorem pn_2 : plainName "com/example/verbguard/verbguard/TraitsOrPinLaw" = true := by first | (simp [plainName, overriddenIn]; done) | decide +kernel
theorem pd_3 : parseMethodDescriptor "(ZZZ)V" = some ⟨[.boolean, .boolean, .boolean], none⟩ := by decide +kernel
theorem pd_4 : parseMethodDescriptor "(Lcom/example/verbguard/verbguard/SegmentPart$Traits;)Lcom/example/verbguard/verbguard/SegmentPart$Traits;" = some ⟨[(.object "com/example/verbguard/verbguard/SegmentPart$Traits")], some (.object "com/example/verbguard/verbguard/SegmentPart$Traits")⟩ := by decide +kernel
theorem pd_5 : parseMethodDescriptor "()Z" = some ⟨[], some .boolean⟩ := by decide +kernel
theorem ef_0 (m : MethodId) (u0 : Int32) (u1 : Int32) : entryFrame m #[(.int u0), (.int u1)] maxLocals = mkF m 0 #[.val (.int u0), .val (.int u1), .unset, .unset, .unset, .unset, .unset, .unset, .unset, .unset, .unset, .unset, .unset, .unset] [] := by first | (simp [entryFrame, mkF, argsToLocals, Value.category, maxLocals]; done) | rfl
def Q0 (n0 : Nat) (v : Option Value) (h : Heap) (L : List Loc) : Prop := v = some (.int 1) ∧ Fr n0 L
set_option maxRecDepth 65536 in
set_option maxHeartbeats 40000000 in
theorem rm0 (l : Launch) (Z : State) (a0 : Array Value) (hw : ∀ d ∈ tables_1, d.before a0 Z = true) (ws : List Jvm.Cond) (u0 : Int32) (u1 : Int32) (ev : Addr) (h0 : Heap) (n0 : Nat) (Z0 : n0 ≤ h0.size) (O0 : Old Z n0 h0) (S_ev : Sta Z Z.heap "com/example/verbguard/verbguard/SegmentPart$Traits" "EVERY" "[Lcom/example/verbguard/verbguard/SegmentPart$Traits;" (.ref ev)) (T_ev : own_Tab Z Z.heap ev) :
    MetFree l x (head1 (Jvm.Cond.code x code maxLocals ret :: ws) room_1) (fun ar' Ur => ar' = #[(.int u0), (.int u1)] ∧ Z.Warmed39 Ur.vm ∧ Ur.heap = h0) (fun _ _ _ _ _ => True) (fun _ Ur or' Us => ∃ v L, or' = .returned v ∧ Q0 n0 v Us.heap L ∧ FrameEnd Ur or' Us L room_1.cells room_1.slots) := by
  refine MetFree.of_bodySF (plainFor_of_name pn_2) hisR ?_
  intro p e s m args below meth c s₁ Bd hml0 hP hK
  obtain ⟨rfl, hZ, hh⟩ := hP
  have hx := Bd.exec
  have hby := Bd.bytes
  have hlk : meth.locks = false := BodyLoose.notSynchronized Bd
  have hml : c.maxLocals = 14 := hml0
  have hown : s.vm.findClass "com/example/verbguard/verbguard/TraitsOrPinLaw" = some m.cls := findClass_of_methodNamed Bd.named
  have hnm := (name_of_methodNamed Bd.named Bd.method).1
  have X0 : Stand p l e room_1 s m #[(.int u0), (.int u1)] below meth c s₁ [] 0 0 := Stand.of_body Bd
  have e0 : s₁.heap = h0 := by rw [← hh, Bd.state]; rfl
  have N0 := Fr.nil n0
  show Goes p.tables e below s (Q0 n0) room_1.cells room_1.slots (s₁.setTop (entryFrame m #[(.int u0), (.int u1)] maxLocals))
  refine Goes.of (fun t k => castTop (ef_0 m u0 u1) k) ?_
  show Goes _ _ _ _ _ _ _ (s₁.setTop (mkF m 0 #[.val (.int u0), .val (.int u1), .unset, .unset, .unset, .unset, .unset, .unset, .unset, .unset, .unset, .unset, .unset, .unset] []))
  have j44 : ∀ (T44 : State) (lc44 : List Loc) (a1 : Int32), Stand p l e room_1 s m #[(.int u0), (.int u1)] below meth c T44 lc44 0 0 → T44.heap = h0 → Fr n0 lc44 → (a1 = (0 : Int32) ∨ a1 = (1 : Int32)) → Goes p.tables e below s (Q0 n0) room_1.cells room_1.slots (T44.setTop (mkF m 12 #[.val (.int u0), .val (.int u1), .val (.int a1), .unset, .unset, .unset, .unset, .unset, .unset, .unset, .unset, .unset, .unset, .unset] [])) := by
    intro T44 lc44 a1 X44 e44 N44 hg44_a1_0
    show Goes _ _ _ _ _ _ _ (T44.setTop (mkF m 12 #[.val (.int u0), .val (.int u1), .val (.int a1), .unset, .unset, .unset, .unset, .unset, .unset, .unset, .unset, .unset, .unset, .unset] []))
    have j45 : ∀ (T45 : State) (lc45 : List Loc) (a2 : Int32), Stand p l e room_1 s m #[(.int u0), (.int u1)] below meth c T45 lc45 0 0 → T45.heap = h0 → Fr n0 lc45 → (a2 = (0 : Int32) ∨ a2 = (1 : Int32)) → Goes p.tables e below s (Q0 n0) room_1.cells room_1.slots (T45.setTop (mkF m 24 #[.val (.int u0), .val (.int u1), .val (.int a1), .val (.int a2), .unset, .unset, .unset, .unset, .unset, .unset, .unset, .unset, .unset, .unset] [])) := by
      intro T45 lc45 a2 X45 e45 N45 hg45_a2_0
      show Goes _ _ _ _ _ _ _ (T45.setTop (mkF m 24 #[.val (.int u0), .val (.int u1), .val (.int a1), .val (.int a2), .unset, .unset, .unset, .unset, .unset, .unset, .unset, .unset, .unset, .unset] []))
      have j46 : ∀ (T46 : State) (lc46 : List Loc) (a3 : Int32), Stand p l e room_1 s m #[(.int u0), (.int u1)] below meth c T46 lc46 0 0 → T46.heap = h0 → Fr n0 lc46 → (a3 = (0 : Int32) ∨ a3 = (1 : Int32)) → Goes p.tables e below s (Q0 n0) room_1.cells room_1.slots (T46.setTop (mkF m 37 #[.val (.int u0), .val (.int u1), .val (.int a1), .val (.int a2), .val (.int a3), .unset, .unset, .unset, .unset, .unset, .unset, .unset, .unset, .unset] [])) := by
        intro T46 lc46 a3 X46 e46 N46 hg46_a3_0
        show Goes _ _ _ _ _ _ _ (T46.setTop (mkF m 37 #[.val (.int u0), .val (.int u1), .val (.int a1), .val (.int a2), .val (.int a3), .unset, .unset, .unset, .unset, .unset, .unset, .unset, .unset, .unset] []))
        have j47 : ∀ (T47 : State) (lc47 : List Loc) (b1 : Int32), Stand p l e room_1 s m #[(.int u0), (.int u1)] below meth c T47 lc47 0 0 → T47.heap = h0 → Fr n0 lc47 → (b1 = (0 : Int32) ∨ b1 = (1 : Int32)) → Goes p.tables e below s (Q0 n0) room_1.cells room_1.slots (T47.setTop (mkF m 50 #[.val (.int u0), .val (.int u1), .val (.int a1), .val (.int a2), .val (.int a3), .val (.int b1), .unset, .unset, .unset, .unset, .unset, .unset, .unset, .unset] [])) := by
          intro T47 lc47 b1 X47 e47 N47 hg47_b1_0
          show Goes _ _ _ _ _ _ _ (T47.setTop (mkF m 50 #[.val (.int u0), .val (.int u1), .val (.int a1), .val (.int a2), .val (.int a3), .val (.int b1), .unset, .unset, .unset, .unset, .unset, .unset, .unset, .unset] []))
          have j48 : ∀ (T48 : State) (lc48 : List Loc) (b2 : Int32), Stand p l e room_1 s m #[(.int u0), (.int u1)] below meth c T48 lc48 0 0 → T48.heap = h0 → Fr n0 lc48 → (b2 = (0 : Int32) ∨ b2 = (1 : Int32)) → Goes p.tables e below s (Q0 n0) room_1.cells room_1.slots (T48.setTop (mkF m 63 #[.val (.int u0), .val (.int u1), .val (.int a1), .val (.int a2), .val (.int a3), .val (.int b1), .val (.int b2), .unset, .unset, .unset, .unset, .unset, .unset, .unset] [])) := by
            intro T48 lc48 b2 X48 e48 N48 hg48_b2_0
            show Goes _ _ _ _ _ _ _ (T48.setTop (mkF m 63 #[.val (.int u0), .val (.int u1), .val (.int a1), .val (.int a2), .val (.int a3), .val (.int b1), .val (.int b2), .unset, .unset, .unset, .unset, .unset, .unset, .unset] []))
            have j49 : ∀ (T49 : State) (lc49 : List Loc) (b3 : Int32), Stand p l e room_1 s m #[(.int u0), (.int u1)] below meth c T49 lc49 0 0 → T49.heap = h0 → Fr n0 lc49 → (b3 = (0 : Int32) ∨ b3 = (1 : Int32)) → Goes p.tables e below s (Q0 n0) room_1.cells room_1.slots (T49.setTop (mkF m 76 #[.val (.int u0), .val (.int u1), .val (.int a1), .val (.int a2), .val (.int a3), .val (.int b1), .val (.int b2), .val (.int b3), .unset, .unset, .unset, .unset, .unset, .unset] [])) := by
              intro T49 lc49 b3 X49 e49 N49 hg49_b3_0
              show Goes _ _ _ _ _ _ _ (T49.setTop (mkF m 76 #[.val (.int u0), .val (.int u1), .val (.int a1), .val (.int a2), .val (.int a3), .val (.int b1), .val (.int b2), .val (.int b3), .unset, .unset, .unset, .unset, .unset, .unset] []))
              obtain ⟨T50, h50, X50, e50, E50, A50, D50, -, st50⟩ := newO X49 hx hZ hown (hw _ (List.mem_of_getElem? (i := 0) rfl)) (hw _ (List.mem_of_getElem? (i := 1) rfl)) (hw _ (List.mem_of_getElem? (i := 2) rfl)) e49 (g := (mkF m 76 #[.val (.int u0), .val (.int u1), .val (.int a1), .val (.int a2), .val (.int a3), .val (.int b1), .val (.int b2), .val (.int b3), .unset, .unset, .unset, .unset, .unset, .unset] [])) rfl (hb hby at_76) (by decide) (by decide)
              obtain ⟨b50, g50⟩ : ∃ z, z = h0.size := ⟨_, rfl⟩
              rw [← g50] at A50 D50 st50
              have g_b50 : n0 ≤ b50 := Nat.le_trans Z0 (Nat.le_of_eq g50.symm)
              have F51 := O0.ext E50
              have Z50 : n0 ≤ h50.size := Nat.le_trans Z0 E50.1
              have F_commits_b50 : Fld Z h50 b50 "com/example/verbguard/verbguard/SegmentPart$Traits" "commits" "Z" (.int (0 : Int32)) := D50 (Or.inr (hw _ (List.mem_of_getElem? (i := 15) rfl))) (ty := .boolean) (by decide)
              have F_clusters_b50 : Fld Z h50 b50 "com/example/verbguard/verbguard/SegmentPart$Traits" "clusters" "Z" (.int (0 : Int32)) := D50 (Or.inr (hw _ (List.mem_of_getElem? (i := 17) rfl))) (ty := .boolean) (by decide)
              have F_repeats_b50 : Fld Z h50 b50 "com/example/verbguard/verbguard/SegmentPart$Traits" "repeats" "Z" (.int (0 : Int32)) := D50 (Or.inr (hw _ (List.mem_of_getElem? (i := 19) rfl))) (ty := .boolean) (by decide)
              refine Goes.of st50 ?_
              show Goes _ _ _ _ _ _ _ (T50.setTop (mkF m 79 #[.val (.int u0), .val (.int u1), .val (.int a1), .val (.int a2), .val (.int a3), .val (.int b1), .val (.int b2), .val (.int b3), .unset, .unset, .unset, .unset, .unset, .unset] [(.ref b50)]))
              refine Goes.of (fun t k => XS.dup X50.here hx rfl (hb hby at_79) rfl rfl k) ?_
              show Goes _ _ _ _ _ _ _ (T50.setTop (mkF m 80 #[.val (.int u0), .val (.int u1), .val (.int a1), .val (.int a2), .val (.int a3), .val (.int b1), .val (.int b2), .val (.int b3), .unset, .unset, .unset, .unset, .unset, .unset] [(.ref b50), (.ref b50)]))
              refine Goes.of (fun t k => XS.iloadN X50.here hx rfl (hb hby at_80) rfl k) ?_
              show Goes _ _ _ _ _ _ _ (T50.setTop (mkF m 81 #[.val (.int u0), .val (.int u1), .val (.int a1), .val (.int a2), .val (.int a3), .val (.int b1), .val (.int b2), .val (.int b3), .unset, .unset, .unset, .unset, .unset, .unset] [(.int a1), (.ref b50), (.ref b50)]))
              refine Goes.of (fun t k => XS.iloadN X50.here hx rfl (hb hby at_81) rfl k) ?_
              show Goes _ _ _ _ _ _ _ (T50.setTop (mkF m 82 #[.val (.int u0), .val (.int u1), .val (.int a1), .val (.int a2), .val (.int a3), .val (.int b1), .val (.int b2), .val (.int b3), .unset, .unset, .unset, .unset, .unset, .unset] [(.int a2), (.int a1), (.ref b50), (.ref b50)]))
              refine Goes.of (fun t k => XS.iload X50.here hx rfl (hb hby at_82) rfl k) ?_
              show Goes _ _ _ _ _ _ _ (T50.setTop (mkF m 84 #[.val (.int u0), .val (.int u1), .val (.int a1), .val (.int a2), .val (.int a3), .val (.int b1), .val (.int b2), .val (.int b3), .unset, .unset, .unset, .unset, .unset, .unset] [(.int a3), (.int a2), (.int a1), (.ref b50), (.ref b50)]))
              obtain ⟨_, _, ⟨T52, L52, k52, n52⟩, -, X52, ⟨Lc52, hQ52, l52, y52, z52⟩, st52⟩ := X50.specialBack hx (y := (⟨"com/example/verbguard/verbguard/SegmentPart$Traits", "<init>", "(ZZZ)V"⟩ : MethodName)) rfl hown (mvT hZ (hw _ (List.mem_of_getElem? (i := 3) rfl))) (mvT hZ (hw _ (List.mem_of_getElem? (i := 4) rfl))) (mvT hZ (hw _ (List.mem_of_getElem? (i := 5) rfl))) (by decide) (backOf (W := 1) (rm1 l Z a0 hw [] b50 a1 a2 a3  h50 n0 Z50 A50 g_b50 F_commits_b50 F_clusters_b50 F_repeats_b50) hZ (hw _ (List.mem_of_getElem? (i := 5) rfl)) (hw _ (List.mem_of_getElem? (i := 2) rfl)) (by decide) (by decide)) (g := (mkF m 84 #[.val (.int u0), .val (.int u1), .val (.int a1), .val (.int a2), .val (.int a3), .val (.int b1), .val (.int b2), .val (.int b3), .unset, .unset, .unset, .unset, .unset, .unset] [(.int a3), (.int a2), (.int a1), (.ref b50), (.ref b50)])) rfl (by rw [hml]; rfl) (Steps.refl _) (a := b50) (argsL := [(.int a1), (.int a2), (.int a3)]) (rest := [(.ref b50)]) (lenOf pd_3 rfl) rfl (by show 2 * 0 + _ ≤ _; exact Nat.le_of_eq rfl) (hb hby at_84) (fun _ _ => ⟨rfl, e50, (by decide : 1 + 0 ≤ _), (by decide : 3 + 0 ≤ _)⟩)
              dsimp only [Pt.U, Pt.locs, Pt.cells, Pt.slots] at X52 l52 y52 z52 st52 hQ52
              subst l52 y52 z52
              obtain ⟨rfl, N52q, K52, F152, F252, F352⟩ := hQ52
              have F53 := F51.keep K52 (allS g_b50 all0)
              have F54 := A50.keep K52
              have Z52 : n0 ≤ T52.heap.size := Nat.le_trans Z50 K52.1
              rw [own_t1 hg44_a1_0] at F152
              rw [own_t1 hg45_a2_0] at F252
              rw [own_t1 hg46_a3_0] at F352
              have N52 := Fr.app N49 N52q
              refine Goes.of (fun t k => st52.trans k) ?_
              show Goes _ _ _ _ _ _ _ (T52.setTop (mkF m 87 #[.val (.int u0), .val (.int u1), .val (.int a1), .val (.int a2), .val (.int a3), .val (.int b1), .val (.int b2), .val (.int b3), .unset, .unset, .unset, .unset, .unset, .unset] [(.ref b50)]))
              refine Goes.of (fun t k => XS.astore X52.here hx rfl (hb hby at_87) rfl rfl (l' := #[.val (.int u0), .val (.int u1), .val (.int a1), .val (.int a2), .val (.int a3), .val (.int b1), .val (.int b2), .val (.int b3), .val (.ref b50), .unset, .unset, .unset, .unset, .unset]) rfl k) ?_
              show Goes _ _ _ _ _ _ _ (T52.setTop (mkF m 89 #[.val (.int u0), .val (.int u1), .val (.int a1), .val (.int a2), .val (.int a3), .val (.int b1), .val (.int b2), .val (.int b3), .val (.ref b50), .unset, .unset, .unset, .unset, .unset] []))
              obtain ⟨T55, h55, X55, e55, E55, A55, D55, -, st55⟩ := newO X52 hx hZ hown (hw _ (List.mem_of_getElem? (i := 0) rfl)) (hw _ (List.mem_of_getElem? (i := 1) rfl)) (hw _ (List.mem_of_getElem? (i := 2) rfl)) rfl (g := (mkF m 89 #[.val (.int u0), .val (.int u1), .val (.int a1), .val (.int a2), .val (.int a3), .val (.int b1), .val (.int b2), .val (.int b3), .val (.ref b50), .unset, .unset, .unset, .unset, .unset] [])) rfl (hb hby at_89) (by decide) (by decide)
              obtain ⟨b55, g55⟩ : ∃ z, z = T52.heap.size := ⟨_, rfl⟩
              rw [← g55] at A55 D55 st55
              have ne_b50_b55 : b50 ≠ b55 := Nat.ne_of_lt (Nat.lt_of_lt_of_le F54.lt (Nat.le_of_eq g55.symm))
              have g_b55 : n0 ≤ b55 := Nat.le_trans Z52 (Nat.le_of_eq g55.symm)
              have F56 := F53.ext E55
              have F57 := Exa.ext E55 F54
              have F58 := Fld.ext E55 F152
              have F59 := Fld.ext E55 F252
              have F60 := Fld.ext E55 F352
              have Z55 : n0 ≤ h55.size := Nat.le_trans Z52 E55.1
              have F_commits_b55 : Fld Z h55 b55 "com/example/verbguard/verbguard/SegmentPart$Traits" "commits" "Z" (.int (0 : Int32)) := D55 (Or.inr (hw _ (List.mem_of_getElem? (i := 15) rfl))) (ty := .boolean) (by decide)
              have F_clusters_b55 : Fld Z h55 b55 "com/example/verbguard/verbguard/SegmentPart$Traits" "clusters" "Z" (.int (0 : Int32)) := D55 (Or.inr (hw _ (List.mem_of_getElem? (i := 17) rfl))) (ty := .boolean) (by decide)
              have F_repeats_b55 : Fld Z h55 b55 "com/example/verbguard/verbguard/SegmentPart$Traits" "repeats" "Z" (.int (0 : Int32)) := D55 (Or.inr (hw _ (List.mem_of_getElem? (i := 19) rfl))) (ty := .boolean) (by decide)
              refine Goes.of st55 ?_
              show Goes _ _ _ _ _ _ _ (T55.setTop (mkF m 92 #[.val (.int u0), .val (.int u1), .val (.int a1), .val (.int a2), .val (.int a3), .val (.int b1), .val (.int b2), .val (.int b3), .val (.ref b50), .unset, .unset, .unset, .unset, .unset] [(.ref b55)]))
              refine Goes.of (fun t k => XS.dup X55.here hx rfl (hb hby at_92) rfl rfl k) ?_
              show Goes _ _ _ _ _ _ _ (T55.setTop (mkF m 93 #[.val (.int u0), .val (.int u1), .val (.int a1), .val (.int a2), .val (.int a3), .val (.int b1), .val (.int b2), .val (.int b3), .val (.ref b50), .unset, .unset, .unset, .unset, .unset] [(.ref b55), (.ref b55)]))
              refine Goes.of (fun t k => XS.iload X55.here hx rfl (hb hby at_93) rfl k) ?_
              show Goes _ _ _ _ _ _ _ (T55.setTop (mkF m 95 #[.val (.int u0), .val (.int u1), .val (.int a1), .val (.int a2), .val (.int a3), .val (.int b1), .val (.int b2), .val (.int b3), .val (.ref b50), .unset, .unset, .unset, .unset, .unset] [(.int b1), (.ref b55), (.ref b55)]))
              refine Goes.of (fun t k => XS.iload X55.here hx rfl (hb hby at_95) rfl k) ?_
              show Goes _ _ _ _ _ _ _ (T55.setTop (mkF m 97 #[.val (.int u0), .val (.int u1), .val (.int a1), .val (.int a2), .val (.int a3), .val (.int b1), .val (.int b2), .val (.int b3), .val (.ref b50), .unset, .unset, .unset, .unset, .unset] [(.int b2), (.int b1), (.ref b55), (.ref b55)]))
              refine Goes.of (fun t k => XS.iload X55.here hx rfl (hb hby at_97) rfl k) ?_
              show Goes _ _ _ _ _ _ _ (T55.setTop (mkF m 99 #[.val (.int u0), .val (.int u1), .val (.int a1), .val (.int a2), .val (.int a3), .val (.int b1), .val (.int b2), .val (.int b3), .val (.ref b50), .unset, .unset, .unset, .unset, .unset] [(.int b3), (.int b2), (.int b1), (.ref b55), (.ref b55)]))
              obtain ⟨_, _, ⟨T61, L61, k61, n61⟩, -, X61, ⟨Lc61, hQ61, l61, y61, z61⟩, st61⟩ := X55.specialBack hx (y := (⟨"com/example/verbguard/verbguard/SegmentPart$Traits", "<init>", "(ZZZ)V"⟩ : MethodName)) rfl hown (mvT hZ (hw _ (List.mem_of_getElem? (i := 3) rfl))) (mvT hZ (hw _ (List.mem_of_getElem? (i := 4) rfl))) (mvT hZ (hw _ (List.mem_of_getElem? (i := 5) rfl))) (by decide) (backOf (W := 1) (rm1 l Z a0 hw [] b55 b1 b2 b3  h55 n0 Z55 A55 g_b55 F_commits_b55 F_clusters_b55 F_repeats_b55) hZ (hw _ (List.mem_of_getElem? (i := 5) rfl)) (hw _ (List.mem_of_getElem? (i := 2) rfl)) (by decide) (by decide)) (g := (mkF m 99 #[.val (.int u0), .val (.int u1), .val (.int a1), .val (.int a2), .val (.int a3), .val (.int b1), .val (.int b2), .val (.int b3), .val (.ref b50), .unset, .unset, .unset, .unset, .unset] [(.int b3), (.int b2), (.int b1), (.ref b55), (.ref b55)])) rfl (by rw [hml]; rfl) (Steps.refl _) (a := b55) (argsL := [(.int b1), (.int b2), (.int b3)]) (rest := [(.ref b55)]) (lenOf pd_3 rfl) rfl (by show 2 * 0 + _ ≤ _; exact Nat.le_of_eq rfl) (hb hby at_99) (fun _ _ => ⟨rfl, e55, (by decide : 2 + 0 ≤ _), (by decide : 6 + 0 ≤ _)⟩)
              dsimp only [Pt.U, Pt.locs, Pt.cells, Pt.slots] at X61 l61 y61 z61 st61 hQ61
              subst l61 y61 z61
              obtain ⟨rfl, N61q, K61, F161, F261, F361⟩ := hQ61
              have F62 := F56.keep K61 (allS g_b55 all0)
              have F63 := F57.keep K61
              have F64 := F58.keep K61 (ninS ne_b50_b55 nin0)
              have F65 := F59.keep K61 (ninS ne_b50_b55 nin0)
              have F66 := F60.keep K61 (ninS ne_b50_b55 nin0)
              have F67 := A55.keep K61
              have Z61 : n0 ≤ T61.heap.size := Nat.le_trans Z55 K61.1
              rw [own_t1 hg47_b1_0] at F161
              rw [own_t1 hg48_b2_0] at F261
              rw [own_t1 hg49_b3_0] at F361
              have N61 := Fr.app N52 N61q
              refine Goes.of (fun t k => st61.trans k) ?_
              show Goes _ _ _ _ _ _ _ (T61.setTop (mkF m 102 #[.val (.int u0), .val (.int u1), .val (.int a1), .val (.int a2), .val (.int a3), .val (.int b1), .val (.int b2), .val (.int b3), .val (.ref b50), .unset, .unset, .unset, .unset, .unset] [(.ref b55)]))
              refine Goes.of (fun t k => XS.astore X61.here hx rfl (hb hby at_102) rfl rfl (l' := #[.val (.int u0), .val (.int u1), .val (.int a1), .val (.int a2), .val (.int a3), .val (.int b1), .val (.int b2), .val (.int b3), .val (.ref b50), .val (.ref b55), .unset, .unset, .unset, .unset]) rfl k) ?_
              show Goes _ _ _ _ _ _ _ (T61.setTop (mkF m 104 #[.val (.int u0), .val (.int u1), .val (.int a1), .val (.int a2), .val (.int a3), .val (.int b1), .val (.int b2), .val (.int b3), .val (.ref b50), .val (.ref b55), .unset, .unset, .unset, .unset] []))
              refine Goes.of (fun t k => XS.aload X61.here hx rfl (hb hby at_104) rfl rfl k) ?_
              show Goes _ _ _ _ _ _ _ (T61.setTop (mkF m 106 #[.val (.int u0), .val (.int u1), .val (.int a1), .val (.int a2), .val (.int a3), .val (.int b1), .val (.int b2), .val (.int b3), .val (.ref b50), .val (.ref b55), .unset, .unset, .unset, .unset] [(.ref b50)]))
              refine Goes.of (fun t k => XS.aload X61.here hx rfl (hb hby at_106) rfl rfl k) ?_
              show Goes _ _ _ _ _ _ _ (T61.setTop (mkF m 108 #[.val (.int u0), .val (.int u1), .val (.int a1), .val (.int a2), .val (.int a3), .val (.int b1), .val (.int b2), .val (.int b3), .val (.ref b50), .val (.ref b55), .unset, .unset, .unset, .unset] [(.ref b55), (.ref b50)]))
              obtain ⟨cq68, kq68, q68a, q68b, q68c⟩ := isOf hZ rfl F63
              obtain ⟨_, _, ⟨T68, L68, k68, n68⟩, -, X68, ⟨Lc68, hQ68, l68, y68, z68⟩, st68⟩ := X61.virtualBack hx (y := (⟨"com/example/verbguard/verbguard/SegmentPart$Traits", "or", "(Lcom/example/verbguard/verbguard/SegmentPart$Traits;)Lcom/example/verbguard/verbguard/SegmentPart$Traits;"⟩ : MethodName)) (z := (⟨"com/example/verbguard/verbguard/SegmentPart$Traits", "or", "(Lcom/example/verbguard/verbguard/SegmentPart$Traits;)Lcom/example/verbguard/verbguard/SegmentPart$Traits;"⟩ : MethodName)) hown (mvT hZ (hw _ (List.mem_of_getElem? (i := 20) rfl))) (mvT hZ (hw _ (List.mem_of_getElem? (i := 21) rfl))) (notFace_of_selects (args := #[]) (mvT hZ (hw _ (List.mem_of_getElem? (i := 23) rfl)))) (mvT hZ (hw _ (List.mem_of_getElem? (i := 23) rfl))) (mvT hZ (hw _ (List.mem_of_getElem? (i := 22) rfl))) (by decide) (backOf (W := 0) (rm4 l Z a0 hw [] b50 b55 a1 a2 a3 b1 b2 b3 ev T61.heap n0 Z61 F64 F65 F66 F161 F261 F361 (Sta.ext F62.2 S_ev) (T_ev.ext F62.2)) hZ (hw _ (List.mem_of_getElem? (i := 24) rfl)) (hw _ (List.mem_of_getElem? (i := 2) rfl)) (by decide) (by decide)) q68a q68c (g := (mkF m 108 #[.val (.int u0), .val (.int u1), .val (.int a1), .val (.int a2), .val (.int a3), .val (.int b1), .val (.int b2), .val (.int b3), .val (.ref b50), .val (.ref b55), .unset, .unset, .unset, .unset] [(.ref b55), (.ref b50)])) rfl (by rw [hml]; rfl) (Steps.refl _) (argsL := [(.ref b55)]) (rest := []) (lenOf pd_4 rfl) rfl (by show 2 * 0 + _ ≤ _; exact Nat.le_of_eq rfl) (hb hby at_108) (fun _ _ => ⟨rfl, rfl, (by decide : 2 + 0 ≤ _), (by decide : 6 + 0 ≤ _)⟩)
              dsimp only [Pt.U, Pt.locs, Pt.cells, Pt.slots] at X68 l68 y68 z68 st68 hQ68
              subst l68 y68 z68
              obtain ⟨z68', rfl, N68q, e68, Ez68, F168, F268, F368⟩ := hQ68
              have N68 := Fr.app N61 N68q
              refine Goes.of (fun t k => st68.trans k) ?_
              show Goes _ _ _ _ _ _ _ (T68.setTop (mkF m 111 #[.val (.int u0), .val (.int u1), .val (.int a1), .val (.int a2), .val (.int a3), .val (.int b1), .val (.int b2), .val (.int b3), .val (.ref b50), .val (.ref b55), .unset, .unset, .unset, .unset] [(.ref z68')]))
              refine Goes.of (fun t k => XS.astore X68.here hx rfl (hb hby at_111) rfl rfl (l' := #[.val (.int u0), .val (.int u1), .val (.int a1), .val (.int a2), .val (.int a3), .val (.int b1), .val (.int b2), .val (.int b3), .val (.ref b50), .val (.ref b55), .val (.ref z68'), .unset, .unset, .unset]) rfl k) ?_
              show Goes _ _ _ _ _ _ _ (T68.setTop (mkF m 113 #[.val (.int u0), .val (.int u1), .val (.int a1), .val (.int a2), .val (.int a3), .val (.int b1), .val (.int b2), .val (.int b3), .val (.ref b50), .val (.ref b55), .val (.ref z68'), .unset, .unset, .unset] []))
              have j69 : ∀ (T69 : State) (lc69 : List Loc) (w1 : Int32), Stand p l e room_1 s m #[(.int u0), (.int u1)] below meth c T69 lc69 2 6 → T69.heap = T61.heap → Fr n0 lc69 → (w1 = own_or a1 b1) → Goes p.tables e below s (Q0 n0) room_1.cells room_1.slots (T69.setTop (mkF m 125 #[.val (.int u0), .val (.int u1), .val (.int a1), .val (.int a2), .val (.int a3), .val (.int b1), .val (.int b2), .val (.int b3), .val (.ref b50), .val (.ref b55), .val (.ref z68'), .val (.int w1), .unset, .unset] [])) := by
                intro T69 lc69 w1 X69 e69 N69 hg69_w1_0
                show Goes _ _ _ _ _ _ _ (T69.setTop (mkF m 125 #[.val (.int u0), .val (.int u1), .val (.int a1), .val (.int a2), .val (.int a3), .val (.int b1), .val (.int b2), .val (.int b3), .val (.ref b50), .val (.ref b55), .val (.ref z68'), .val (.int w1), .unset, .unset] []))
                have j70 : ∀ (T70 : State) (lc70 : List Loc) (w2 : Int32), Stand p l e room_1 s m #[(.int u0), (.int u1)] below meth c T70 lc70 2 6 → T70.heap = T61.heap → Fr n0 lc70 → (w2 = own_or a2 b2) → Goes p.tables e below s (Q0 n0) room_1.cells room_1.slots (T70.setTop (mkF m 137 #[.val (.int u0), .val (.int u1), .val (.int a1), .val (.int a2), .val (.int a3), .val (.int b1), .val (.int b2), .val (.int b3), .val (.ref b50), .val (.ref b55), .val (.ref z68'), .val (.int w1), .val (.int w2), .unset] [])) := by
                  intro T70 lc70 w2 X70 e70 N70 hg70_w2_0
                  show Goes _ _ _ _ _ _ _ (T70.setTop (mkF m 137 #[.val (.int u0), .val (.int u1), .val (.int a1), .val (.int a2), .val (.int a3), .val (.int b1), .val (.int b2), .val (.int b3), .val (.ref b50), .val (.ref b55), .val (.ref z68'), .val (.int w1), .val (.int w2), .unset] []))
                  have j71 : ∀ (T71 : State) (lc71 : List Loc) (w3 : Int32), Stand p l e room_1 s m #[(.int u0), (.int u1)] below meth c T71 lc71 2 6 → T71.heap = T61.heap → Fr n0 lc71 → (w3 = own_or a3 b3) → Goes p.tables e below s (Q0 n0) room_1.cells room_1.slots (T71.setTop (mkF m 150 #[.val (.int u0), .val (.int u1), .val (.int a1), .val (.int a2), .val (.int a3), .val (.int b1), .val (.int b2), .val (.int b3), .val (.ref b50), .val (.ref b55), .val (.ref z68'), .val (.int w1), .val (.int w2), .val (.int w3)] [])) := by
                    intro T71 lc71 w3 X71 e71 N71 hg71_w3_0
                    show Goes _ _ _ _ _ _ _ (T71.setTop (mkF m 150 #[.val (.int u0), .val (.int u1), .val (.int a1), .val (.int a2), .val (.int a3), .val (.int b1), .val (.int b2), .val (.int b3), .val (.ref b50), .val (.ref b55), .val (.ref z68'), .val (.int w1), .val (.int w2), .val (.int w3)] []))
                    refine Goes.of (fun t k => XS.aload X71.here hx rfl (hb hby at_150) rfl rfl k) ?_
                    show Goes _ _ _ _ _ _ _ (T71.setTop (mkF m 152 #[.val (.int u0), .val (.int u1), .val (.int a1), .val (.int a2), .val (.int a3), .val (.int b1), .val (.int b2), .val (.int b3), .val (.ref b50), .val (.ref b55), .val (.ref z68'), .val (.int w1), .val (.int w2), .val (.int w3)] [(.ref z68')]))
                    obtain ⟨cq72, kq72, q72a, q72b, q72c⟩ := isOf hZ e71 Ez68
                    obtain ⟨_, _, ⟨T72, L72, k72, n72⟩, -, X72, ⟨Lc72, hQ72, l72, y72, z72⟩, st72⟩ := X71.virtualBack hx (y := (⟨"com/example/verbguard/verbguard/SegmentPart$Traits", "commits", "()Z"⟩ : MethodName)) (z := (⟨"com/example/verbguard/verbguard/SegmentPart$Traits", "commits", "()Z"⟩ : MethodName)) hown (mvT hZ (hw _ (List.mem_of_getElem? (i := 33) rfl))) (mvT hZ (hw _ (List.mem_of_getElem? (i := 34) rfl))) (notFace_of_selects (args := #[]) (mvT hZ (hw _ (List.mem_of_getElem? (i := 36) rfl)))) (mvT hZ (hw _ (List.mem_of_getElem? (i := 36) rfl))) (mvT hZ (hw _ (List.mem_of_getElem? (i := 35) rfl))) (by decide) (backOf (W := 0) (rm7 l Z a0 hw [] z68' (own_or a1 b1) T61.heap n0 Z61 F168) hZ (hw _ (List.mem_of_getElem? (i := 37) rfl)) (hw _ (List.mem_of_getElem? (i := 2) rfl)) (by decide) (by decide)) q72a q72c (g := (mkF m 152 #[.val (.int u0), .val (.int u1), .val (.int a1), .val (.int a2), .val (.int a3), .val (.int b1), .val (.int b2), .val (.int b3), .val (.ref b50), .val (.ref b55), .val (.ref z68'), .val (.int w1), .val (.int w2), .val (.int w3)] [(.ref z68')])) rfl (by rw [hml]; rfl) (Steps.refl _) (argsL := []) (rest := []) (lenOf pd_5 rfl) rfl (by show 2 * 0 + _ ≤ _; exact Nat.le_of_eq rfl) (hb hby at_152) (fun _ _ => ⟨rfl, e71, (by decide : 2 + 0 ≤ _), (by decide : 6 + 0 ≤ _)⟩)
                    dsimp only [Pt.U, Pt.locs, Pt.cells, Pt.slots] at X72 l72 y72 z72 st72 hQ72
                    subst l72 y72 z72
                    obtain ⟨rfl, N72q, e72⟩ := hQ72
                    have N72 := Fr.app N71 N72q
                    refine Goes.of (fun t k => st72.trans k) ?_
                    show Goes _ _ _ _ _ _ _ (T72.setTop (mkF m 155 #[.val (.int u0), .val (.int u1), .val (.int a1), .val (.int a2), .val (.int a3), .val (.int b1), .val (.int b2), .val (.int b3), .val (.ref b50), .val (.ref b55), .val (.ref z68'), .val (.int w1), .val (.int w2), .val (.int w3)] [(.int ((own_or a1 b1) &&& 1))]))
                    refine Goes.of (fun t k => XS.iload X72.here hx rfl (hb hby at_155) rfl k) ?_
                    show Goes _ _ _ _ _ _ _ (T72.setTop (mkF m 157 #[.val (.int u0), .val (.int u1), .val (.int a1), .val (.int a2), .val (.int a3), .val (.int b1), .val (.int b2), .val (.int b3), .val (.ref b50), .val (.ref b55), .val (.ref z68'), .val (.int w1), .val (.int w2), .val (.int w3)] [(.int w1), (.int ((own_or a1 b1) &&& 1))]))
                    refine Goes.of (fun t k => XS.icmpNo X72.here hx rfl (hb hby at_157) rfl (teq (by rw [hg69_w1_0]; exact own_t1 (own_or01 rfl))).2 k) ?_
                    show Goes _ _ _ _ _ _ _ (T72.setTop (mkF m 160 #[.val (.int u0), .val (.int u1), .val (.int a1), .val (.int a2), .val (.int a3), .val (.int b1), .val (.int b2), .val (.int b3), .val (.ref b50), .val (.ref b55), .val (.ref z68'), .val (.int w1), .val (.int w2), .val (.int w3)] []))
                    refine Goes.of (fun t k => XS.aload X72.here hx rfl (hb hby at_160) rfl rfl k) ?_
                    show Goes _ _ _ _ _ _ _ (T72.setTop (mkF m 162 #[.val (.int u0), .val (.int u1), .val (.int a1), .val (.int a2), .val (.int a3), .val (.int b1), .val (.int b2), .val (.int b3), .val (.ref b50), .val (.ref b55), .val (.ref z68'), .val (.int w1), .val (.int w2), .val (.int w3)] [(.ref z68')]))
                    obtain ⟨cq73, kq73, q73a, q73b, q73c⟩ := isOf hZ e72 Ez68
                    obtain ⟨_, _, ⟨T73, L73, k73, n73⟩, -, X73, ⟨Lc73, hQ73, l73, y73, z73⟩, st73⟩ := X72.virtualBack hx (y := (⟨"com/example/verbguard/verbguard/SegmentPart$Traits", "clusters", "()Z"⟩ : MethodName)) (z := (⟨"com/example/verbguard/verbguard/SegmentPart$Traits", "clusters", "()Z"⟩ : MethodName)) hown (mvT hZ (hw _ (List.mem_of_getElem? (i := 38) rfl))) (mvT hZ (hw _ (List.mem_of_getElem? (i := 39) rfl))) (notFace_of_selects (args := #[]) (mvT hZ (hw _ (List.mem_of_getElem? (i := 41) rfl)))) (mvT hZ (hw _ (List.mem_of_getElem? (i := 41) rfl))) (mvT hZ (hw _ (List.mem_of_getElem? (i := 40) rfl))) (by decide) (backOf (W := 0) (rm8 l Z a0 hw [] z68' (own_or a2 b2) T61.heap n0 Z61 F268) hZ (hw _ (List.mem_of_getElem? (i := 42) rfl)) (hw _ (List.mem_of_getElem? (i := 2) rfl)) (by decide) (by decide)) q73a q73c (g := (mkF m 162 #[.val (.int u0), .val (.int u1), .val (.int a1), .val (.int a2), .val (.int a3), .val (.int b1), .val (.int b2), .val (.int b3), .val (.ref b50), .val (.ref b55), .val (.ref z68'), .val (.int w1), .val (.int w2), .val (.int w3)] [(.ref z68')])) rfl (by rw [hml]; rfl) (Steps.refl _) (argsL := []) (rest := []) (lenOf pd_5 rfl) rfl (by show 2 * 0 + _ ≤ _; exact Nat.le_of_eq rfl) (hb hby at_162) (fun _ _ => ⟨rfl, e72, (by decide : 2 + 0 ≤ _), (by decide : 6 + 0 ≤ _)⟩)
                    dsimp only [Pt.U, Pt.locs, Pt.cells, Pt.slots] at X73 l73 y73 z73 st73 hQ73
                    subst l73 y73 z73
                    obtain ⟨rfl, N73q, e73⟩ := hQ73
                    have N73 := Fr.app N72 N73q
                    refine Goes.of (fun t k => st73.trans k) ?_
                    show Goes _ _ _ _ _ _ _ (T73.setTop (mkF m 165 #[.val (.int u0), .val (.int u1), .val (.int a1), .val (.int a2), .val (.int a3), .val (.int b1), .val (.int b2), .val (.int b3), .val (.ref b50), .val (.ref b55), .val (.ref z68'), .val (.int w1), .val (.int w2), .val (.int w3)] [(.int ((own_or a2 b2) &&& 1))]))
                    refine Goes.of (fun t k => XS.iload X73.here hx rfl (hb hby at_165) rfl k) ?_
                    show Goes _ _ _ _ _ _ _ (T73.setTop (mkF m 167 #[.val (.int u0), .val (.int u1), .val (.int a1), .val (.int a2), .val (.int a3), .val (.int b1), .val (.int b2), .val (.int b3), .val (.ref b50), .val (.ref b55), .val (.ref z68'), .val (.int w1), .val (.int w2), .val (.int w3)] [(.int w2), (.int ((own_or a2 b2) &&& 1))]))
                    refine Goes.of (fun t k => XS.icmpNo X73.here hx rfl (hb hby at_167) rfl (teq (by rw [hg70_w2_0]; exact own_t1 (own_or01 rfl))).2 k) ?_
                    show Goes _ _ _ _ _ _ _ (T73.setTop (mkF m 170 #[.val (.int u0), .val (.int u1), .val (.int a1), .val (.int a2), .val (.int a3), .val (.int b1), .val (.int b2), .val (.int b3), .val (.ref b50), .val (.ref b55), .val (.ref z68'), .val (.int w1), .val (.int w2), .val (.int w3)] []))
                    refine Goes.of (fun t k => XS.aload X73.here hx rfl (hb hby at_170) rfl rfl k) ?_
                    show Goes _ _ _ _ _ _ _ (T73.setTop (mkF m 172 #[.val (.int u0), .val (.int u1), .val (.int a1), .val (.int a2), .val (.int a3), .val (.int b1), .val (.int b2), .val (.int b3), .val (.ref b50), .val (.ref b55), .val (.ref z68'), .val (.int w1), .val (.int w2), .val (.int w3)] [(.ref z68')]))
                    obtain ⟨cq74, kq74, q74a, q74b, q74c⟩ := isOf hZ e73 Ez68
                    obtain ⟨_, _, ⟨T74, L74, k74, n74⟩, -, X74, ⟨Lc74, hQ74, l74, y74, z74⟩, st74⟩ := X73.virtualBack hx (y := (⟨"com/example/verbguard/verbguard/SegmentPart$Traits", "repeats", "()Z"⟩ : MethodName)) (z := (⟨"com/example/verbguard/verbguard/SegmentPart$Traits", "repeats", "()Z"⟩ : MethodName)) hown (mvT hZ (hw _ (List.mem_of_getElem? (i := 43) rfl))) (mvT hZ (hw _ (List.mem_of_getElem? (i := 44) rfl))) (notFace_of_selects (args := #[]) (mvT hZ (hw _ (List.mem_of_getElem? (i := 46) rfl)))) (mvT hZ (hw _ (List.mem_of_getElem? (i := 46) rfl))) (mvT hZ (hw _ (List.mem_of_getElem? (i := 45) rfl))) (by decide) (backOf (W := 0) (rm9 l Z a0 hw [] z68' (own_or a3 b3) T61.heap n0 Z61 F368) hZ (hw _ (List.mem_of_getElem? (i := 47) rfl)) (hw _ (List.mem_of_getElem? (i := 2) rfl)) (by decide) (by decide)) q74a q74c (g := (mkF m 172 #[.val (.int u0), .val (.int u1), .val (.int a1), .val (.int a2), .val (.int a3), .val (.int b1), .val (.int b2), .val (.int b3), .val (.ref b50), .val (.ref b55), .val (.ref z68'), .val (.int w1), .val (.int w2), .val (.int w3)] [(.ref z68')])) rfl (by rw [hml]; rfl) (Steps.refl _) (argsL := []) (rest := []) (lenOf pd_5 rfl) rfl (by show 2 * 0 + _ ≤ _; exact Nat.le_of_eq rfl) (hb hby at_172) (fun _ _ => ⟨rfl, e73, (by decide : 2 + 0 ≤ _), (by decide : 6 + 0 ≤ _)⟩)
                    dsimp only [Pt.U, Pt.locs, Pt.cells, Pt.slots] at X74 l74 y74 z74 st74 hQ74
                    subst l74 y74 z74
                    obtain ⟨rfl, N74q, e74⟩ := hQ74
                    have N74 := Fr.app N73 N74q
                    refine Goes.of (fun t k => st74.trans k) ?_
                    show Goes _ _ _ _ _ _ _ (T74.setTop (mkF m 175 #[.val (.int u0), .val (.int u1), .val (.int a1), .val (.int a2), .val (.int a3), .val (.int b1), .val (.int b2), .val (.int b3), .val (.ref b50), .val (.ref b55), .val (.ref z68'), .val (.int w1), .val (.int w2), .val (.int w3)] [(.int ((own_or a3 b3) &&& 1))]))
                    refine Goes.of (fun t k => XS.iload X74.here hx rfl (hb hby at_175) rfl k) ?_
                    show Goes _ _ _ _ _ _ _ (T74.setTop (mkF m 177 #[.val (.int u0), .val (.int u1), .val (.int a1), .val (.int a2), .val (.int a3), .val (.int b1), .val (.int b2), .val (.int b3), .val (.ref b50), .val (.ref b55), .val (.ref z68'), .val (.int w1), .val (.int w2), .val (.int w3)] [(.int w3), (.int ((own_or a3 b3) &&& 1))]))
                    refine Goes.of (fun t k => XS.icmpNo X74.here hx rfl (hb hby at_177) rfl (teq (by rw [hg71_w3_0]; exact own_t1 (own_or01 rfl))).2 k) ?_
                    show Goes _ _ _ _ _ _ _ (T74.setTop (mkF m 180 #[.val (.int u0), .val (.int u1), .val (.int a1), .val (.int a2), .val (.int a3), .val (.int b1), .val (.int b2), .val (.int b3), .val (.ref b50), .val (.ref b55), .val (.ref z68'), .val (.int w1), .val (.int w2), .val (.int w3)] []))
                    refine Goes.of (fun t k => XS.iconst X74.here hx rfl (hb hby at_180) k) ?_
                    show Goes _ _ _ _ _ _ _ (T74.setTop (mkF m 181 #[.val (.int u0), .val (.int u1), .val (.int a1), .val (.int a2), .val (.int a3), .val (.int b1), .val (.int b2), .val (.int b3), .val (.ref b50), .val (.ref b55), .val (.ref z68'), .val (.int w1), .val (.int w2), .val (.int w3)] [(.int (1 : Int32))]))
                    refine Goes.of (fun t k => XS.goto X74.here hx rfl (pc0 := 181) (pc' := 185) rfl (hb hby at_181) (by decide) (by decide) k) ?_
                    show Goes _ _ _ _ _ _ _ (T74.setTop (mkF m 185 #[.val (.int u0), .val (.int u1), .val (.int a1), .val (.int a2), .val (.int a3), .val (.int b1), .val (.int b2), .val (.int b3), .val (.ref b50), .val (.ref b55), .val (.ref z68'), .val (.int w1), .val (.int w2), .val (.int w3)] [(.int (1 : Int32))]))
                    exact Goes.fin X74 hlk (v := some (.int (1 : Int32))) (fun h => by rw [Bd.returns] at h; cases h) (fun fs hr => retN X74 hx (t := .boolean) Bd.returns (by simp) (hb hby at_185) hr) ⟨rfl, N74⟩ (by decide) (by decide)
                  refine Goes.of (fun t k => XS.iload X70.here hx rfl (hb hby at_137) rfl k) ?_
                  show Goes _ _ _ _ _ _ _ (T70.setTop (mkF m 139 #[.val (.int u0), .val (.int u1), .val (.int a1), .val (.int a2), .val (.int a3), .val (.int b1), .val (.int b2), .val (.int b3), .val (.ref b50), .val (.ref b55), .val (.ref z68'), .val (.int w1), .val (.int w2), .unset] [(.int a3)]))
                  by_cases hc75 : a3 = (0 : Int32)
                  · refine Goes.of (fun t k => XS.ifYes X70.here hx rfl (pc0 := 139) (pc' := 146) rfl (hb hby at_139) rfl ((if0 _ _).trans (teq hc75).1) (by decide) (by decide) k) ?_
                    show Goes _ _ _ _ _ _ _ (T70.setTop (mkF m 146 #[.val (.int u0), .val (.int u1), .val (.int a1), .val (.int a2), .val (.int a3), .val (.int b1), .val (.int b2), .val (.int b3), .val (.ref b50), .val (.ref b55), .val (.ref z68'), .val (.int w1), .val (.int w2), .unset] []))
                    refine Goes.of (fun t k => XS.iload X70.here hx rfl (hb hby at_146) rfl k) ?_
                    show Goes _ _ _ _ _ _ _ (T70.setTop (mkF m 148 #[.val (.int u0), .val (.int u1), .val (.int a1), .val (.int a2), .val (.int a3), .val (.int b1), .val (.int b2), .val (.int b3), .val (.ref b50), .val (.ref b55), .val (.ref z68'), .val (.int w1), .val (.int w2), .unset] [(.int b3)]))
                    refine Goes.of (fun t k => XS.istore X70.here hx rfl (hb hby at_148) rfl (l' := #[.val (.int u0), .val (.int u1), .val (.int a1), .val (.int a2), .val (.int a3), .val (.int b1), .val (.int b2), .val (.int b3), .val (.ref b50), .val (.ref b55), .val (.ref z68'), .val (.int w1), .val (.int w2), .val (.int b3)]) rfl k) ?_
                    show Goes _ _ _ _ _ _ _ (T70.setTop (mkF m 150 #[.val (.int u0), .val (.int u1), .val (.int a1), .val (.int a2), .val (.int a3), .val (.int b1), .val (.int b2), .val (.int b3), .val (.ref b50), .val (.ref b55), .val (.ref z68'), .val (.int w1), .val (.int w2), .val (.int b3)] []))
                    exact j71 _ _ b3 X70 e70 N70 (own_orL hc75 hg49_b3_0)
                  · refine Goes.of (fun t k => XS.ifNo X70.here hx rfl (hb hby at_139) rfl ((if0 _ _).trans (feq hc75).1) k) ?_
                    show Goes _ _ _ _ _ _ _ (T70.setTop (mkF m 142 #[.val (.int u0), .val (.int u1), .val (.int a1), .val (.int a2), .val (.int a3), .val (.int b1), .val (.int b2), .val (.int b3), .val (.ref b50), .val (.ref b55), .val (.ref z68'), .val (.int w1), .val (.int w2), .unset] []))
                    refine Goes.of (fun t k => XS.iconst X70.here hx rfl (hb hby at_142) k) ?_
                    show Goes _ _ _ _ _ _ _ (T70.setTop (mkF m 143 #[.val (.int u0), .val (.int u1), .val (.int a1), .val (.int a2), .val (.int a3), .val (.int b1), .val (.int b2), .val (.int b3), .val (.ref b50), .val (.ref b55), .val (.ref z68'), .val (.int w1), .val (.int w2), .unset] [(.int (1 : Int32))]))
                    refine Goes.of (fun t k => XS.goto X70.here hx rfl (pc0 := 143) (pc' := 148) rfl (hb hby at_143) (by decide) (by decide) k) ?_
                    show Goes _ _ _ _ _ _ _ (T70.setTop (mkF m 148 #[.val (.int u0), .val (.int u1), .val (.int a1), .val (.int a2), .val (.int a3), .val (.int b1), .val (.int b2), .val (.int b3), .val (.ref b50), .val (.ref b55), .val (.ref z68'), .val (.int w1), .val (.int w2), .unset] [(.int (1 : Int32))]))
                    refine Goes.of (fun t k => XS.istore X70.here hx rfl (hb hby at_148) rfl (l' := #[.val (.int u0), .val (.int u1), .val (.int a1), .val (.int a2), .val (.int a3), .val (.int b1), .val (.int b2), .val (.int b3), .val (.ref b50), .val (.ref b55), .val (.ref z68'), .val (.int w1), .val (.int w2), .val (.int (1 : Int32))]) rfl k) ?_
                    show Goes _ _ _ _ _ _ _ (T70.setTop (mkF m 150 #[.val (.int u0), .val (.int u1), .val (.int a1), .val (.int a2), .val (.int a3), .val (.int b1), .val (.int b2), .val (.int b3), .val (.ref b50), .val (.ref b55), .val (.ref z68'), .val (.int w1), .val (.int w2), .val (.int (1 : Int32))] []))
                    exact j71 _ _ (1 : Int32) X70 e70 N70 (own_orR hc75)
                refine Goes.of (fun t k => XS.iloadN X69.here hx rfl (hb hby at_125) rfl k) ?_
                show Goes _ _ _ _ _ _ _ (T69.setTop (mkF m 126 #[.val (.int u0), .val (.int u1), .val (.int a1), .val (.int a2), .val (.int a3), .val (.int b1), .val (.int b2), .val (.int b3), .val (.ref b50), .val (.ref b55), .val (.ref z68'), .val (.int w1), .unset, .unset] [(.int a2)]))
                by_cases hc76 : a2 = (0 : Int32)
                · refine Goes.of (fun t k => XS.ifYes X69.here hx rfl (pc0 := 126) (pc' := 133) rfl (hb hby at_126) rfl ((if0 _ _).trans (teq hc76).1) (by decide) (by decide) k) ?_
                  show Goes _ _ _ _ _ _ _ (T69.setTop (mkF m 133 #[.val (.int u0), .val (.int u1), .val (.int a1), .val (.int a2), .val (.int a3), .val (.int b1), .val (.int b2), .val (.int b3), .val (.ref b50), .val (.ref b55), .val (.ref z68'), .val (.int w1), .unset, .unset] []))
                  refine Goes.of (fun t k => XS.iload X69.here hx rfl (hb hby at_133) rfl k) ?_
                  show Goes _ _ _ _ _ _ _ (T69.setTop (mkF m 135 #[.val (.int u0), .val (.int u1), .val (.int a1), .val (.int a2), .val (.int a3), .val (.int b1), .val (.int b2), .val (.int b3), .val (.ref b50), .val (.ref b55), .val (.ref z68'), .val (.int w1), .unset, .unset] [(.int b2)]))
                  refine Goes.of (fun t k => XS.istore X69.here hx rfl (hb hby at_135) rfl (l' := #[.val (.int u0), .val (.int u1), .val (.int a1), .val (.int a2), .val (.int a3), .val (.int b1), .val (.int b2), .val (.int b3), .val (.ref b50), .val (.ref b55), .val (.ref z68'), .val (.int w1), .val (.int b2), .unset]) rfl k) ?_
                  show Goes _ _ _ _ _ _ _ (T69.setTop (mkF m 137 #[.val (.int u0), .val (.int u1), .val (.int a1), .val (.int a2), .val (.int a3), .val (.int b1), .val (.int b2), .val (.int b3), .val (.ref b50), .val (.ref b55), .val (.ref z68'), .val (.int w1), .val (.int b2), .unset] []))
                  exact j70 _ _ b2 X69 e69 N69 (own_orL hc76 hg48_b2_0)
                · refine Goes.of (fun t k => XS.ifNo X69.here hx rfl (hb hby at_126) rfl ((if0 _ _).trans (feq hc76).1) k) ?_
                  show Goes _ _ _ _ _ _ _ (T69.setTop (mkF m 129 #[.val (.int u0), .val (.int u1), .val (.int a1), .val (.int a2), .val (.int a3), .val (.int b1), .val (.int b2), .val (.int b3), .val (.ref b50), .val (.ref b55), .val (.ref z68'), .val (.int w1), .unset, .unset] []))
                  refine Goes.of (fun t k => XS.iconst X69.here hx rfl (hb hby at_129) k) ?_
                  show Goes _ _ _ _ _ _ _ (T69.setTop (mkF m 130 #[.val (.int u0), .val (.int u1), .val (.int a1), .val (.int a2), .val (.int a3), .val (.int b1), .val (.int b2), .val (.int b3), .val (.ref b50), .val (.ref b55), .val (.ref z68'), .val (.int w1), .unset, .unset] [(.int (1 : Int32))]))
                  refine Goes.of (fun t k => XS.goto X69.here hx rfl (pc0 := 130) (pc' := 135) rfl (hb hby at_130) (by decide) (by decide) k) ?_
                  show Goes _ _ _ _ _ _ _ (T69.setTop (mkF m 135 #[.val (.int u0), .val (.int u1), .val (.int a1), .val (.int a2), .val (.int a3), .val (.int b1), .val (.int b2), .val (.int b3), .val (.ref b50), .val (.ref b55), .val (.ref z68'), .val (.int w1), .unset, .unset] [(.int (1 : Int32))]))
                  refine Goes.of (fun t k => XS.istore X69.here hx rfl (hb hby at_135) rfl (l' := #[.val (.int u0), .val (.int u1), .val (.int a1), .val (.int a2), .val (.int a3), .val (.int b1), .val (.int b2), .val (.int b3), .val (.ref b50), .val (.ref b55), .val (.ref z68'), .val (.int w1), .val (.int (1 : Int32)), .unset]) rfl k) ?_
                  show Goes _ _ _ _ _ _ _ (T69.setTop (mkF m 137 #[.val (.int u0), .val (.int u1), .val (.int a1), .val (.int a2), .val (.int a3), .val (.int b1), .val (.int b2), .val (.int b3), .val (.ref b50), .val (.ref b55), .val (.ref z68'), .val (.int w1), .val (.int (1 : Int32)), .unset] []))
                  exact j70 _ _ (1 : Int32) X69 e69 N69 (own_orR hc76)
              refine Goes.of (fun t k => XS.iloadN X68.here hx rfl (hb hby at_113) rfl k) ?_
              show Goes _ _ _ _ _ _ _ (T68.setTop (mkF m 114 #[.val (.int u0), .val (.int u1), .val (.int a1), .val (.int a2), .val (.int a3), .val (.int b1), .val (.int b2), .val (.int b3), .val (.ref b50), .val (.ref b55), .val (.ref z68'), .unset, .unset, .unset] [(.int a1)]))
              by_cases hc77 : a1 = (0 : Int32)
              · refine Goes.of (fun t k => XS.ifYes X68.here hx rfl (pc0 := 114) (pc' := 121) rfl (hb hby at_114) rfl ((if0 _ _).trans (teq hc77).1) (by decide) (by decide) k) ?_
                show Goes _ _ _ _ _ _ _ (T68.setTop (mkF m 121 #[.val (.int u0), .val (.int u1), .val (.int a1), .val (.int a2), .val (.int a3), .val (.int b1), .val (.int b2), .val (.int b3), .val (.ref b50), .val (.ref b55), .val (.ref z68'), .unset, .unset, .unset] []))
                refine Goes.of (fun t k => XS.iload X68.here hx rfl (hb hby at_121) rfl k) ?_
                show Goes _ _ _ _ _ _ _ (T68.setTop (mkF m 123 #[.val (.int u0), .val (.int u1), .val (.int a1), .val (.int a2), .val (.int a3), .val (.int b1), .val (.int b2), .val (.int b3), .val (.ref b50), .val (.ref b55), .val (.ref z68'), .unset, .unset, .unset] [(.int b1)]))
                refine Goes.of (fun t k => XS.istore X68.here hx rfl (hb hby at_123) rfl (l' := #[.val (.int u0), .val (.int u1), .val (.int a1), .val (.int a2), .val (.int a3), .val (.int b1), .val (.int b2), .val (.int b3), .val (.ref b50), .val (.ref b55), .val (.ref z68'), .val (.int b1), .unset, .unset]) rfl k) ?_
                show Goes _ _ _ _ _ _ _ (T68.setTop (mkF m 125 #[.val (.int u0), .val (.int u1), .val (.int a1), .val (.int a2), .val (.int a3), .val (.int b1), .val (.int b2), .val (.int b3), .val (.ref b50), .val (.ref b55), .val (.ref z68'), .val (.int b1), .unset, .unset] []))
                exact j69 _ _ b1 X68 e68 N68 (own_orL hc77 hg47_b1_0)
              · refine Goes.of (fun t k => XS.ifNo X68.here hx rfl (hb hby at_114) rfl ((if0 _ _).trans (feq hc77).1) k) ?_
                show Goes _ _ _ _ _ _ _ (T68.setTop (mkF m 117 #[.val (.int u0), .val (.int u1), .val (.int a1), .val (.int a2), .val (.int a3), .val (.int b1), .val (.int b2), .val (.int b3), .val (.ref b50), .val (.ref b55), .val (.ref z68'), .unset, .unset, .unset] []))
                refine Goes.of (fun t k => XS.iconst X68.here hx rfl (hb hby at_117) k) ?_
                show Goes _ _ _ _ _ _ _ (T68.setTop (mkF m 118 #[.val (.int u0), .val (.int u1), .val (.int a1), .val (.int a2), .val (.int a3), .val (.int b1), .val (.int b2), .val (.int b3), .val (.ref b50), .val (.ref b55), .val (.ref z68'), .unset, .unset, .unset] [(.int (1 : Int32))]))
                refine Goes.of (fun t k => XS.goto X68.here hx rfl (pc0 := 118) (pc' := 123) rfl (hb hby at_118) (by decide) (by decide) k) ?_
                show Goes _ _ _ _ _ _ _ (T68.setTop (mkF m 123 #[.val (.int u0), .val (.int u1), .val (.int a1), .val (.int a2), .val (.int a3), .val (.int b1), .val (.int b2), .val (.int b3), .val (.ref b50), .val (.ref b55), .val (.ref z68'), .unset, .unset, .unset] [(.int (1 : Int32))]))
                refine Goes.of (fun t k => XS.istore X68.here hx rfl (hb hby at_123) rfl (l' := #[.val (.int u0), .val (.int u1), .val (.int a1), .val (.int a2), .val (.int a3), .val (.int b1), .val (.int b2), .val (.int b3), .val (.ref b50), .val (.ref b55), .val (.ref z68'), .val (.int (1 : Int32)), .unset, .unset]) rfl k) ?_
                show Goes _ _ _ _ _ _ _ (T68.setTop (mkF m 125 #[.val (.int u0), .val (.int u1), .val (.int a1), .val (.int a2), .val (.int a3), .val (.int b1), .val (.int b2), .val (.int b3), .val (.ref b50), .val (.ref b55), .val (.ref z68'), .val (.int (1 : Int32)), .unset, .unset] []))
                exact j69 _ _ (1 : Int32) X68 e68 N68 (own_orR hc77)
            refine Goes.of (fun t k => XS.iloadN X48.here hx rfl (hb hby at_63) rfl k) ?_
            show Goes _ _ _ _ _ _ _ (T48.setTop (mkF m 64 #[.val (.int u0), .val (.int u1), .val (.int a1), .val (.int a2), .val (.int a3), .val (.int b1), .val (.int b2), .unset, .unset, .unset, .unset, .unset, .unset, .unset] [(.int u1)]))
            refine Goes.of (fun t k => XS.iconst X48.here hx rfl (hb hby at_64) k) ?_
            show Goes _ _ _ _ _ _ _ (T48.setTop (mkF m 65 #[.val (.int u0), .val (.int u1), .val (.int a1), .val (.int a2), .val (.int a3), .val (.int b1), .val (.int b2), .unset, .unset, .unset, .unset, .unset, .unset, .unset] [(.int (4 : Int32)), (.int u1)]))
            refine Goes.of (fun t k => XS.iand X48.here hx rfl (hb hby at_65) rfl k) ?_
            show Goes _ _ _ _ _ _ _ (T48.setTop (mkF m 66 #[.val (.int u0), .val (.int u1), .val (.int a1), .val (.int a2), .val (.int a3), .val (.int b1), .val (.int b2), .unset, .unset, .unset, .unset, .unset, .unset, .unset] [(.int (u1 &&& (4 : Int32)))]))
            by_cases hc78 : (u1 &&& (4 : Int32)) = (0 : Int32)
            · refine Goes.of (fun t k => XS.ifYes X48.here hx rfl (pc0 := 66) (pc' := 73) rfl (hb hby at_66) rfl ((if0 _ _).trans (teq hc78).1) (by decide) (by decide) k) ?_
              show Goes _ _ _ _ _ _ _ (T48.setTop (mkF m 73 #[.val (.int u0), .val (.int u1), .val (.int a1), .val (.int a2), .val (.int a3), .val (.int b1), .val (.int b2), .unset, .unset, .unset, .unset, .unset, .unset, .unset] []))
              refine Goes.of (fun t k => XS.iconst X48.here hx rfl (hb hby at_73) k) ?_
              show Goes _ _ _ _ _ _ _ (T48.setTop (mkF m 74 #[.val (.int u0), .val (.int u1), .val (.int a1), .val (.int a2), .val (.int a3), .val (.int b1), .val (.int b2), .unset, .unset, .unset, .unset, .unset, .unset, .unset] [(.int (0 : Int32))]))
              refine Goes.of (fun t k => XS.istore X48.here hx rfl (hb hby at_74) rfl (l' := #[.val (.int u0), .val (.int u1), .val (.int a1), .val (.int a2), .val (.int a3), .val (.int b1), .val (.int b2), .val (.int (0 : Int32)), .unset, .unset, .unset, .unset, .unset, .unset]) rfl k) ?_
              show Goes _ _ _ _ _ _ _ (T48.setTop (mkF m 76 #[.val (.int u0), .val (.int u1), .val (.int a1), .val (.int a2), .val (.int a3), .val (.int b1), .val (.int b2), .val (.int (0 : Int32)), .unset, .unset, .unset, .unset, .unset, .unset] []))
              exact j49 _ _ (0 : Int32) X48 e48 N48 (Or.inl rfl)
            · refine Goes.of (fun t k => XS.ifNo X48.here hx rfl (hb hby at_66) rfl ((if0 _ _).trans (feq hc78).1) k) ?_
              show Goes _ _ _ _ _ _ _ (T48.setTop (mkF m 69 #[.val (.int u0), .val (.int u1), .val (.int a1), .val (.int a2), .val (.int a3), .val (.int b1), .val (.int b2), .unset, .unset, .unset, .unset, .unset, .unset, .unset] []))
              refine Goes.of (fun t k => XS.iconst X48.here hx rfl (hb hby at_69) k) ?_
              show Goes _ _ _ _ _ _ _ (T48.setTop (mkF m 70 #[.val (.int u0), .val (.int u1), .val (.int a1), .val (.int a2), .val (.int a3), .val (.int b1), .val (.int b2), .unset, .unset, .unset, .unset, .unset, .unset, .unset] [(.int (1 : Int32))]))
              refine Goes.of (fun t k => XS.goto X48.here hx rfl (pc0 := 70) (pc' := 74) rfl (hb hby at_70) (by decide) (by decide) k) ?_
              show Goes _ _ _ _ _ _ _ (T48.setTop (mkF m 74 #[.val (.int u0), .val (.int u1), .val (.int a1), .val (.int a2), .val (.int a3), .val (.int b1), .val (.int b2), .unset, .unset, .unset, .unset, .unset, .unset, .unset] [(.int (1 : Int32))]))
              refine Goes.of (fun t k => XS.istore X48.here hx rfl (hb hby at_74) rfl (l' := #[.val (.int u0), .val (.int u1), .val (.int a1), .val (.int a2), .val (.int a3), .val (.int b1), .val (.int b2), .val (.int (1 : Int32)), .unset, .unset, .unset, .unset, .unset, .unset]) rfl k) ?_
              show Goes _ _ _ _ _ _ _ (T48.setTop (mkF m 76 #[.val (.int u0), .val (.int u1), .val (.int a1), .val (.int a2), .val (.int a3), .val (.int b1), .val (.int b2), .val (.int (1 : Int32)), .unset, .unset, .unset, .unset, .unset, .unset] []))
              exact j49 _ _ (1 : Int32) X48 e48 N48 (Or.inr rfl)
          refine Goes.of (fun t k => XS.iloadN X47.here hx rfl (hb hby at_50) rfl k) ?_
          show Goes _ _ _ _ _ _ _ (T47.setTop (mkF m 51 #[.val (.int u0), .val (.int u1), .val (.int a1), .val (.int a2), .val (.int a3), .val (.int b1), .unset, .unset, .unset, .unset, .unset, .unset, .unset, .unset] [(.int u1)]))
          refine Goes.of (fun t k => XS.iconst X47.here hx rfl (hb hby at_51) k) ?_
          show Goes _ _ _ _ _ _ _ (T47.setTop (mkF m 52 #[.val (.int u0), .val (.int u1), .val (.int a1), .val (.int a2), .val (.int a3), .val (.int b1), .unset, .unset, .unset, .unset, .unset, .unset, .unset, .unset] [(.int (2 : Int32)), (.int u1)]))
          refine Goes.of (fun t k => XS.iand X47.here hx rfl (hb hby at_52) rfl k) ?_
          show Goes _ _ _ _ _ _ _ (T47.setTop (mkF m 53 #[.val (.int u0), .val (.int u1), .val (.int a1), .val (.int a2), .val (.int a3), .val (.int b1), .unset, .unset, .unset, .unset, .unset, .unset, .unset, .unset] [(.int (u1 &&& (2 : Int32)))]))
          by_cases hc79 : (u1 &&& (2 : Int32)) = (0 : Int32)
          · refine Goes.of (fun t k => XS.ifYes X47.here hx rfl (pc0 := 53) (pc' := 60) rfl (hb hby at_53) rfl ((if0 _ _).trans (teq hc79).1) (by decide) (by decide) k) ?_
            show Goes _ _ _ _ _ _ _ (T47.setTop (mkF m 60 #[.val (.int u0), .val (.int u1), .val (.int a1), .val (.int a2), .val (.int a3), .val (.int b1), .unset, .unset, .unset, .unset, .unset, .unset, .unset, .unset] []))
            refine Goes.of (fun t k => XS.iconst X47.here hx rfl (hb hby at_60) k) ?_
            show Goes _ _ _ _ _ _ _ (T47.setTop (mkF m 61 #[.val (.int u0), .val (.int u1), .val (.int a1), .val (.int a2), .val (.int a3), .val (.int b1), .unset, .unset, .unset, .unset, .unset, .unset, .unset, .unset] [(.int (0 : Int32))]))
            refine Goes.of (fun t k => XS.istore X47.here hx rfl (hb hby at_61) rfl (l' := #[.val (.int u0), .val (.int u1), .val (.int a1), .val (.int a2), .val (.int a3), .val (.int b1), .val (.int (0 : Int32)), .unset, .unset, .unset, .unset, .unset, .unset, .unset]) rfl k) ?_
            show Goes _ _ _ _ _ _ _ (T47.setTop (mkF m 63 #[.val (.int u0), .val (.int u1), .val (.int a1), .val (.int a2), .val (.int a3), .val (.int b1), .val (.int (0 : Int32)), .unset, .unset, .unset, .unset, .unset, .unset, .unset] []))
            exact j48 _ _ (0 : Int32) X47 e47 N47 (Or.inl rfl)
          · refine Goes.of (fun t k => XS.ifNo X47.here hx rfl (hb hby at_53) rfl ((if0 _ _).trans (feq hc79).1) k) ?_
            show Goes _ _ _ _ _ _ _ (T47.setTop (mkF m 56 #[.val (.int u0), .val (.int u1), .val (.int a1), .val (.int a2), .val (.int a3), .val (.int b1), .unset, .unset, .unset, .unset, .unset, .unset, .unset, .unset] []))
            refine Goes.of (fun t k => XS.iconst X47.here hx rfl (hb hby at_56) k) ?_
            show Goes _ _ _ _ _ _ _ (T47.setTop (mkF m 57 #[.val (.int u0), .val (.int u1), .val (.int a1), .val (.int a2), .val (.int a3), .val (.int b1), .unset, .unset, .unset, .unset, .unset, .unset, .unset, .unset] [(.int (1 : Int32))]))
            refine Goes.of (fun t k => XS.goto X47.here hx rfl (pc0 := 57) (pc' := 61) rfl (hb hby at_57) (by decide) (by decide) k) ?_
            show Goes _ _ _ _ _ _ _ (T47.setTop (mkF m 61 #[.val (.int u0), .val (.int u1), .val (.int a1), .val (.int a2), .val (.int a3), .val (.int b1), .unset, .unset, .unset, .unset, .unset, .unset, .unset, .unset] [(.int (1 : Int32))]))
            refine Goes.of (fun t k => XS.istore X47.here hx rfl (hb hby at_61) rfl (l' := #[.val (.int u0), .val (.int u1), .val (.int a1), .val (.int a2), .val (.int a3), .val (.int b1), .val (.int (1 : Int32)), .unset, .unset, .unset, .unset, .unset, .unset, .unset]) rfl k) ?_
            show Goes _ _ _ _ _ _ _ (T47.setTop (mkF m 63 #[.val (.int u0), .val (.int u1), .val (.int a1), .val (.int a2), .val (.int a3), .val (.int b1), .val (.int (1 : Int32)), .unset, .unset, .unset, .unset, .unset, .unset, .unset] []))
            exact j48 _ _ (1 : Int32) X47 e47 N47 (Or.inr rfl)
        refine Goes.of (fun t k => XS.iloadN X46.here hx rfl (hb hby at_37) rfl k) ?_
        show Goes _ _ _ _ _ _ _ (T46.setTop (mkF m 38 #[.val (.int u0), .val (.int u1), .val (.int a1), .val (.int a2), .val (.int a3), .unset, .unset, .unset, .unset, .unset, .unset, .unset, .unset, .unset] [(.int u1)]))
        refine Goes.of (fun t k => XS.iconst X46.here hx rfl (hb hby at_38) k) ?_
        show Goes _ _ _ _ _ _ _ (T46.setTop (mkF m 39 #[.val (.int u0), .val (.int u1), .val (.int a1), .val (.int a2), .val (.int a3), .unset, .unset, .unset, .unset, .unset, .unset, .unset, .unset, .unset] [(.int (1 : Int32)), (.int u1)]))
        refine Goes.of (fun t k => XS.iand X46.here hx rfl (hb hby at_39) rfl k) ?_
        show Goes _ _ _ _ _ _ _ (T46.setTop (mkF m 40 #[.val (.int u0), .val (.int u1), .val (.int a1), .val (.int a2), .val (.int a3), .unset, .unset, .unset, .unset, .unset, .unset, .unset, .unset, .unset] [(.int (u1 &&& (1 : Int32)))]))
        by_cases hc80 : (u1 &&& (1 : Int32)) = (0 : Int32)
        · refine Goes.of (fun t k => XS.ifYes X46.here hx rfl (pc0 := 40) (pc' := 47) rfl (hb hby at_40) rfl ((if0 _ _).trans (teq hc80).1) (by decide) (by decide) k) ?_
          show Goes _ _ _ _ _ _ _ (T46.setTop (mkF m 47 #[.val (.int u0), .val (.int u1), .val (.int a1), .val (.int a2), .val (.int a3), .unset, .unset, .unset, .unset, .unset, .unset, .unset, .unset, .unset] []))
          refine Goes.of (fun t k => XS.iconst X46.here hx rfl (hb hby at_47) k) ?_
          show Goes _ _ _ _ _ _ _ (T46.setTop (mkF m 48 #[.val (.int u0), .val (.int u1), .val (.int a1), .val (.int a2), .val (.int a3), .unset, .unset, .unset, .unset, .unset, .unset, .unset, .unset, .unset] [(.int (0 : Int32))]))
          refine Goes.of (fun t k => XS.istore X46.here hx rfl (hb hby at_48) rfl (l' := #[.val (.int u0), .val (.int u1), .val (.int a1), .val (.int a2), .val (.int a3), .val (.int (0 : Int32)), .unset, .unset, .unset, .unset, .unset, .unset, .unset, .unset]) rfl k) ?_
          show Goes _ _ _ _ _ _ _ (T46.setTop (mkF m 50 #[.val (.int u0), .val (.int u1), .val (.int a1), .val (.int a2), .val (.int a3), .val (.int (0 : Int32)), .unset, .unset, .unset, .unset, .unset, .unset, .unset, .unset] []))
          exact j47 _ _ (0 : Int32) X46 e46 N46 (Or.inl rfl)
        · refine Goes.of (fun t k => XS.ifNo X46.here hx rfl (hb hby at_40) rfl ((if0 _ _).trans (feq hc80).1) k) ?_
          show Goes _ _ _ _ _ _ _ (T46.setTop (mkF m 43 #[.val (.int u0), .val (.int u1), .val (.int a1), .val (.int a2), .val (.int a3), .unset, .unset, .unset, .unset, .unset, .unset, .unset, .unset, .unset] []))
          refine Goes.of (fun t k => XS.iconst X46.here hx rfl (hb hby at_43) k) ?_
          show Goes _ _ _ _ _ _ _ (T46.setTop (mkF m 44 #[.val (.int u0), .val (.int u1), .val (.int a1), .val (.int a2), .val (.int a3), .unset, .unset, .unset, .unset, .unset, .unset, .unset, .unset, .unset] [(.int (1 : Int32))]))
          refine Goes.of (fun t k => XS.goto X46.here hx rfl (pc0 := 44) (pc' := 48) rfl (hb hby at_44) (by decide) (by decide) k) ?_
          show Goes _ _ _ _ _ _ _ (T46.setTop (mkF m 48 #[.val (.int u0), .val (.int u1), .val (.int a1), .val (.int a2), .val (.int a3), .unset, .unset, .unset, .unset, .unset, .unset, .unset, .unset, .unset] [(.int (1 : Int32))]))
          refine Goes.of (fun t k => XS.istore X46.here hx rfl (hb hby at_48) rfl (l' := #[.val (.int u0), .val (.int u1), .val (.int a1), .val (.int a2), .val (.int a3), .val (.int (1 : Int32)), .unset, .unset, .unset, .unset, .unset, .unset, .unset, .unset]) rfl k) ?_
          show Goes _ _ _ _ _ _ _ (T46.setTop (mkF m 50 #[.val (.int u0), .val (.int u1), .val (.int a1), .val (.int a2), .val (.int a3), .val (.int (1 : Int32)), .unset, .unset, .unset, .unset, .unset, .unset, .unset, .unset] []))
          exact j47 _ _ (1 : Int32) X46 e46 N46 (Or.inr rfl)
      refine Goes.of (fun t k => XS.iloadN X45.here hx rfl (hb hby at_24) rfl k) ?_
      show Goes _ _ _ _ _ _ _ (T45.setTop (mkF m 25 #[.val (.int u0), .val (.int u1), .val (.int a1), .val (.int a2), .unset, .unset, .unset, .unset, .unset, .unset, .unset, .unset, .unset, .unset] [(.int u0)]))
      refine Goes.of (fun t k => XS.iconst X45.here hx rfl (hb hby at_25) k) ?_
      show Goes _ _ _ _ _ _ _ (T45.setTop (mkF m 26 #[.val (.int u0), .val (.int u1), .val (.int a1), .val (.int a2), .unset, .unset, .unset, .unset, .unset, .unset, .unset, .unset, .unset, .unset] [(.int (4 : Int32)), (.int u0)]))
      refine Goes.of (fun t k => XS.iand X45.here hx rfl (hb hby at_26) rfl k) ?_
      show Goes _ _ _ _ _ _ _ (T45.setTop (mkF m 27 #[.val (.int u0), .val (.int u1), .val (.int a1), .val (.int a2), .unset, .unset, .unset, .unset, .unset, .unset, .unset, .unset, .unset, .unset] [(.int (u0 &&& (4 : Int32)))]))
      by_cases hc81 : (u0 &&& (4 : Int32)) = (0 : Int32)
      · refine Goes.of (fun t k => XS.ifYes X45.here hx rfl (pc0 := 27) (pc' := 34) rfl (hb hby at_27) rfl ((if0 _ _).trans (teq hc81).1) (by decide) (by decide) k) ?_
        show Goes _ _ _ _ _ _ _ (T45.setTop (mkF m 34 #[.val (.int u0), .val (.int u1), .val (.int a1), .val (.int a2), .unset, .unset, .unset, .unset, .unset, .unset, .unset, .unset, .unset, .unset] []))
        refine Goes.of (fun t k => XS.iconst X45.here hx rfl (hb hby at_34) k) ?_
        show Goes _ _ _ _ _ _ _ (T45.setTop (mkF m 35 #[.val (.int u0), .val (.int u1), .val (.int a1), .val (.int a2), .unset, .unset, .unset, .unset, .unset, .unset, .unset, .unset, .unset, .unset] [(.int (0 : Int32))]))
        refine Goes.of (fun t k => XS.istore X45.here hx rfl (hb hby at_35) rfl (l' := #[.val (.int u0), .val (.int u1), .val (.int a1), .val (.int a2), .val (.int (0 : Int32)), .unset, .unset, .unset, .unset, .unset, .unset, .unset, .unset, .unset]) rfl k) ?_
        show Goes _ _ _ _ _ _ _ (T45.setTop (mkF m 37 #[.val (.int u0), .val (.int u1), .val (.int a1), .val (.int a2), .val (.int (0 : Int32)), .unset, .unset, .unset, .unset, .unset, .unset, .unset, .unset, .unset] []))
        exact j46 _ _ (0 : Int32) X45 e45 N45 (Or.inl rfl)
      · refine Goes.of (fun t k => XS.ifNo X45.here hx rfl (hb hby at_27) rfl ((if0 _ _).trans (feq hc81).1) k) ?_
        show Goes _ _ _ _ _ _ _ (T45.setTop (mkF m 30 #[.val (.int u0), .val (.int u1), .val (.int a1), .val (.int a2), .unset, .unset, .unset, .unset, .unset, .unset, .unset, .unset, .unset, .unset] []))
        refine Goes.of (fun t k => XS.iconst X45.here hx rfl (hb hby at_30) k) ?_
        show Goes _ _ _ _ _ _ _ (T45.setTop (mkF m 31 #[.val (.int u0), .val (.int u1), .val (.int a1), .val (.int a2), .unset, .unset, .unset, .unset, .unset, .unset, .unset, .unset, .unset, .unset] [(.int (1 : Int32))]))
        refine Goes.of (fun t k => XS.goto X45.here hx rfl (pc0 := 31) (pc' := 35) rfl (hb hby at_31) (by decide) (by decide) k) ?_
        show Goes _ _ _ _ _ _ _ (T45.setTop (mkF m 35 #[.val (.int u0), .val (.int u1), .val (.int a1), .val (.int a2), .unset, .unset, .unset, .unset, .unset, .unset, .unset, .unset, .unset, .unset] [(.int (1 : Int32))]))
        refine Goes.of (fun t k => XS.istore X45.here hx rfl (hb hby at_35) rfl (l' := #[.val (.int u0), .val (.int u1), .val (.int a1), .val (.int a2), .val (.int (1 : Int32)), .unset, .unset, .unset, .unset, .unset, .unset, .unset, .unset, .unset]) rfl k) ?_
        show Goes _ _ _ _ _ _ _ (T45.setTop (mkF m 37 #[.val (.int u0), .val (.int u1), .val (.int a1), .val (.int a2), .val (.int (1 : Int32)), .unset, .unset, .unset, .unset, .unset, .unset, .unset, .unset, .unset] []))
        exact j46 _ _ (1 : Int32) X45 e45 N45 (Or.inr rfl)
    refine Goes.of (fun t k => XS.iloadN X44.here hx rfl (hb hby at_12) rfl k) ?_
    show Goes _ _ _ _ _ _ _ (T44.setTop (mkF m 13 #[.val (.int u0), .val (.int u1), .val (.int a1), .unset, .unset, .unset, .unset, .unset, .unset, .unset, .unset, .unset, .unset, .unset] [(.int u0)]))
    refine Goes.of (fun t k => XS.iconst X44.here hx rfl (hb hby at_13) k) ?_
    show Goes _ _ _ _ _ _ _ (T44.setTop (mkF m 14 #[.val (.int u0), .val (.int u1), .val (.int a1), .unset, .unset, .unset, .unset, .unset, .unset, .unset, .unset, .unset, .unset, .unset] [(.int (2 : Int32)), (.int u0)]))
    refine Goes.of (fun t k => XS.iand X44.here hx rfl (hb hby at_14) rfl k) ?_
    show Goes _ _ _ _ _ _ _ (T44.setTop (mkF m 15 #[.val (.int u0), .val (.int u1), .val (.int a1), .unset, .unset, .unset, .unset, .unset, .unset, .unset, .unset, .unset, .unset, .unset] [(.int (u0 &&& (2 : Int32)))]))
    by_cases hc82 : (u0 &&& (2 : Int32)) = (0 : Int32)
    · refine Goes.of (fun t k => XS.ifYes X44.here hx rfl (pc0 := 15) (pc' := 22) rfl (hb hby at_15) rfl ((if0 _ _).trans (teq hc82).1) (by decide) (by decide) k) ?_
      show Goes _ _ _ _ _ _ _ (T44.setTop (mkF m 22 #[.val (.int u0), .val (.int u1), .val (.int a1), .unset, .unset, .unset, .unset, .unset, .unset, .unset, .unset, .unset, .unset, .unset] []))
      refine Goes.of (fun t k => XS.iconst X44.here hx rfl (hb hby at_22) k) ?_
      show Goes _ _ _ _ _ _ _ (T44.setTop (mkF m 23 #[.val (.int u0), .val (.int u1), .val (.int a1), .unset, .unset, .unset, .unset, .unset, .unset, .unset, .unset, .unset, .unset, .unset] [(.int (0 : Int32))]))
      refine Goes.of (fun t k => XS.istoreN X44.here hx rfl (hb hby at_23) rfl (l' := #[.val (.int u0), .val (.int u1), .val (.int a1), .val (.int (0 : Int32)), .unset, .unset, .unset, .unset, .unset, .unset, .unset, .unset, .unset, .unset]) rfl k) ?_
      show Goes _ _ _ _ _ _ _ (T44.setTop (mkF m 24 #[.val (.int u0), .val (.int u1), .val (.int a1), .val (.int (0 : Int32)), .unset, .unset, .unset, .unset, .unset, .unset, .unset, .unset, .unset, .unset] []))
      exact j45 _ _ (0 : Int32) X44 e44 N44 (Or.inl rfl)
    · refine Goes.of (fun t k => XS.ifNo X44.here hx rfl (hb hby at_15) rfl ((if0 _ _).trans (feq hc82).1) k) ?_
      show Goes _ _ _ _ _ _ _ (T44.setTop (mkF m 18 #[.val (.int u0), .val (.int u1), .val (.int a1), .unset, .unset, .unset, .unset, .unset, .unset, .unset, .unset, .unset, .unset, .unset] []))
      refine Goes.of (fun t k => XS.iconst X44.here hx rfl (hb hby at_18) k) ?_
      show Goes _ _ _ _ _ _ _ (T44.setTop (mkF m 19 #[.val (.int u0), .val (.int u1), .val (.int a1), .unset, .unset, .unset, .unset, .unset, .unset, .unset, .unset, .unset, .unset, .unset] [(.int (1 : Int32))]))
      refine Goes.of (fun t k => XS.goto X44.here hx rfl (pc0 := 19) (pc' := 23) rfl (hb hby at_19) (by decide) (by decide) k) ?_
      show Goes _ _ _ _ _ _ _ (T44.setTop (mkF m 23 #[.val (.int u0), .val (.int u1), .val (.int a1), .unset, .unset, .unset, .unset, .unset, .unset, .unset, .unset, .unset, .unset, .unset] [(.int (1 : Int32))]))
      refine Goes.of (fun t k => XS.istoreN X44.here hx rfl (hb hby at_23) rfl (l' := #[.val (.int u0), .val (.int u1), .val (.int a1), .val (.int (1 : Int32)), .unset, .unset, .unset, .unset, .unset, .unset, .unset, .unset, .unset, .unset]) rfl k) ?_
      show Goes _ _ _ _ _ _ _ (T44.setTop (mkF m 24 #[.val (.int u0), .val (.int u1), .val (.int a1), .val (.int (1 : Int32)), .unset, .unset, .unset, .unset, .unset, .unset, .unset, .unset, .unset, .unset] []))
      exact j45 _ _ (1 : Int32) X44 e44 N44 (Or.inr rfl)
  refine Goes.of (fun t k => XS.iloadN X0.here hx rfl (hb hby at_0) rfl k) ?_
  show Goes _ _ _ _ _ _ _ (s₁.setTop (mkF m 1 #[.val (.int u0), .val (.int u1), .unset, .unset, .unset, .unset, .unset, .unset, .unset, .unset, .unset, .unset, .unset, .unset] [(.int u0)]))
  refine Goes.of (fun t k => XS.iconst X0.here hx rfl (hb hby at_1) k) ?_
  show Goes _ _ _ _ _ _ _ (s₁.setTop (mkF m 2 #[.val (.int u0), .val (.int u1), .unset, .unset, .unset, .unset, .unset, .unset, .unset, .unset, .unset, .unset, .unset, .unset] [(.int (1 : Int32)), (.int u0)]))
  refine Goes.of (fun t k => XS.iand X0.here hx rfl (hb hby at_2) rfl k) ?_
  show Goes _ _ _ _ _ _ _ (s₁.setTop (mkF m 3 #[.val (.int u0), .val (.int u1), .unset, .unset, .unset, .unset, .unset, .unset, .unset, .unset, .unset, .unset, .unset, .unset] [(.int (u0 &&& (1 : Int32)))]))
  by_cases hc83 : (u0 &&& (1 : Int32)) = (0 : Int32)
  · refine Goes.of (fun t k => XS.ifYes X0.here hx rfl (pc0 := 3) (pc' := 10) rfl (hb hby at_3) rfl ((if0 _ _).trans (teq hc83).1) (by decide) (by decide) k) ?_
    show Goes _ _ _ _ _ _ _ (s₁.setTop (mkF m 10 #[.val (.int u0), .val (.int u1), .unset, .unset, .unset, .unset, .unset, .unset, .unset, .unset, .unset, .unset, .unset, .unset] []))
    refine Goes.of (fun t k => XS.iconst X0.here hx rfl (hb hby at_10) k) ?_
    show Goes _ _ _ _ _ _ _ (s₁.setTop (mkF m 11 #[.val (.int u0), .val (.int u1), .unset, .unset, .unset, .unset, .unset, .unset, .unset, .unset, .unset, .unset, .unset, .unset] [(.int (0 : Int32))]))
    refine Goes.of (fun t k => XS.istoreN X0.here hx rfl (hb hby at_11) rfl (l' := #[.val (.int u0), .val (.int u1), .val (.int (0 : Int32)), .unset, .unset, .unset, .unset, .unset, .unset, .unset, .unset, .unset, .unset, .unset]) rfl k) ?_
    show Goes _ _ _ _ _ _ _ (s₁.setTop (mkF m 12 #[.val (.int u0), .val (.int u1), .val (.int (0 : Int32)), .unset, .unset, .unset, .unset, .unset, .unset, .unset, .unset, .unset, .unset, .unset] []))
    exact j44 _ _ (0 : Int32) X0 e0 N0 (Or.inl rfl)
  · refine Goes.of (fun t k => XS.ifNo X0.here hx rfl (hb hby at_3) rfl ((if0 _ _).trans (feq hc83).1) k) ?_
    show Goes _ _ _ _ _ _ _ (s₁.setTop (mkF m 6 #[.val (.int u0), .val (.int u1), .unset, .unset, .unset, .unset, .unset, .unset, .unset, .unset, .unset, .unset, .unset, .unset] []))
    refine Goes.of (fun t k => XS.iconst X0.here hx rfl (hb hby at_6) k) ?_
    show Goes _ _ _ _ _ _ _ (s₁.setTop (mkF m 7 #[.val (.int u0), .val (.int u1), .unset, .unset, .unset, .unset, .unset, .unset, .unset, .unset, .unset, .unset, .unset, .unset] [(.int (1 : Int32))]))
    refine Goes.of (fun t k => XS.goto X0.here hx rfl (pc0 := 7) (pc' := 11) rfl (hb hby at_7) (by decide) (by decide) k) ?_
    show Goes _ _ _ _ _ _ _ (s₁.setTop (mkF m 11 #[.val (.int u0), .val (.int u1), .unset, .unset, .unset, .unset, .unset, .unset, .unset, .unset, .unset, .unset, .unset, .unset] [(.int (1 : Int32))]))
    refine Goes.of (fun t k => XS.istoreN X0.here hx rfl (hb hby at_11) rfl (l' := #[.val (.int u0), .val (.int u1), .val (.int (1 : Int32)), .unset, .unset, .unset, .unset, .unset, .unset, .unset, .unset, .unset, .unset, .unset]) rfl k) ?_
    show Goes _ _ _ _ _ _ _ (s₁.setTop (mkF m 12 #[.val (.int u0), .val (.int u1), .val (.int (1 : Int32)), .unset, .unset, .unset, .unset, .unset, .unset, .unset, .unset, .unset, .unset, .unset] []))
    exact j44 _ _ (1 : Int32) X0 e0 N0 (Or.inr rfl)
theorem own_eqi {args : Array Value} {s : State} {t : Term} {k : Int32} (h : (Jvm.Cond.eq t (.int k)).value args s none s [] = some true) : t.eval args s none [] s = some (.int k) := by
  simp only [Cond.value, Term.eval] at h
  cases ht : t.eval args s none [] s with
  | none => simp [ht] at h
  | some x => cases x <;> simp [ht] at h ⊢; exact h
theorem own_elem {args : Array Value} {s : State} {t : Term} {a : Addr} {cl : Cell} {k c1 c2 c3 : Int32} (ht : t.eval args s none [] s = some (.ref a)) (hc : s.heap[a]? = some cl) (h0 : (Jvm.Cond.exactly (.elem t (.int k)) "com/example/verbguard/verbguard/SegmentPart$Traits").value args s none s [] = some true)
    (h1 : (Jvm.Cond.eq (.field (.elem t (.int k)) "com/example/verbguard/verbguard/SegmentPart$Traits" "commits" "Z") (.int c1)).value args s none s [] = some true) (h2 : (Jvm.Cond.eq (.field (.elem t (.int k)) "com/example/verbguard/verbguard/SegmentPart$Traits" "clusters" "Z") (.int c2)).value args s none s [] = some true) (h3 : (Jvm.Cond.eq (.field (.elem t (.int k)) "com/example/verbguard/verbguard/SegmentPart$Traits" "repeats" "Z") (.int c3)).value args s none s [] = some true) :
    ∃ e : Addr, ¬ (k < 0 ∨ cl.slots.size ≤ k.toNatClampNeg) ∧ cl.slots[k.toNatClampNeg]? = some (.ref e) ∧ Exa s s.heap e "com/example/verbguard/verbguard/SegmentPart$Traits" ∧ Fld s s.heap e "com/example/verbguard/verbguard/SegmentPart$Traits" "commits" "Z" (.int c1) ∧ Fld s s.heap e "com/example/verbguard/verbguard/SegmentPart$Traits" "clusters" "Z" (.int c2) ∧ Fld s s.heap e "com/example/verbguard/verbguard/SegmentPart$Traits" "repeats" "Z" (.int c3) := by
  obtain ⟨e, he⟩ := exa_v h0
  obtain ⟨q1, q2⟩ := elem_in he ht (Term.int_eval k) hc
  have f := fun {n : String} {c : Int32} (h : (Jvm.Cond.eq (.field (.elem t (.int k)) "com/example/verbguard/verbguard/SegmentPart$Traits" n "Z") (.int c)).value args s none s [] = some true) => Fld.start ((fld_at he).symm.trans (own_eqi h))
  exact ⟨e, q1, q2, Exa.start he h0, f h1, f h2, f h3⟩
set_option maxRecDepth 65536 in
set_option maxHeartbeats 40000000 in
theorem comes_1 {Post : Tables → Env → Array Value → State → Outcome → State → Prop} (hpost : ∀ tb e args s v u, (limb_1_1.after args s (.returned v) u = true ∧ limb_1_2.after args s (.returned v) u = true ∧ True) → FrameEnd s (.returned v) u (Jvm.fieldLocs frame_1_writes args s ++ Jvm.arrayLocs frame_1_arrays args s ++ Jvm.staticLocs frame_1_statics s) 16 128 → Post tb e args s (.returned v) u) :
    ArmFor flags0 classFile x code maxLocals ret World_1 tables_1 room_1 Calls_1 rest_1 Pre_1 Post := by
  intro l hfl _ _ p e ha hc hk s m args below hf hA hF happ hP
  obtain ⟨hcalls, hrest, hpre⟩ := hP
  obtain ⟨-, -, -, hnamed, -, -, -, hat⟩ := (Spec.applies_iff hf).mp happ
  obtain ⟨hg, hn⟩ := and_e (Cond.before_iff.mp (show (Jvm.Cond.and given_1 narrow_1).before args s = true from hpre))
  obtain ⟨g84, g85⟩ := and_e hg
  obtain ⟨g86, g87⟩ := and_e g85
  obtain ⟨w0, w1, rfl⟩ : ∃ w0 w1 : Value, args = #[w0, w1] := by
    have hs : args.size = 2 := by simpa [Cond.value, given_1] using g84
    obtain ⟨L⟩ := args
    match L, hs with
    | [w0, w1], _ => exact ⟨w0, w1, rfl⟩
  have hw := fun d (hd : d ∈ tables_1) => atoms_spec (ws := Jvm.Cond.code x code maxLocals ret :: tables_1) hat d (List.mem_cons_of_mem _ hd)
  obtain ⟨xa, r0⟩ := and_e hn
  obtain ⟨xl, r1⟩ := and_e r0
  obtain ⟨q3_0, r2⟩ := and_e r1
  obtain ⟨q3_1, r3⟩ := and_e r2
  obtain ⟨q3_2, r4⟩ := and_e r3
  obtain ⟨q3_3, r5⟩ := and_e r4
  obtain ⟨q7_0, r6⟩ := and_e r5
  obtain ⟨q7_1, r7⟩ := and_e r6
  obtain ⟨q7_2, r8⟩ := and_e r7
  obtain ⟨q7_3, r9⟩ := and_e r8
  obtain ⟨q4_0, r10⟩ := and_e r9
  obtain ⟨q4_1, r11⟩ := and_e r10
  obtain ⟨q4_2, r12⟩ := and_e r11
  obtain ⟨q4_3, r13⟩ := and_e r12
  obtain ⟨q0_0, r14⟩ := and_e r13
  obtain ⟨q0_1, r15⟩ := and_e r14
  obtain ⟨q0_2, r16⟩ := and_e r15
  obtain ⟨q0_3, r17⟩ := and_e r16
  obtain ⟨q5_0, r18⟩ := and_e r17
  obtain ⟨q5_1, r19⟩ := and_e r18
  obtain ⟨q5_2, r20⟩ := and_e r19
  obtain ⟨q5_3, r21⟩ := and_e r20
  obtain ⟨q6_0, r22⟩ := and_e r21
  obtain ⟨q6_1, r23⟩ := and_e r22
  obtain ⟨q6_2, r24⟩ := and_e r23
  obtain ⟨q6_3, r25⟩ := and_e r24
  obtain ⟨q1_0, r26⟩ := and_e r25
  obtain ⟨q1_1, r27⟩ := and_e r26
  obtain ⟨q1_2, r28⟩ := and_e r27
  obtain ⟨q1_3, r29⟩ := and_e r28
  obtain ⟨q2_0, r30⟩ := and_e r29
  obtain ⟨q2_1, r31⟩ := and_e r30
  obtain ⟨q2_2, q2_3⟩ := and_e r31
  obtain ⟨ev, vev⟩ := arr_v xa
  obtain ⟨cl, A⟩ := Arr.start vev xa
  have S1 := Sta.start vev (Or.inr ⟨(hw _ (List.mem_of_getElem? (i := 2) rfl)), (hw _ (List.mem_of_getElem? (i := 29) rfl))⟩)
  have el3 := own_elem vev A.1 q3_0 q3_1 q3_2 q3_3
  have el7 := own_elem vev A.1 q7_0 q7_1 q7_2 q7_3
  have el4 := own_elem vev A.1 q4_0 q4_1 q4_2 q4_3
  have el0 := own_elem vev A.1 q0_0 q0_1 q0_2 q0_3
  have el5 := own_elem vev A.1 q5_0 q5_1 q5_2 q5_3
  have el6 := own_elem vev A.1 q6_0 q6_1 q6_2 q6_3
  have el1 := own_elem vev A.1 q1_0 q1_1 q1_2 q1_3
  have el2 := own_elem vev A.1 q2_0 q2_1 q2_2 q2_3
  have T1 : own_Tab s s.heap ev := ⟨cl, A, fun c1 c2 c3 h1 h2 h3 => by
    rcases h1 with rfl | rfl <;> rcases h2 with rfl | rfl <;> rcases h3 with rfl | rfl
    all_goals first | exact el0 | exact el1 | exact el2 | exact el3 | exact el4 | exact el5 | exact el6 | exact el7⟩
  obtain ⟨i0, ei0⟩ := is_v g86
  obtain rfl : w0 = (.int i0) := Option.some.inj ei0
  obtain ⟨i1, ei1⟩ := is_v g87
  obtain rfl : w1 = (.int i1) := Option.some.inj ei1
  obtain ⟨n, o, h1, h2, h3, _, L, rfl, ⟨rfl, N⟩, hq⟩ := rm0 l s _ hw tables_1 i0 i1 ev s.heap s.heap.size (Nat.le_refl _) (Old.start s) S1 T1 p e ha hc hk s m _ below hf ((Spec.applies_iff_loose hf).mp happ).1 ⟨rfl, State.Warmed39.refl s, rfl⟩ trivial
  exact ⟨n, _, h1, h2, h3, hpost _ _ _ _ _ _ ⟨Cond.after_iff.mpr rfl, Cond.after_iff.mpr (eq_i res_at (Term.int_eval (1)) rfl), trivial⟩ ⟨hq.1, hq.2.1, (hq.2.2.sift fun y hy => Or.inr (N y hy)).mono (by decide) (by decide)⟩⟩
theorem main_1_1 : Claimed_1_1 := comes_1 fun _ _ _ _ _ _ h hF => ⟨h.1, hF⟩
theorem main_1_2 : Claimed_1_2 := comes_1 fun _ _ _ _ _ _ h hF => ⟨h.2.1, hF⟩
end Jvm.Pilot.@@N@@
namespace Jvm.Pilot.@@N@@
open Jvm Jvm.ClassFile Sem Op Lib Jvm.Free Jvm.Stand Jvm.Pilot.@@N@@.Jvm.D
/-! MADE BY PROGRAM (witnessworld.py) out of the Statement's table words and the real class files: 11 classes; the members and pool entries that the words name. The judged class is class 1, her method 1. -/
namespace start1
open Jvm.ClassFile
def u (s : String) : CpInfo := .utf8 (stringToUtf16 s)
/-- a pool by its gaps: so many unusable entries, then the entry; so many at the end -/
def gap : Nat → List CpInfo → List CpInfo
  | 0, r => r
  | n + 1, r => .unusable :: gap n r
def poolList (es : List (Nat × CpInfo)) (last : Nat) : List CpInfo := es.foldr (fun e r => gap e.1 (e.2 :: r)) (gap last [])
def pool (es : List (Nat × CpInfo)) (last : Nat) : Array CpInfo := ⟨poolList es last⟩
def fileOf (pool : Array CpInfo) (this : Nat) (attrs : Array Attribute := #[]) (ms : Array MethodInfo := #[]) (fl : Nat := 33) (sup : Nat := 0) (ifs : Array Nat := #[]) (fds : Array FieldInfo := #[]) : ClassFile where
  minorVersion := 0
  majorVersion := 65
  constantPool := pool
  accessFlags := fl
  thisClass := this
  superClass := sup
  interfaces := ifs
  fields := fds
  methods := ms
  attributes := attrs
def plain (name : String) (sup : Option ClassId) : Class where
  name := name
  kind := .ordinary
  loader := none
  accessFlags := 33
  super := sup
  interfaces := #[]
  cf := none
  fields := #[]
  methods := #[]
  instanceTypes := #[]
  staticTypes := #[]
  resolved := #[]
  callSites := []
  init := .initialized
  statics := none
  mirror := none

def pool0 : Array CpInfo := pool [(5, u "<init>"), (0, u "()V"), (1, .class_ 10), (1, u "java/lang/Object")] 113

def k0c0 : Code := { maxStack := 0, maxLocals := 1, code := object_method_1_code, exceptionTable := #[], attributes := #[] }
def k0m0 : Method := { name := "<init>", desc := "()V", sig := { parameters := [], returnType := none }, accessFlags := 1, code := some k0c0 }
/-- java/lang/Object -/
def k0 : Class := { plain "java/lang/Object" none with
  accessFlags := 33
  interfaces := #[]
  cf := some (fileOf pool0 8 #[] #[{ accessFlags := 1, nameIndex := 5, descriptorIndex := 6, attributes := #[] }] 33 0 #[] #[])
  fields := #[]
  methods := #[k0m0]
  instanceTypes := #[]
  staticTypes := #[]
  resolved := Array.replicate 124 none
  statics := none }

def pool1 : Array CpInfo := pool [(2, .class_ 4), (1, u "java/lang/Object"), (0, u "<init>"), (0, u "()V"), (0, .class_ 8), (0, u "com/example/verbguard/verbguard/SegmentPart$Traits"), (0, .methodref 7 10), (0, .nameAndType 5 11), (0, u "(ZZZ)V"), (0, .methodref 7 13), (0, .nameAndType 14 15), (0, u "or"), (0, u "(Lcom/example/verbguard/verbguard/SegmentPart$Traits;)Lcom/example/verbguard/verbguard/SegmentPart$Traits;"), (0, .methodref 7 17), (0, .nameAndType 18 19), (0, u "commits"), (0, u "()Z"), (0, .methodref 7 21), (0, .nameAndType 22 19), (0, u "clusters"), (0, .methodref 7 24), (0, .nameAndType 25 19), (0, u "repeats"), (0, .class_ 27), (0, u "com/example/verbguard/verbguard/TraitsOrPinLaw"), (2, u "law"), (0, u "(II)Z")] 7

def k1m0 : Method := { name := "<init>", desc := "()V", sig := { parameters := [], returnType := none }, accessFlags := 1, code := none }
def k1c1 : Code := { maxStack := 5, maxLocals := 14, code := code, exceptionTable := #[], attributes := #[] }
def k1m1 : Method := { name := "law", desc := "(II)Z", sig := { parameters := [.int, .int], returnType := some .boolean }, accessFlags := 9, code := some k1c1 }
/-- com/example/verbguard/verbguard/TraitsOrPinLaw -/
def k1 : Class := { plain "com/example/verbguard/verbguard/TraitsOrPinLaw" (some 0) with
  accessFlags := 49
  interfaces := #[]
  cf := some (fileOf pool1 26 #[] #[{ accessFlags := 1, nameIndex := 5, descriptorIndex := 6, attributes := #[] }, { accessFlags := 9, nameIndex := 30, descriptorIndex := 31, attributes := #[] }] 49 2 #[] #[])
  fields := #[]
  methods := #[k1m0, k1m1]
  instanceTypes := #[]
  staticTypes := #[]
  resolved := Array.replicate 39 none
  statics := none }

def pool2 : Array CpInfo := pool [(1, .methodref 2 3), (0, .class_ 4), (0, .nameAndType 5 6), (0, u "java/lang/Object"), (0, u "<init>"), (0, u "()V"), (0, .class_ 8), (0, u "java/lang/Record")] 13

def k2c0 : Code := { maxStack := 1, maxLocals := 1, code := jdk_30_method_1_code, exceptionTable := #[], attributes := #[] }
def k2m0 : Method := { name := "<init>", desc := "()V", sig := { parameters := [], returnType := none }, accessFlags := 4, code := some k2c0 }
/-- java/lang/Record -/
def k2 : Class := { plain "java/lang/Record" (some 0) with
  accessFlags := 1057
  interfaces := #[]
  cf := some (fileOf pool2 7 #[] #[{ accessFlags := 4, nameIndex := 5, descriptorIndex := 6, attributes := #[] }] 1057 2 #[] #[])
  fields := #[]
  methods := #[k2m0]
  instanceTypes := #[]
  staticTypes := #[]
  resolved := Array.replicate 22 none
  statics := none }

def pool3 : Array CpInfo := pool [(1, .methodref 2 3), (0, .class_ 4), (0, .nameAndType 5 6), (0, u "java/lang/Record"), (0, u "<init>"), (0, u "()V"), (0, .fieldref 8 9), (0, .class_ 10), (0, .nameAndType 11 12), (0, u "com/example/verbguard/verbguard/SegmentPart$Traits"), (0, u "commits"), (0, u "Z"), (0, .fieldref 8 14), (0, .nameAndType 15 12), (0, u "clusters"), (0, .fieldref 8 17), (0, .nameAndType 18 12), (0, u "repeats"), (0, .fieldref 8 20), (0, .nameAndType 21 22), (0, u "EVERY"), (0, u "[Lcom/example/verbguard/verbguard/SegmentPart$Traits;"), (0, .methodref 8 24), (0, .nameAndType 25 26), (0, u "index"), (0, u "(ZZZ)I"), (0, .methodref 8 28), (0, .nameAndType 29 30), (0, u "of"), (0, u "(ZZZ)Lcom/example/verbguard/verbguard/SegmentPart$Traits;"), (2, u "(ZZZ)V"), (18, u "NONE"), (0, u "Lcom/example/verbguard/verbguard/SegmentPart$Traits;"), (3, u "or"), (0, u "(Lcom/example/verbguard/verbguard/SegmentPart$Traits;)Lcom/example/verbguard/verbguard/SegmentPart$Traits;"), (5, u "()Z"), (4, .class_ 70), (0, u "com/example/verbguard/verbguard/SegmentPart")] 21

def k3c0 : Code := { maxStack := 2, maxLocals := 4, code := prog_41_method_1_code, exceptionTable := #[], attributes := #[] }
def k3m0 : Method := { name := "<init>", desc := "(ZZZ)V", sig := { parameters := [.boolean, .boolean, .boolean], returnType := none }, accessFlags := 0, code := some k3c0 }
def k3c1 : Code := { maxStack := 4, maxLocals := 3, code := prog_41_method_2_code, exceptionTable := #[], attributes := #[] }
def k3m1 : Method := { name := "of", desc := "(ZZZ)Lcom/example/verbguard/verbguard/SegmentPart$Traits;", sig := { parameters := [.boolean, .boolean, .boolean], returnType := some (.object "com/example/verbguard/verbguard/SegmentPart$Traits") }, accessFlags := 8, code := some k3c1 }
def k3c2 : Code := { maxStack := 3, maxLocals := 2, code := prog_41_method_3_code, exceptionTable := #[], attributes := #[] }
def k3m2 : Method := { name := "or", desc := "(Lcom/example/verbguard/verbguard/SegmentPart$Traits;)Lcom/example/verbguard/verbguard/SegmentPart$Traits;", sig := { parameters := [(.object "com/example/verbguard/verbguard/SegmentPart$Traits")], returnType := some (.object "com/example/verbguard/verbguard/SegmentPart$Traits") }, accessFlags := 0, code := some k3c2 }
def k3c3 : Code := { maxStack := 2, maxLocals := 3, code := prog_41_method_5_code, exceptionTable := #[], attributes := #[] }
def k3m3 : Method := { name := "index", desc := "(ZZZ)I", sig := { parameters := [.boolean, .boolean, .boolean], returnType := some .int }, accessFlags := 10, code := some k3c3 }
def k3c4 : Code := { maxStack := 1, maxLocals := 1, code := prog_41_method_9_code, exceptionTable := #[], attributes := #[] }
def k3m4 : Method := { name := "commits", desc := "()Z", sig := { parameters := [], returnType := some .boolean }, accessFlags := 1, code := some k3c4 }
def k3c5 : Code := { maxStack := 1, maxLocals := 1, code := prog_41_method_10_code, exceptionTable := #[], attributes := #[] }
def k3m5 : Method := { name := "clusters", desc := "()Z", sig := { parameters := [], returnType := some .boolean }, accessFlags := 1, code := some k3c5 }
def k3c6 : Code := { maxStack := 1, maxLocals := 1, code := prog_41_method_11_code, exceptionTable := #[], attributes := #[] }
def k3m6 : Method := { name := "repeats", desc := "()Z", sig := { parameters := [], returnType := some .boolean }, accessFlags := 1, code := some k3c6 }
/-- com/example/verbguard/verbguard/SegmentPart$Traits -/
def k3 : Class := { plain "com/example/verbguard/verbguard/SegmentPart$Traits" (some 2) with
  accessFlags := 48
  interfaces := #[]
  cf := some (fileOf pool3 8 #[.nestHost 69] #[{ accessFlags := 0, nameIndex := 5, descriptorIndex := 33, attributes := #[] }, { accessFlags := 8, nameIndex := 29, descriptorIndex := 30, attributes := #[] }, { accessFlags := 0, nameIndex := 57, descriptorIndex := 58, attributes := #[] }, { accessFlags := 10, nameIndex := 25, descriptorIndex := 26, attributes := #[] }, { accessFlags := 1, nameIndex := 11, descriptorIndex := 64, attributes := #[] }, { accessFlags := 1, nameIndex := 15, descriptorIndex := 64, attributes := #[] }, { accessFlags := 1, nameIndex := 18, descriptorIndex := 64, attributes := #[] }] 48 2 #[] #[{ accessFlags := 18, nameIndex := 11, descriptorIndex := 12, attributes := #[] }, { accessFlags := 18, nameIndex := 15, descriptorIndex := 12, attributes := #[] }, { accessFlags := 18, nameIndex := 18, descriptorIndex := 12, attributes := #[] }, { accessFlags := 26, nameIndex := 21, descriptorIndex := 22, attributes := #[] }, { accessFlags := 24, nameIndex := 52, descriptorIndex := 53, attributes := #[] }])
  fields := #[{ name := "commits", type := .boolean, accessFlags := 18, slot := 0, constantValue := 0 }, { name := "clusters", type := .boolean, accessFlags := 18, slot := 1, constantValue := 0 }, { name := "repeats", type := .boolean, accessFlags := 18, slot := 2, constantValue := 0 }, { name := "EVERY", type := (.array (.object "com/example/verbguard/verbguard/SegmentPart$Traits")), accessFlags := 26, slot := 0, constantValue := 0 }, { name := "NONE", type := (.object "com/example/verbguard/verbguard/SegmentPart$Traits"), accessFlags := 24, slot := 1, constantValue := 0 }]
  methods := #[k3m0, k3m1, k3m2, k3m3, k3m4, k3m5, k3m6]
  instanceTypes := #[.boolean, .boolean, .boolean]
  staticTypes := #[(.array (.object "com/example/verbguard/verbguard/SegmentPart$Traits")), (.object "com/example/verbguard/verbguard/SegmentPart$Traits")]
  resolved := Array.replicate 92 none
  statics := some 0 }

def pool4 : Array CpInfo := pool [(1, u "java/lang/Cloneable"), (0, .class_ 1), (0, u "java/lang/Object"), (0, .class_ 3)] 3

/-- java/lang/Cloneable -/
def k4 : Class := { plain "java/lang/Cloneable" (some 0) with
  accessFlags := 1537
  interfaces := #[]
  cf := some (fileOf pool4 2 #[] #[] 1537 4 #[] #[])
  fields := #[]
  methods := #[]
  instanceTypes := #[]
  staticTypes := #[]
  resolved := Array.replicate 8 none
  statics := none }

def pool5 : Array CpInfo := pool [(1, u "java/io/Serializable"), (0, .class_ 1), (0, u "java/lang/Object"), (0, .class_ 3)] 3

/-- java/io/Serializable -/
def k5 : Class := { plain "java/io/Serializable" (some 0) with
  accessFlags := 1537
  interfaces := #[]
  cf := some (fileOf pool5 2 #[] #[] 1537 4 #[] #[])
  fields := #[]
  methods := #[]
  instanceTypes := #[]
  staticTypes := #[]
  resolved := Array.replicate 8 none
  statics := none }

/-- the primitive byte -/
def k6 : Class := { plain "byte" none with kind := .primitive 'B', accessFlags := 0x411 }
/-- [B -/
def k7 : Class := { plain "[B" (some 0) with kind := .array 6 .byte, interfaces := #[4, 5], accessFlags := 1041 }

/-- the primitive int -/
def k8 : Class := { plain "int" none with kind := .primitive 'I', accessFlags := 0x411 }
/-- [I -/
def k9 : Class := { plain "[I" (some 0) with kind := .array 8 .int, interfaces := #[4, 5], accessFlags := 1041 }

/-- [Lcom/example/verbguard/verbguard/SegmentPart$Traits; -/
def k10 : Class := { plain "[Lcom/example/verbguard/verbguard/SegmentPart$Traits;" (some 0) with kind := .array 3 (.object "com/example/verbguard/verbguard/SegmentPart$Traits"), interfaces := #[4, 5], accessFlags := 1041 }

def heap : Heap := #[{ cls := 3, slots := #[.ref 1, .null], vm := .statics 3 },
  { cls := 10, slots := #[.ref 2, .ref 3, .ref 4, .ref 5, .ref 6, .ref 7, .ref 8, .ref 9], vm := .none },
  { cls := 3, slots := #[.int 0, .int 0, .int 0], vm := .none },
  { cls := 3, slots := #[.int 1, .int 0, .int 0], vm := .none },
  { cls := 3, slots := #[.int 0, .int 1, .int 0], vm := .none },
  { cls := 3, slots := #[.int 1, .int 1, .int 0], vm := .none },
  { cls := 3, slots := #[.int 0, .int 0, .int 1], vm := .none },
  { cls := 3, slots := #[.int 1, .int 0, .int 1], vm := .none },
  { cls := 3, slots := #[.int 0, .int 1, .int 1], vm := .none },
  { cls := 3, slots := #[.int 1, .int 1, .int 1], vm := .none }]
def classes : Array Class := #[k0, k1, k2, k3, k4, k5, k6, k7, k8, k9, k10]
def interned : List (Array UInt16 × Addr) := []
def slotsUsed : Nat := 34
def theMethod : MethodId := ⟨1, 1⟩
def args0 : Array Value := #[.int 5, .int 3]
def aboutOver (below : List Frame) : State where
  vm := { classes := classes, interned := interned.toArray }
  heap := heap
  slotsUsed := slotsUsed
  threads := #[{ frames := .invoking theMethod args0 :: below }]
def below0 : List Frame := [.native { method := ⟨0, 0⟩, args := #[] }]
def about1 : State := aboutOver below0
def p0 : Program := .bare "" "" ""
def e0 : Env := launch0.env 0 0 0
theorem w_frames : about1.frames = Frame.invoking theMethod args0 :: below0 := rfl
set_option maxRecDepth 65536 in
theorem w_args : argsFit about1.vm theMethod args0 = true := by decide +kernel
set_option maxRecDepth 65536 in
theorem w_heap : heapFits about1 = true := by decide +kernel
set_option maxRecDepth 65536 in
theorem w_runnable : about1.curStatus? = some .runnable := by decide +kernel
set_option maxRecDepth 65536 in
theorem w_alone : about1.alone = true := by decide +kernel
set_option maxRecDepth 65536 in
theorem w_named : about1.methodNamed? x = some theMethod := by decide +kernel
set_option maxRecDepth 65536 in
theorem w_hears : about1.hears theMethod below0 = true := by decide +kernel
set_option maxRecDepth 65536 in
theorem w_ripe : about1.ripe theMethod args0 below0 = true := by decide +kernel
theorem w_running : about1.status = .running := rfl
set_option maxRecDepth 65536 in
theorem w_room : about1.hasRoom e0.platform room_1 = true :=
  launch0.hasRoom_least _ room_1 (by decide +kernel) (by decide +kernel) (by decide +kernel) (by decide +kernel) (by decide +kernel) (by decide +kernel)
theorem allAtoms_all (ts : List Jvm.Cond) (a : Array Jvm.Value) (st : Jvm.State) : (allAtoms ts).before a st = ts.all (fun c => c.before a st) := by
  induction ts with
  | nil => rfl
  | cons c t ih =>
    show (Jvm.Cond.and c (allAtoms t)).before a st = _
    rw [Jvm.Cond.before_and, ih, List.all_cons]
def words1 : List Jvm.Cond := Jvm.Cond.code x code maxLocals ret :: tables_1
/-- a 'code' word, met by the world's own term for the bytes: nothing is compared byte by byte -/
theorem code_word {y : MethodName} {bytes : ByteArray} {mx : Nat} {rt : Option FieldType} {a : Array Value} {s : State} {m : MethodId} {meth : Method} {c : Code} (h1 : s.methodNamed? y = some m) (h2 : s.vm.method? m = some meth) (h3 : meth.code = some c) (h4 : c.code = bytes)
    (h5 : (c.maxLocals == mx && c.exceptionTable.isEmpty && decide (c.maxStack ≤ mostOperands) && decide (meth.sig.returnType = rt) && !meth.locks && decide (parseMethodDescriptor y.desc = some meth.sig)) = true) : (Jvm.Cond.code y bytes mx rt).before a s = true := by
  simp only [Bool.and_eq_true, beq_iff_eq, Bool.not_eq_true', decide_eq_true_eq] at h5
  obtain ⟨⟨⟨⟨⟨g1, g2⟩, g3⟩, g4⟩, g5⟩, g6⟩ := h5
  simp [Cond.before, Cond.holds, Cond.value, h1, h2, h3, h4, g1, g2, g3, g4, g5, g6]
def isCode : Jvm.Cond → Bool
  | .code _ _ _ _ => true
  | _ => false
theorem all_split {L : List Jvm.Cond} {P : Jvm.Cond → Bool} (h1 : L.all (fun c => isCode c || P c) = true) (h2 : ∀ c ∈ L.filter isCode, P c = true) : L.all P = true := by
  refine List.all_eq_true.mpr fun c hc => ?_
  have h := List.all_eq_true.mp h1 c hc
  rcases Bool.eq_false_or_eq_true (isCode c) with hi | hi
  · exact h2 c (List.mem_filter.mpr ⟨hc, hi⟩)
  · simpa [hi] using h
set_option maxRecDepth 65536 in
theorem w_c0 : (Jvm.Cond.code x code maxLocals ret).before args0 about1 = true := code_word (m := ⟨1, 1⟩) (meth := k1m1) (c := k1c1) (by decide +kernel) rfl rfl rfl (by decide +kernel)
set_option maxRecDepth 65536 in
theorem w_c1 : (Jvm.Cond.code ({ cls := "com/example/verbguard/verbguard/SegmentPart$Traits", name := "<init>", desc := "(ZZZ)V" } : Jvm.MethodName) prog_41_method_1_code (4 : Nat) (Option.none : Option Jvm.ClassFile.FieldType)).before args0 about1 = true := code_word (m := ⟨3, 0⟩) (meth := k3m0) (c := k3c0) (by decide +kernel) rfl rfl rfl (by decide +kernel)
set_option maxRecDepth 65536 in
theorem w_c2 : (Jvm.Cond.code ({ cls := "java/lang/Record", name := "<init>", desc := "()V" } : Jvm.MethodName) jdk_30_method_1_code (1 : Nat) (Option.none : Option Jvm.ClassFile.FieldType)).before args0 about1 = true := code_word (m := ⟨2, 0⟩) (meth := k2m0) (c := k2c0) (by decide +kernel) rfl rfl rfl (by decide +kernel)
set_option maxRecDepth 65536 in
theorem w_c3 : (Jvm.Cond.code ({ cls := "java/lang/Object", name := "<init>", desc := "()V" } : Jvm.MethodName) object_method_1_code (1 : Nat) (Option.none : Option Jvm.ClassFile.FieldType)).before args0 about1 = true := code_word (m := ⟨0, 0⟩) (meth := k0m0) (c := k0c0) (by decide +kernel) rfl rfl rfl (by decide +kernel)
set_option maxRecDepth 65536 in
theorem w_c4 : (Jvm.Cond.code ({ cls := "com/example/verbguard/verbguard/SegmentPart$Traits", name := "or", desc := "(Lcom/example/verbguard/verbguard/SegmentPart$Traits;)Lcom/example/verbguard/verbguard/SegmentPart$Traits;" } : Jvm.MethodName) prog_41_method_3_code (2 : Nat) (Option.some (Jvm.ClassFile.FieldType.object "com/example/verbguard/verbguard/SegmentPart$Traits"))).before args0 about1 = true := code_word (m := ⟨3, 2⟩) (meth := k3m2) (c := k3c2) (by decide +kernel) rfl rfl rfl (by decide +kernel)
set_option maxRecDepth 65536 in
theorem w_c5 : (Jvm.Cond.code ({ cls := "com/example/verbguard/verbguard/SegmentPart$Traits", name := "of", desc := "(ZZZ)Lcom/example/verbguard/verbguard/SegmentPart$Traits;" } : Jvm.MethodName) prog_41_method_2_code (3 : Nat) (Option.some (Jvm.ClassFile.FieldType.object "com/example/verbguard/verbguard/SegmentPart$Traits"))).before args0 about1 = true := code_word (m := ⟨3, 1⟩) (meth := k3m1) (c := k3c1) (by decide +kernel) rfl rfl rfl (by decide +kernel)
set_option maxRecDepth 65536 in
theorem w_c6 : (Jvm.Cond.code ({ cls := "com/example/verbguard/verbguard/SegmentPart$Traits", name := "index", desc := "(ZZZ)I" } : Jvm.MethodName) prog_41_method_5_code (3 : Nat) (Option.some Jvm.ClassFile.FieldType.int)).before args0 about1 = true := code_word (m := ⟨3, 3⟩) (meth := k3m3) (c := k3c3) (by decide +kernel) rfl rfl rfl (by decide +kernel)
set_option maxRecDepth 65536 in
theorem w_c7 : (Jvm.Cond.code ({ cls := "com/example/verbguard/verbguard/SegmentPart$Traits", name := "commits", desc := "()Z" } : Jvm.MethodName) prog_41_method_9_code (1 : Nat) (Option.some Jvm.ClassFile.FieldType.boolean)).before args0 about1 = true := code_word (m := ⟨3, 4⟩) (meth := k3m4) (c := k3c4) (by decide +kernel) rfl rfl rfl (by decide +kernel)
set_option maxRecDepth 65536 in
theorem w_c8 : (Jvm.Cond.code ({ cls := "com/example/verbguard/verbguard/SegmentPart$Traits", name := "clusters", desc := "()Z" } : Jvm.MethodName) prog_41_method_10_code (1 : Nat) (Option.some Jvm.ClassFile.FieldType.boolean)).before args0 about1 = true := code_word (m := ⟨3, 5⟩) (meth := k3m5) (c := k3c5) (by decide +kernel) rfl rfl rfl (by decide +kernel)
set_option maxRecDepth 65536 in
theorem w_c9 : (Jvm.Cond.code ({ cls := "com/example/verbguard/verbguard/SegmentPart$Traits", name := "repeats", desc := "()Z" } : Jvm.MethodName) prog_41_method_11_code (1 : Nat) (Option.some Jvm.ClassFile.FieldType.boolean)).before args0 about1 = true := code_word (m := ⟨3, 6⟩) (meth := k3m6) (c := k3c6) (by decide +kernel) rfl rfl rfl (by decide +kernel)
def codes1 : List Jvm.Cond := [Jvm.Cond.code x code maxLocals ret, Jvm.Cond.code ({ cls := "com/example/verbguard/verbguard/SegmentPart$Traits", name := "<init>", desc := "(ZZZ)V" } : Jvm.MethodName) prog_41_method_1_code (4 : Nat) (Option.none : Option Jvm.ClassFile.FieldType), Jvm.Cond.code ({ cls := "java/lang/Record", name := "<init>", desc := "()V" } : Jvm.MethodName) jdk_30_method_1_code (1 : Nat) (Option.none : Option Jvm.ClassFile.FieldType), Jvm.Cond.code ({ cls := "java/lang/Object", name := "<init>", desc := "()V" } : Jvm.MethodName) object_method_1_code (1 : Nat) (Option.none : Option Jvm.ClassFile.FieldType), Jvm.Cond.code ({ cls := "com/example/verbguard/verbguard/SegmentPart$Traits", name := "or", desc := "(Lcom/example/verbguard/verbguard/SegmentPart$Traits;)Lcom/example/verbguard/verbguard/SegmentPart$Traits;" } : Jvm.MethodName) prog_41_method_3_code (2 : Nat) (Option.some (Jvm.ClassFile.FieldType.object "com/example/verbguard/verbguard/SegmentPart$Traits")), Jvm.Cond.code ({ cls := "com/example/verbguard/verbguard/SegmentPart$Traits", name := "of", desc := "(ZZZ)Lcom/example/verbguard/verbguard/SegmentPart$Traits;" } : Jvm.MethodName) prog_41_method_2_code (3 : Nat) (Option.some (Jvm.ClassFile.FieldType.object "com/example/verbguard/verbguard/SegmentPart$Traits")), Jvm.Cond.code ({ cls := "com/example/verbguard/verbguard/SegmentPart$Traits", name := "index", desc := "(ZZZ)I" } : Jvm.MethodName) prog_41_method_5_code (3 : Nat) (Option.some Jvm.ClassFile.FieldType.int), Jvm.Cond.code ({ cls := "com/example/verbguard/verbguard/SegmentPart$Traits", name := "commits", desc := "()Z" } : Jvm.MethodName) prog_41_method_9_code (1 : Nat) (Option.some Jvm.ClassFile.FieldType.boolean), Jvm.Cond.code ({ cls := "com/example/verbguard/verbguard/SegmentPart$Traits", name := "clusters", desc := "()Z" } : Jvm.MethodName) prog_41_method_10_code (1 : Nat) (Option.some Jvm.ClassFile.FieldType.boolean), Jvm.Cond.code ({ cls := "com/example/verbguard/verbguard/SegmentPart$Traits", name := "repeats", desc := "()Z" } : Jvm.MethodName) prog_41_method_11_code (1 : Nat) (Option.some Jvm.ClassFile.FieldType.boolean)]
set_option maxRecDepth 65536 in
theorem codes_eq : words1.filter isCode = codes1 := rfl
theorem w_codes : ∀ c ∈ words1.filter isCode, c.before args0 about1 = true := by
  rw [codes_eq]
  intro c hc
  simp only [codes1, List.mem_cons, List.not_mem_nil, or_false] at hc
  rcases hc with rfl | rfl | rfl | rfl | rfl | rfl | rfl | rfl | rfl | rfl
  · exact w_c0
  · exact w_c1
  · exact w_c2
  · exact w_c3
  · exact w_c4
  · exact w_c5
  · exact w_c6
  · exact w_c7
  · exact w_c8
  · exact w_c9
set_option maxRecDepth 65536 in
theorem w_t1 : (words1.take 24).all (fun c => isCode c || c.before args0 about1) = true := by decide +kernel
set_option maxRecDepth 65536 in
theorem w_t2 : ((words1.drop 24).take 24).all (fun c => isCode c || c.before args0 about1) = true := by decide +kernel
set_option maxRecDepth 65536 in
theorem w_t3 : ((words1.drop 24).drop 24).all (fun c => isCode c || c.before args0 about1) = true := by decide +kernel
theorem w_tables : (allAtoms (Jvm.Cond.code x code maxLocals ret :: tables_1)).before args0 about1 = true := by
  rw [allAtoms_all]
  show words1.all (fun c => c.before args0 about1) = true
  refine all_split ?_ w_codes
  rw [← List.take_append_drop 24 words1, List.all_append, w_t1, ← List.take_append_drop 24 (words1.drop 24), List.all_append, w_t2, w_t3]
  rfl
set_option maxRecDepth 65536 in
theorem w_case : (Jvm.Cond.and given_1 narrow_1).before args0 about1 = true := by decide +kernel
theorem w_applies : (headSpec (Jvm.Cond.code x code maxLocals ret :: tables_1) room_1).applies x e0.platform about1 = true :=
  (Spec.applies_iff w_frames).mpr ⟨w_running, w_runnable, w_alone, w_named, w_hears, w_ripe, w_room, w_tables⟩
theorem atStart : AtStart classFile x code maxLocals ret World_1 tables_1 room_1 Calls_1 rest_1 Pre_1 launch0 p0 e0 about1 theMethod args0 below0 :=
  ⟨lists_1, trivial, launch0.admits_env _ _ _, launch0.least_env, fairChoices_fair.cas, fairChoices_fair.clock, w_frames, w_args, w_heap, w_applies, trivial, trivial, w_case⟩
end start1
theorem witness_1 : WitnessClaimed_1 := ⟨start1.p0, start1.e0, start1.about1, start1.theMethod, start1.args0, start1.below0, start1.atStart⟩
end Jvm.Pilot.@@N@@
