import JvmDerived
import JvmDerived.Pilot.@@N@@Statement
import JvmDerived.Pilot.@@N@@Code
set_option linter.unusedVariables false
set_option linter.unusedSimpArgs false
namespace Jvm.RoadKit
open Sem ClassFile Op Lib Jvm.Stand Jvm.Free Jvm.LawKit
section New
variable {p : Program} {l : Launch} {e : Env} {R : Room} {s : State} {m : MethodId} {args : Array Value} {below : List Frame} {meth : Method} {c : Code} {T : State} {locs : List Loc} {cells slots : Nat}
theorem retI (X : Stand p l e R s m args below meth c T locs cells slots) (hx : p.tables.exec = Jvm.exec) {pc : Nat} {Ls : Array Slot} {z : Int32} {rest : List Value} (hret : meth.sig.returnType = some .int) (hd : decode c.code pc = .ok (.ireturn, 1)) {fs : List Frame}
    (hl : ∀ (f : JFrame) (acts : List Action), f.method = m → f.locked = none → f.entered = [] → (doReturn e (T.setTop f) acts (some (.int z))).1 = T.setFrames fs) : Steps p.tables e below (T.setTop (mkF m pc Ls (.int z :: rest))) (T.setFrames fs) := by
  have hm' : T.vm.method? m = some meth := X.method'
  have hn : narrow .int (.int z) = .int z := rfl
  show Steps p.tables e below (T.setTop { method := m, pc := pc, locals := Ls, stack := _ :: rest, locked := none }) _
  jvm_step X.here [X.here.top, hx, hd, hm', hret, hn]
  first | (intro acts; rw [hl _ acts rfl rfl rfl]) | rw [hl _ _ rfl rfl rfl]
  exact Steps.refl _
end New
end Jvm.RoadKit
namespace Jvm.Pilot.@@N@@
open Jvm Jvm.ClassFile Sem Op Lib Jvm.Free Jvm.Stand Jvm.LawKit Jvm.RoadKit Bundle Jvm.Pilot.@@N@@.Jvm.D
section OwnKit
variable {p : Program} {l : Launch} {e : Env} {R : Room} {s : State} {m : MethodId} {args : Array Value} {below : List Frame} {meth : Method} {c : Code} {T : State} {locs : List Loc} {cells slots : Nat}
/-- from S the run comes to a return of which F holds -/
def Goes (tb : Tables) (e : Env) (below : List Frame) (s : State) (F : Option Value → Heap → List Loc → Prop) (k n : Nat) (S : State) : Prop :=
  ∃ s₂ o, Steps tb e below S s₂ ∧ s₂.status = .running ∧ Ended s₂ below o ∧ ∃ v L, o = .returned v ∧ F v s₂.heap L ∧ FrameEnd s o s₂ L k n
theorem Goes.of {tb : Tables} {F : Option Value → Heap → List Loc → Prop} {k n : Nat} {S S' : State} (h : ∀ t, Steps tb e below S' t → Steps tb e below S t) (g : Goes tb e below s F k n S') : Goes tb e below s F k n S := by
  obtain ⟨s₂, o, h1, r⟩ := g
  exact ⟨s₂, o, h _ h1, r⟩
theorem Goes.mono {tb : Tables} {F G : Option Value → Heap → List Loc → Prop} {k n : Nat} {S : State} (h : ∀ v h L, F v h L → G v h L) (g : Goes tb e below s F k n S) : Goes tb e below s G k n S := by
  obtain ⟨s₂, o, h1, h2, h3, v, L, h4, h5, h6⟩ := g
  exact ⟨s₂, o, h1, h2, h3, v, L, h4, h _ _ _ h5, h6⟩
theorem Goes.fin (X : Stand p l e R s m args below meth c T locs cells slots) (hlk : meth.locks = false) {v : Option Value} {F : Option Value → Heap → List Loc → Prop} {k n : Nat} {S : State} (hv : meth.sig.returnType = none → v = none)
    (step : ∀ fs, (∀ (f : JFrame) (acts : List Action), f.method = m → f.locked = none → f.entered = [] → (doReturn e (T.setTop f) acts v).1 = T.setFrames fs) → Steps p.tables e below S (T.setFrames fs)) (hF : F v T.heap locs) (hk : cells ≤ k) (hn : slots ≤ n) : Goes p.tables e below s F k n S := by
  obtain ⟨fs, hr, hrun, hended, hW, hsame⟩ := X.leave hv hlk
  exact ⟨_, _, step fs hr, hrun, hended, v, locs, rfl, hF, ⟨_, rfl⟩, hW, hsame.mono hk hn⟩
end OwnKit
section OwnArr
variable {p : Program} {l : Launch} {e : Env} {R : Room} {s : State} {m : MethodId} {args : Array Value} {below : List Frame} {meth : Method} {c : Code} {T : State} {locs : List Loc} {cells slots : Nat} {Z : State} {h h' : Heap} {a b : Addr} {ty : FieldType} {n i : Nat} {f : Nat → Int32} {ws : List Addr} {sl : Nat} {w : Value}
/-- at a stands an array of n places; place j holds f j -/
def AI (Z : State) (h : Heap) (a : Addr) (ty : FieldType) (n : Nat) (f : Nat → Int32) : Prop :=
  ∃ c : Cell, Arr Z h a c ty ∧ c.slots.size = n ∧ n < 2147483648 ∧ ∀ j, j < n → c.slots[j]? = some (.int (f j)) ∧ fits ty (.int (f j)) = true
def upd (f : Nat → Int32) (i : Nat) (v : Int32) : Nat → Int32 := fun j => if j = i then v else f j
theorem AI.lt (F : AI Z h a ty n f) : a < h.size := by obtain ⟨c, A, -⟩ := F; exact A.lt
theorem AI.ext (F : AI Z h a ty n f) (E : Ext h h') : AI Z h' a ty n f := by obtain ⟨c, A, r⟩ := F; exact ⟨c, A.ext E, r⟩
theorem AI.other (F : AI Z h a ty n f) (W : Wr h h' b sl w) (q : a ≠ b) : AI Z h' a ty n f := by obtain ⟨c, A, r⟩ := F; exact ⟨c, A.other W q, r⟩
theorem AI.keep (F : AI Z h a ty n f) (K : Keep h h' ws) (q : a ∉ ws) : AI Z h' a ty n f := by obtain ⟨c, A, r⟩ := F; exact ⟨c, ⟨K.2.1 a c A.1 q, A.2⟩, r⟩
theorem AI.congr {f' : Nat → Int32} (F : AI Z h a ty n f) (q : ∀ j, j < n → f j = f' j) : AI Z h a ty n f' := by
  obtain ⟨c, A, S, M, H⟩ := F
  exact ⟨c, A, S, M, fun j hj => by rw [← q j hj]; exact H j hj⟩
theorem AI.fits (F : AI Z h a ty n f) {j : Nat} (hj : j < n) : Jvm.fits ty (.int (f j)) = true := by
  obtain ⟨c, A, S, M, H⟩ := F
  exact (H j hj).2
theorem AI.new {cA : ClassId} {z : Int32} (hd : defaultValue ty = .int 0) (hf : Jvm.fits ty (.int 0) = true) (A : Arr Z h a (newA cA ty z) ty) (q : ¬ z < 0) (hn : z.toNatClampNeg = n) : AI Z h a ty n (fun _ => 0) := by
  subst hn
  refine ⟨_, A, sz_new _ _ _, (back32 q).2, fun j hj => ⟨?_, hf⟩⟩
  show (Array.replicate z.toNatClampNeg (defaultValue ty))[j]? = _
  rw [hd, Array.getElem?_replicate, if_pos hj]
theorem AI.set {v : Int32} (F : AI Z h a ty n f) (W : Wr h h' a i (.int v)) (hv : Jvm.fits ty (.int v) = true) : AI Z h' a ty n (upd f i v) := by
  obtain ⟨c, A, S, M, H⟩ := F
  refine ⟨c.setSlot i (.int v), A.same W, by rw [sz_set]; exact S, M, fun j hj => ?_⟩
  show (c.slots.setIfInBounds i (.int v))[j]? = _ ∧ _
  by_cases q : j = i
  · subst q
    rw [Array.getElem?_setIfInBounds_self_of_lt (by omega)]
    have e : upd f j v j = v := if_pos rfl
    rw [e]; exact ⟨rfl, hv⟩
  · rw [Array.getElem?_setIfInBounds_ne (Ne.symm q)]
    have e : upd f i v j = f j := if_neg q
    rw [e]; exact H j hj
theorem own_nn {j : Int32} (h : 0 ≤ j.toInt) : ¬ j < 0 := by
  rw [Int32.lt_iff_toInt_lt, show (0 : Int32).toInt = 0 from rfl]; omega
theorem own_ltn {j : Int32} {n : Nat} (h0 : 0 ≤ j.toInt) (h : j.toInt < n) : j.toNatClampNeg < n := by
  simp only [Int32.toNatClampNeg]; omega
theorem own_tn {z : Int32} {n : Nat} (h : z.toInt = n) : z.toNatClampNeg = n := by
  simp only [Int32.toNatClampNeg]; omega
theorem own_inc {i : Int32} (h : i.toInt < 2147483647) : (i + (1 : Int32)).toInt = i.toInt + 1 := by
  have a := c_iadd i 1
  have r := rng32 (i + 1)
  have r2 := rng32 i
  rw [show (1 : Int32).toInt = 1 from rfl] at a
  omega
theorem own_ilt {a b : Int32} (h : a.toInt < b.toInt) : a < b := by rw [Int32.lt_iff_toInt_lt]; exact h
theorem own_nlt {a b : Int32} (h : b.toInt ≤ a.toInt) : ¬ a < b := by rw [Int32.lt_iff_toInt_lt]; omega
theorem own_ltI {a b : Int32} (h : a < b) : a.toInt < b.toInt := Int32.lt_iff_toInt_lt.mp h
theorem own_geI {a b : Int32} (h : ¬ a < b) : b.toInt ≤ a.toInt := by rw [Int32.lt_iff_toInt_lt] at h; omega
theorem own_neI {a b : Int32} (h : ¬ a = b) : a.toInt ≠ b.toInt := fun q => h (Int32.toInt_inj.mp q)
theorem own_turn {G : Nat → Int32} {n k i : Nat} {w : Int32} (hi : i + (k + 1) = n) (hw : w = G i) : ∀ j, j < n → upd (fun j => if j + (k + 1) < n then G j else 0) i w j = if j + k < n then G j else 0 := by
  intro j hj
  by_cases q : j = i
  · subst q
    rw [if_pos (by omega)]
    exact (if_pos rfl).trans hw
  · refine (if_neg q).trans ?_
    by_cases r : j + (k + 1) < n
    · show (if _ then _ else _) = _
      rw [if_pos r, if_pos (by omega)]
    · show (if _ then _ else _) = _
      rw [if_neg r, if_neg (by omega)]
theorem own_turn2 {D : Nat → Int32} {n k i : Nat} {w : Int32} (hi : i + (k + 1) = n) : ∀ j, j < n → upd (fun j => if j + (k + 1) < n then w else D j) i w j = if j + k < n then w else D j := by
  intro j hj
  by_cases q : j = i
  · subst q
    rw [if_pos (by omega)]
    exact if_pos rfl
  · refine (if_neg q).trans ?_
    by_cases r : j + (k + 1) < n
    · show (if _ then _ else _) = _
      rw [if_pos r, if_pos (by omega)]
    · show (if _ then _ else _) = _
      rw [if_neg r, if_neg (by omega)]
theorem own_in {cl : Cell} {j : Int32} (S : cl.slots.size = n) (h0 : ¬ j < 0) (hi : j.toNatClampNeg = i) (hn : i < n) : ¬ (j < 0 ∨ cl.slots.size ≤ j.toNatClampNeg) := by
  rintro (q | q)
  · exact h0 q
  · omega
theorem ldI (X : Stand p l e R s m args below meth c T locs cells slots) (hx : p.tables.exec = Jvm.exec) (hZ : Z.Warmed39 s.vm) (eT : T.heap = h) (F : AI Z h a .int n f) {j v : Int32} (h0 : ¬ j < 0) (hi : j.toNatClampNeg = i) (hn : i < n) (hv : f i = v) {g : JFrame} (hg : g.method = m) {rest : List Value} (hs : g.stack = .int j :: .ref a :: rest) (hd : decode c.code g.pc = .ok (.iaload, 1)) (t : State)
    (k : Steps p.tables e below (T.setTop { g with pc := g.pc + 1, stack := .int v :: rest }) t) : Steps p.tables e below (T.setTop g) t := by
  obtain ⟨cl, A, S, M, H⟩ := F
  exact X.iaload hx (j := j) (v := .int v) (by rw [eT]; exact A.1) (State.isArrayOf_alike hZ.alike A.2.1) A.2.2 (own_in S h0 hi hn) (by rw [hi, (H i hn).1, hv]) hg hs hd t k
theorem ldB (X : Stand p l e R s m args below meth c T locs cells slots) (hx : p.tables.exec = Jvm.exec) (hZ : Z.Warmed39 s.vm) (eT : T.heap = h) (F : AI Z h a .byte n f) {j v : Int32} (h0 : ¬ j < 0) (hi : j.toNatClampNeg = i) (hn : i < n) (hv : f i = v) {g : JFrame} (hg : g.method = m) {rest : List Value} (hs : g.stack = .int j :: .ref a :: rest) (hd : decode c.code g.pc = .ok (.baload, 1)) (t : State)
    (k : Steps p.tables e below (T.setTop { g with pc := g.pc + 1, stack := .int v :: rest }) t) : Steps p.tables e below (T.setTop g) t := by
  obtain ⟨cl, A, S, M, H⟩ := F
  exact X.baloadBytes hx (j := j) (v := .int v) (by rw [eT]; exact A.1) (State.isArrayOf_alike hZ.alike A.2.1) A.2.2 (own_in S h0 hi hn) (by rw [hi, (H i hn).1, hv]) hg hs hd t k
theorem ldZ (X : Stand p l e R s m args below meth c T locs cells slots) (hx : p.tables.exec = Jvm.exec) (hZ : Z.Warmed39 s.vm) (eT : T.heap = h) (F : AI Z h a .boolean n f) {j v : Int32} (h0 : ¬ j < 0) (hi : j.toNatClampNeg = i) (hn : i < n) (hv : f i = v) {g : JFrame} (hg : g.method = m) {rest : List Value} (hs : g.stack = .int j :: .ref a :: rest) (hd : decode c.code g.pc = .ok (.baload, 1)) (t : State)
    (k : Steps p.tables e below (T.setTop { g with pc := g.pc + 1, stack := .int v :: rest }) t) : Steps p.tables e below (T.setTop g) t := by
  obtain ⟨cl, A, S, M, H⟩ := F
  exact X.baloadBooleans hx (j := j) (v := .int v) (by rw [eT]; exact A.1) (State.isArrayOf_alike hZ.alike A.2.1) A.2.2 (own_in S h0 hi hn) (by rw [hi, (H i hn).1, hv]) hg hs hd t k
theorem putI (X : Stand p l e R s m args below meth c T locs cells slots) (hx : p.tables.exec = Jvm.exec) (hZ : Z.Warmed39 s.vm) (eT : T.heap = h) (F : AI Z h a .int n f) {j x : Int32} (h0 : ¬ j < 0) (hi : j.toNatClampNeg = i) (hn : i < n) {g : JFrame} (hg : g.method = m) {rest : List Value} (hs : g.stack = .int x :: .int j :: .ref a :: rest) (hd : decode c.code g.pc = .ok (.iastore, 1)) :
    ∃ T' h', Stand p l e R s m args below meth c T' (locs ++ [⟨a, i⟩]) cells slots ∧ T'.heap = h' ∧ Wr h h' a i (.int x) ∧ AI Z h' a .int n (upd f i x) ∧ ∀ t, Steps p.tables e below (T'.setTop { g with pc := g.pc + 1, stack := rest }) t → Steps p.tables e below (T.setTop g) t := by
  have F0 := F
  obtain ⟨cl, A, S, M, H⟩ := F
  subst hi
  obtain ⟨T', h', X', e', W, st⟩ := stI X hx hZ eT A (own_in S h0 rfl hn) hg hs hd
  exact ⟨T', h', X', e', W, F0.set W rfl, st⟩
theorem putB (X : Stand p l e R s m args below meth c T locs cells slots) (hx : p.tables.exec = Jvm.exec) (hZ : Z.Warmed39 s.vm) (eT : T.heap = h) (F : AI Z h a .byte n f) {j x : Int32} (h0 : ¬ j < 0) (hi : j.toNatClampNeg = i) (hn : i < n) {g : JFrame} (hg : g.method = m) {rest : List Value} (hs : g.stack = .int x :: .int j :: .ref a :: rest) (hd : decode c.code g.pc = .ok (.bastore, 1)) :
    ∃ T' h', Stand p l e R s m args below meth c T' (locs ++ [⟨a, i⟩]) cells slots ∧ T'.heap = h' ∧ Wr h h' a i (.int x.toInt8.toInt32) ∧ AI Z h' a .byte n (upd f i x.toInt8.toInt32) ∧ ∀ t, Steps p.tables e below (T'.setTop { g with pc := g.pc + 1, stack := rest }) t → Steps p.tables e below (T.setTop g) t := by
  have F0 := F
  obtain ⟨cl, A, S, M, H⟩ := F
  subst hi
  obtain ⟨T', h', X', e', W, st⟩ := stB X hx hZ eT A (own_in S h0 rfl hn) hg hs hd
  exact ⟨T', h', X', e', W, F0.set W (fits_nar_byte x), st⟩
theorem putZ (X : Stand p l e R s m args below meth c T locs cells slots) (hx : p.tables.exec = Jvm.exec) (hZ : Z.Warmed39 s.vm) (eT : T.heap = h) (F : AI Z h a .boolean n f) {j x : Int32} (h0 : ¬ j < 0) (hi : j.toNatClampNeg = i) (hn : i < n) {g : JFrame} (hg : g.method = m) {rest : List Value} (hs : g.stack = .int x :: .int j :: .ref a :: rest) (hd : decode c.code g.pc = .ok (.bastore, 1)) :
    ∃ T' h', Stand p l e R s m args below meth c T' (locs ++ [⟨a, i⟩]) cells slots ∧ T'.heap = h' ∧ Wr h h' a i (.int (x &&& 1)) ∧ AI Z h' a .boolean n (upd f i (x &&& 1)) ∧ ∀ t, Steps p.tables e below (T'.setTop { g with pc := g.pc + 1, stack := rest }) t → Steps p.tables e below (T.setTop g) t := by
  have F0 := F
  obtain ⟨cl, A, S, M, H⟩ := F
  subst hi
  obtain ⟨T', h', X', e', W, st⟩ := stZ X hx hZ eT A (own_in S h0 rfl hn) hg hs hd
  exact ⟨T', h', X', e', W, F0.set W (fits_nar_bool x), st⟩
theorem lenA (X : Stand p l e R s m args below meth c T locs cells slots) (hx : p.tables.exec = Jvm.exec) (hZ : Z.Warmed39 s.vm) (eT : T.heap = h) (F : AI Z h a ty n f) {z : Int32} (hz : z.toInt = n) {g : JFrame} (hg : g.method = m) {rest : List Value} (hs : g.stack = .ref a :: rest) (hd : decode c.code g.pc = .ok (.arraylength, 1)) (t : State)
    (k : Steps p.tables e below (T.setTop { g with pc := g.pc + 1, stack := .int z :: rest }) t) : Steps p.tables e below (T.setTop g) t := by
  obtain ⟨cl, A, S, M, H⟩ := F
  have e1 : cl.slots.size.toInt32 = z := by rw [S]; exact Int32.toInt_inj.mp (by rw [len_toInt M, hz])
  exact X.arraylength hx (by rw [eT]; exact A.1) (State.isArrayOf_alike hZ.alike A.2.1) hg hs hd t (by rw [e1]; exact k)
end OwnArr
theorem d2_0 : decode jdk_29_method_70_code 0 = .ok (.lload_n 0, 1) := by decide +kernel
theorem d2_1 : decode jdk_29_method_70_code 1 = .ok (.lload_n 2, 1) := by decide +kernel
theorem d2_2 : decode jdk_29_method_70_code 2 = .ok (.lcmp, 1) := by decide +kernel
theorem d2_3 : decode jdk_29_method_70_code 3 = .ok (.ifCond .gt 7, 3) := by decide +kernel
theorem d2_6 : decode jdk_29_method_70_code 6 = .ok (.lload_n 0, 1) := by decide +kernel
theorem d2_7 : decode jdk_29_method_70_code 7 = .ok (.goto 4, 3) := by decide +kernel
theorem d2_10 : decode jdk_29_method_70_code 10 = .ok (.lload_n 2, 1) := by decide +kernel
theorem d2_11 : decode jdk_29_method_70_code 11 = .ok (.lreturn, 1) := by decide +kernel
theorem ef_2 (m : MethodId) (q0 : Int64) (q1 : Int64) : entryFrame m #[(.long q0), (.long q1)] 4 = mkF m 0 #[.val (.long q0), .second, .val (.long q1), .second] [] := by first | (simp [entryFrame, mkF, argsToLocals, Value.category]; done) | rfl
def f2 (q0 : Int64) (q1 : Int64) : Int64 :=
  (if q1 < q0 then q1
  else q0)
def Q2 (q0 : Int64) (q1 : Int64) (h0 : Heap) (n0 : Nat) (v : Option Value) (h : Heap) (L : List Loc) : Prop := v = some (.long (f2 q0 q1)) ∧ Fr n0 L ∧ h = h0
set_option maxRecDepth 65536 in
set_option maxHeartbeats 40000000 in
theorem rm2 (l : Launch) (Z : State) (a0 : Array Value) (hw : ∀ d ∈ tables_1, d.before a0 Z = true) (ws : List Jvm.Cond) (q0 : Int64) (q1 : Int64) (h0 : Heap) (n0 : Nat) :
    MetFree l (⟨"java/lang/Math", "min", "(JJ)J"⟩ : MethodName) (head1 (Jvm.Cond.code (⟨"java/lang/Math", "min", "(JJ)J"⟩ : MethodName) jdk_29_method_70_code 4 (some .long) :: ws) ({ frames := 0, cells := 0, slots := 0, locals := 0 } : Room)) (fun ar' Ur => ar' = #[(.long q0), (.long q1)] ∧ Z.Warmed39 Ur.vm ∧ Ur.heap = h0) (fun _ _ _ _ _ => True) (fun _ Ur or' Us => ∃ v L, or' = .returned v ∧ Q2 q0 q1 h0 n0 v Us.heap L ∧ FrameEnd Ur or' Us L 0 0) := by
  refine MetFree.of_bodySF (Jvm.Free.JP.mathPlain rfl (by decide +kernel)) hisR ?_
  intro p e s m args below meth c s₁ Bd hml0 hP hK
  obtain ⟨rfl, hZ, hh⟩ := hP
  have hx := Bd.exec
  have hby := Bd.bytes
  have hlk : meth.locks = false := BodyLoose.notSynchronized Bd
  have hml : c.maxLocals = 4 := hml0
  have hown : s.vm.findClass "java/lang/Math" = some m.cls := findClass_of_methodNamed Bd.named
  have X0 : Stand p l e ({ frames := 0, cells := 0, slots := 0, locals := 0 } : Room) s m #[(.long q0), (.long q1)] below meth c s₁ [] 0 0 := Stand.of_body Bd
  have e0 : s₁.heap = h0 := by rw [← hh, Bd.state]; rfl
  have N0 := Fr.nil n0
  show Goes p.tables e below s (Q2 q0 q1 h0 n0) 0 0 (s₁.setTop (entryFrame m #[(.long q0), (.long q1)] 4))
  refine Goes.of (fun t k => castTop (ef_2 m q0 q1) k) ?_
  show Goes _ _ _ _ _ _ _ (s₁.setTop (mkF m 0 #[.val (.long q0), .second, .val (.long q1), .second] []))
  refine Goes.of (fun t k => XS.lloadN X0.here hx rfl (hb hby d2_0) rfl k) ?_
  show Goes _ _ _ _ _ _ _ (s₁.setTop (mkF m 1 #[.val (.long q0), .second, .val (.long q1), .second] [(.long q0)]))
  refine Goes.of (fun t k => XS.lloadN X0.here hx rfl (hb hby d2_1) rfl k) ?_
  show Goes _ _ _ _ _ _ _ (s₁.setTop (mkF m 2 #[.val (.long q0), .second, .val (.long q1), .second] [(.long q1), (.long q0)]))
  refine Goes.of (fun t k => XS.lcmp X0.here hx rfl (hb hby d2_2) rfl k) ?_
  show Goes _ _ _ _ _ _ _ (s₁.setTop (mkF m 3 #[.val (.long q0), .second, .val (.long q1), .second] [(.int (lcmpW q0 q1))]))
  by_cases hc1 : q1 < q0
  · refine Goes.of (fun t k => XS.ifYes X0.here hx rfl (pc0 := 3) (pc' := 10) rfl (hb hby d2_3) rfl ((if0 _ _).trans (tlt ((lw_gt _ _).mpr hc1)).2.2.1) (by decide) (by decide) k) ?_
    show Goes _ _ _ _ _ _ _ (s₁.setTop (mkF m 10 #[.val (.long q0), .second, .val (.long q1), .second] []))
    refine Goes.of (fun t k => XS.lloadN X0.here hx rfl (hb hby d2_10) rfl k) ?_
    show Goes _ _ _ _ _ _ _ (s₁.setTop (mkF m 11 #[.val (.long q0), .second, .val (.long q1), .second] [(.long q1)]))
    exact Goes.fin X0 hlk (v := some (.long q1)) (fun h => by rw [Bd.returns] at h; cases h) (fun fs hr => retOut X0 hx Bd.returns (by rfl) (Or.inr (Or.inl ⟨rfl, rfl, _, rfl⟩)) (hb hby d2_11) hr) ⟨congrArg (fun z => some (Value.long z)) (by rw [f2, if_pos hc1] : q1 = f2 q0 q1), N0, e0⟩ (by decide) (by decide)
  · refine Goes.of (fun t k => XS.ifNo X0.here hx rfl (hb hby d2_3) rfl ((if0 _ _).trans (flt (fun q => hc1 ((lw_gt _ _).mp q))).2.2.1) k) ?_
    show Goes _ _ _ _ _ _ _ (s₁.setTop (mkF m 6 #[.val (.long q0), .second, .val (.long q1), .second] []))
    refine Goes.of (fun t k => XS.lloadN X0.here hx rfl (hb hby d2_6) rfl k) ?_
    show Goes _ _ _ _ _ _ _ (s₁.setTop (mkF m 7 #[.val (.long q0), .second, .val (.long q1), .second] [(.long q0)]))
    refine Goes.of (fun t k => XS.goto X0.here hx rfl (pc0 := 7) (pc' := 11) rfl (hb hby d2_7) (by decide) (by decide) k) ?_
    show Goes _ _ _ _ _ _ _ (s₁.setTop (mkF m 11 #[.val (.long q0), .second, .val (.long q1), .second] [(.long q0)]))
    exact Goes.fin X0 hlk (v := some (.long q0)) (fun h => by rw [Bd.returns] at h; cases h) (fun fs hr => retOut X0 hx Bd.returns (by rfl) (Or.inr (Or.inl ⟨rfl, rfl, _, rfl⟩)) (hb hby d2_11) hr) ⟨congrArg (fun z => some (Value.long z)) (by rw [f2, if_neg hc1] : q0 = f2 q0 q1), N0, e0⟩ (by decide) (by decide)
theorem d1_0 : decode method_2_code 0 = .ok (.iload_n 0, 1) := by decide +kernel
theorem d1_1 : decode method_2_code 1 = .ok (.i2l, 1) := by decide +kernel
theorem d1_2 : decode method_2_code 2 = .ok (.iload_n 1, 1) := by decide +kernel
theorem d1_3 : decode method_2_code 3 = .ok (.iconst 3, 1) := by decide +kernel
theorem d1_4 : decode method_2_code 4 = .ok (.iload_n 2, 1) := by decide +kernel
theorem d1_5 : decode method_2_code 5 = .ok (.imul, 1) := by decide +kernel
theorem d1_6 : decode method_2_code 6 = .ok (.iushr, 1) := by decide +kernel
theorem d1_7 : decode method_2_code 7 = .ok (.bipush 7, 2) := by decide +kernel
theorem d1_9 : decode method_2_code 9 = .ok (.iand, 1) := by decide +kernel
theorem d1_10 : decode method_2_code 10 = .ok (.i2l, 1) := by decide +kernel
theorem d1_11 : decode method_2_code 11 = .ok (.ladd, 1) := by decide +kernel
theorem d1_12 : decode method_2_code 12 = .ok (.lstore_n 3, 1) := by decide +kernel
theorem d1_13 : decode method_2_code 13 = .ok (.lload_n 3, 1) := by decide +kernel
theorem d1_14 : decode method_2_code 14 = .ok (.ldc2_w 9, 3) := by decide +kernel
theorem d1_17 : decode method_2_code 17 = .ok (.invokestatic 11, 3) := by decide +kernel
theorem d1_20 : decode method_2_code 20 = .ok (.l2i, 1) := by decide +kernel
theorem d1_21 : decode method_2_code 21 = .ok (.ireturn, 1) := by decide +kernel
theorem pn_0 : plainName "com/example/orderly_twig/orderlytwig/engine/AscendingSearchFirstAtLeastPinLaw" = true := by first | (simp [plainName, overriddenIn]; done) | decide +kernel
theorem pd_0 : parseMethodDescriptor "(JJ)J" = some ⟨[.long, .long], some .long⟩ := by decide +kernel
theorem ef_1 (m : MethodId) (v0 : Int32) (v1 : Int32) (v2 : Int32) : entryFrame m #[(.int v0), (.int v1), (.int v2)] 5 = mkF m 0 #[.val (.int v0), .val (.int v1), .val (.int v2), .unset, .unset] [] := by first | (simp [entryFrame, mkF, argsToLocals, Value.category]; done) | rfl
def f1 (v0 : Int32) (v1 : Int32) (v2 : Int32) : Int32 :=
  ((f2 ((v0.toInt64) + ((((v1.toUInt32 >>> (((3 : Int32) * v2) &&& 31).toUInt32).toInt32) &&& (7 : Int32)).toInt64)) (2147483647 : Int64)).toInt32)
def Q1 (v0 : Int32) (v1 : Int32) (v2 : Int32) (h0 : Heap) (n0 : Nat) (v : Option Value) (h : Heap) (L : List Loc) : Prop := v = some (.int (f1 v0 v1 v2)) ∧ Fr n0 L ∧ h = h0
set_option maxRecDepth 65536 in
set_option maxHeartbeats 40000000 in
theorem rm1 (l : Launch) (Z : State) (a0 : Array Value) (hw : ∀ d ∈ tables_1, d.before a0 Z = true) (ws : List Jvm.Cond) (v0 : Int32) (v1 : Int32) (v2 : Int32) (h0 : Heap) (n0 : Nat) :
    MetFree l (⟨"com/example/orderly_twig/orderlytwig/engine/AscendingSearchFirstAtLeastPinLaw", "next", "(III)I"⟩ : MethodName) (head1 (Jvm.Cond.code (⟨"com/example/orderly_twig/orderlytwig/engine/AscendingSearchFirstAtLeastPinLaw", "next", "(III)I"⟩ : MethodName) method_2_code 5 (some .int) :: ws) ({ frames := 1, cells := 0, slots := 0, locals := 15 } : Room)) (fun ar' Ur => ar' = #[(.int v0), (.int v1), (.int v2)] ∧ Z.Warmed39 Ur.vm ∧ Ur.heap = h0) (fun _ _ _ _ _ => True) (fun _ Ur or' Us => ∃ v L, or' = .returned v ∧ Q1 v0 v1 v2 h0 n0 v Us.heap L ∧ FrameEnd Ur or' Us L 0 0) := by
  refine MetFree.of_bodySF (plainFor_of_name pn_0) hisR ?_
  intro p e s m args below meth c s₁ Bd hml0 hP hK
  obtain ⟨rfl, hZ, hh⟩ := hP
  have hx := Bd.exec
  have hby := Bd.bytes
  have hlk : meth.locks = false := BodyLoose.notSynchronized Bd
  have hml : c.maxLocals = 5 := hml0
  have hown : s.vm.findClass "com/example/orderly_twig/orderlytwig/engine/AscendingSearchFirstAtLeastPinLaw" = some m.cls := findClass_of_methodNamed Bd.named
  have X0 : Stand p l e ({ frames := 1, cells := 0, slots := 0, locals := 15 } : Room) s m #[(.int v0), (.int v1), (.int v2)] below meth c s₁ [] 0 0 := Stand.of_body Bd
  have e0 : s₁.heap = h0 := by rw [← hh, Bd.state]; rfl
  have N0 := Fr.nil n0
  show Goes p.tables e below s (Q1 v0 v1 v2 h0 n0) 0 0 (s₁.setTop (entryFrame m #[(.int v0), (.int v1), (.int v2)] 5))
  refine Goes.of (fun t k => castTop (ef_1 m v0 v1 v2) k) ?_
  show Goes _ _ _ _ _ _ _ (s₁.setTop (mkF m 0 #[.val (.int v0), .val (.int v1), .val (.int v2), .unset, .unset] []))
  refine Goes.of (fun t k => XS.iloadN X0.here hx rfl (hb hby d1_0) rfl k) ?_
  show Goes _ _ _ _ _ _ _ (s₁.setTop (mkF m 1 #[.val (.int v0), .val (.int v1), .val (.int v2), .unset, .unset] [(.int v0)]))
  refine Goes.of (fun t k => XS.i2l X0.here hx rfl (hb hby d1_1) rfl k) ?_
  show Goes _ _ _ _ _ _ _ (s₁.setTop (mkF m 2 #[.val (.int v0), .val (.int v1), .val (.int v2), .unset, .unset] [(.long (v0.toInt64))]))
  refine Goes.of (fun t k => XS.iloadN X0.here hx rfl (hb hby d1_2) rfl k) ?_
  show Goes _ _ _ _ _ _ _ (s₁.setTop (mkF m 3 #[.val (.int v0), .val (.int v1), .val (.int v2), .unset, .unset] [(.int v1), (.long (v0.toInt64))]))
  refine Goes.of (fun t k => XS.iconst X0.here hx rfl (hb hby d1_3) k) ?_
  show Goes _ _ _ _ _ _ _ (s₁.setTop (mkF m 4 #[.val (.int v0), .val (.int v1), .val (.int v2), .unset, .unset] [(.int (3 : Int32)), (.int v1), (.long (v0.toInt64))]))
  refine Goes.of (fun t k => XS.iloadN X0.here hx rfl (hb hby d1_4) rfl k) ?_
  show Goes _ _ _ _ _ _ _ (s₁.setTop (mkF m 5 #[.val (.int v0), .val (.int v1), .val (.int v2), .unset, .unset] [(.int v2), (.int (3 : Int32)), (.int v1), (.long (v0.toInt64))]))
  refine Goes.of (fun t k => XS.imul X0.here hx rfl (hb hby d1_5) rfl k) ?_
  show Goes _ _ _ _ _ _ _ (s₁.setTop (mkF m 6 #[.val (.int v0), .val (.int v1), .val (.int v2), .unset, .unset] [(.int ((3 : Int32) * v2)), (.int v1), (.long (v0.toInt64))]))
  refine Goes.of (fun t k => XS.iushr X0.here hx rfl (hb hby d1_6) rfl k) ?_
  show Goes _ _ _ _ _ _ _ (s₁.setTop (mkF m 7 #[.val (.int v0), .val (.int v1), .val (.int v2), .unset, .unset] [(.int ((v1.toUInt32 >>> (((3 : Int32) * v2) &&& 31).toUInt32).toInt32)), (.long (v0.toInt64))]))
  refine Goes.of (fun t k => XS.bipush X0.here hx rfl (hb hby d1_7) k) ?_
  show Goes _ _ _ _ _ _ _ (s₁.setTop (mkF m 9 #[.val (.int v0), .val (.int v1), .val (.int v2), .unset, .unset] [(.int (7 : Int32)), (.int ((v1.toUInt32 >>> (((3 : Int32) * v2) &&& 31).toUInt32).toInt32)), (.long (v0.toInt64))]))
  refine Goes.of (fun t k => XS.iand X0.here hx rfl (hb hby d1_9) rfl k) ?_
  show Goes _ _ _ _ _ _ _ (s₁.setTop (mkF m 10 #[.val (.int v0), .val (.int v1), .val (.int v2), .unset, .unset] [(.int (((v1.toUInt32 >>> (((3 : Int32) * v2) &&& 31).toUInt32).toInt32) &&& (7 : Int32))), (.long (v0.toInt64))]))
  refine Goes.of (fun t k => XS.i2l X0.here hx rfl (hb hby d1_10) rfl k) ?_
  show Goes _ _ _ _ _ _ _ (s₁.setTop (mkF m 11 #[.val (.int v0), .val (.int v1), .val (.int v2), .unset, .unset] [(.long ((((v1.toUInt32 >>> (((3 : Int32) * v2) &&& 31).toUInt32).toInt32) &&& (7 : Int32)).toInt64)), (.long (v0.toInt64))]))
  refine Goes.of (fun t k => XS.ladd X0.here hx rfl (hb hby d1_11) rfl k) ?_
  show Goes _ _ _ _ _ _ _ (s₁.setTop (mkF m 12 #[.val (.int v0), .val (.int v1), .val (.int v2), .unset, .unset] [(.long ((v0.toInt64) + ((((v1.toUInt32 >>> (((3 : Int32) * v2) &&& 31).toUInt32).toInt32) &&& (7 : Int32)).toInt64)))]))
  refine Goes.of (fun t k => XS.lstoreN X0.here hx rfl (hb hby d1_12) rfl (l' := #[.val (.int v0), .val (.int v1), .val (.int v2), .val (.long ((v0.toInt64) + ((((v1.toUInt32 >>> (((3 : Int32) * v2) &&& 31).toUInt32).toInt32) &&& (7 : Int32)).toInt64))), .second]) rfl k) ?_
  show Goes _ _ _ _ _ _ _ (s₁.setTop (mkF m 13 #[.val (.int v0), .val (.int v1), .val (.int v2), .val (.long ((v0.toInt64) + ((((v1.toUInt32 >>> (((3 : Int32) * v2) &&& 31).toUInt32).toInt32) &&& (7 : Int32)).toInt64))), .second] []))
  refine Goes.of (fun t k => XS.lloadN X0.here hx rfl (hb hby d1_13) rfl k) ?_
  show Goes _ _ _ _ _ _ _ (s₁.setTop (mkF m 14 #[.val (.int v0), .val (.int v1), .val (.int v2), .val (.long ((v0.toInt64) + ((((v1.toUInt32 >>> (((3 : Int32) * v2) &&& 31).toUInt32).toInt32) &&& (7 : Int32)).toInt64))), .second] [(.long ((v0.toInt64) + ((((v1.toUInt32 >>> (((3 : Int32) * v2) &&& 31).toUInt32).toInt32) &&& (7 : Int32)).toInt64)))]))
  refine Goes.of (fun t k => X0.ldc2Long hx hown (mvT hZ (hw _ (List.mem_of_getElem? (i := 5) rfl))) (g := (mkF m 14 #[.val (.int v0), .val (.int v1), .val (.int v2), .val (.long ((v0.toInt64) + ((((v1.toUInt32 >>> (((3 : Int32) * v2) &&& 31).toUInt32).toInt32) &&& (7 : Int32)).toInt64))), .second] [(.long ((v0.toInt64) + ((((v1.toUInt32 >>> (((3 : Int32) * v2) &&& 31).toUInt32).toInt32) &&& (7 : Int32)).toInt64)))])) rfl (hb hby d1_14) t k) ?_
  show Goes _ _ _ _ _ _ _ (s₁.setTop (mkF m 17 #[.val (.int v0), .val (.int v1), .val (.int v2), .val (.long ((v0.toInt64) + ((((v1.toUInt32 >>> (((3 : Int32) * v2) &&& 31).toUInt32).toInt32) &&& (7 : Int32)).toInt64))), .second] [(.long (2147483647 : Int64)), (.long ((v0.toInt64) + ((((v1.toUInt32 >>> (((3 : Int32) * v2) &&& 31).toUInt32).toInt32) &&& (7 : Int32)).toInt64)))]))
  obtain ⟨_, _, ⟨T2, L2, k2, n2⟩, -, X2, ⟨Lc2, hQ2, l2, y2, z2⟩, st2⟩ := Jvm.LawKit.callS X0 hx (y := (⟨"java/lang/Math", "min", "(JJ)J"⟩ : MethodName)) hown (mvT hZ (hw _ (List.mem_of_getElem? (i := 6) rfl))) (mvT hZ (hw _ (List.mem_of_getElem? (i := 7) rfl))) (mvT hZ (hw _ (List.mem_of_getElem? (i := 8) rfl))) (mvT hZ (hw _ (List.mem_of_getElem? (i := 9) rfl))) (by decide) (backOf (W := 0) (rm2 l Z a0 hw [] ((v0.toInt64) + ((((v1.toUInt32 >>> (((3 : Int32) * v2) &&& 31).toUInt32).toInt32) &&& (7 : Int32)).toInt64)) (2147483647 : Int64) h0 n0) hZ (hw _ (List.mem_of_getElem? (i := 9) rfl)) (hw _ (List.mem_of_getElem? (i := 8) rfl)) (by decide) (by decide)) (g := (mkF m 17 #[.val (.int v0), .val (.int v1), .val (.int v2), .val (.long ((v0.toInt64) + ((((v1.toUInt32 >>> (((3 : Int32) * v2) &&& 31).toUInt32).toInt32) &&& (7 : Int32)).toInt64))), .second] [(.long (2147483647 : Int64)), (.long ((v0.toInt64) + ((((v1.toUInt32 >>> (((3 : Int32) * v2) &&& 31).toUInt32).toInt32) &&& (7 : Int32)).toInt64)))])) rfl (by rw [hml]; rfl) (argsL := [(.long ((v0.toInt64) + ((((v1.toUInt32 >>> (((3 : Int32) * v2) &&& 31).toUInt32).toInt32) &&& (7 : Int32)).toInt64))), (.long (2147483647 : Int64))]) (rest := []) (lenOf pd_0 rfl) rfl (by show 2 * 0 + _ ≤ _; exact Nat.le_of_eq rfl) (hb hby d1_17) (fun _ _ => ⟨rfl, e0, (by decide : 0 + 0 ≤ _), (by decide : 0 + 0 ≤ _)⟩)
  dsimp only [Pt.U, Pt.locs, Pt.cells, Pt.slots] at X2 l2 y2 z2 st2 hQ2
  replace l2 := l2.symm
  replace y2 := y2.symm
  replace z2 := z2.symm
  subst l2 y2 z2
  obtain ⟨rfl, N2q, e2⟩ := hQ2
  have N2 := Fr.app N0 N2q
  refine Goes.of st2 ?_
  show Goes _ _ _ _ _ _ _ (T2.setTop (mkF m 20 #[.val (.int v0), .val (.int v1), .val (.int v2), .val (.long ((v0.toInt64) + ((((v1.toUInt32 >>> (((3 : Int32) * v2) &&& 31).toUInt32).toInt32) &&& (7 : Int32)).toInt64))), .second] [(.long (f2 ((v0.toInt64) + ((((v1.toUInt32 >>> (((3 : Int32) * v2) &&& 31).toUInt32).toInt32) &&& (7 : Int32)).toInt64)) (2147483647 : Int64)))]))
  refine Goes.of (fun t k => XS.l2i X2.here hx rfl (hb hby d1_20) rfl k) ?_
  show Goes _ _ _ _ _ _ _ (T2.setTop (mkF m 21 #[.val (.int v0), .val (.int v1), .val (.int v2), .val (.long ((v0.toInt64) + ((((v1.toUInt32 >>> (((3 : Int32) * v2) &&& 31).toUInt32).toInt32) &&& (7 : Int32)).toInt64))), .second] [(.int ((f2 ((v0.toInt64) + ((((v1.toUInt32 >>> (((3 : Int32) * v2) &&& 31).toUInt32).toInt32) &&& (7 : Int32)).toInt64)) (2147483647 : Int64)).toInt32))]))
  exact Goes.fin X2 hlk (v := some (.int ((f2 ((v0.toInt64) + ((((v1.toUInt32 >>> (((3 : Int32) * v2) &&& 31).toUInt32).toInt32) &&& (7 : Int32)).toInt64)) (2147483647 : Int64)).toInt32))) (fun h => by rw [Bd.returns] at h; cases h) (fun fs hr => retI X2 hx Bd.returns (hb hby d1_21) hr) ⟨congrArg (fun z => some (Value.int z)) (by rw [f1] : ((f2 ((v0.toInt64) + ((((v1.toUInt32 >>> (((3 : Int32) * v2) &&& 31).toUInt32).toInt32) &&& (7 : Int32)).toInt64)) (2147483647 : Int64)).toInt32) = f1 v0 v1 v2), N2, e2⟩ (by decide) (by decide)
theorem d3_0 : decode method_3_code 0 = .ok (.iload_n 1, 1) := by decide +kernel
theorem d3_1 : decode method_3_code 1 = .ok (.iload_n 2, 1) := by decide +kernel
theorem d3_2 : decode method_3_code 2 = .ok (.if_icmp .lt 10, 3) := by decide +kernel
theorem d3_5 : decode method_3_code 5 = .ok (.iload_n 1, 1) := by decide +kernel
theorem d3_6 : decode method_3_code 6 = .ok (.iload_n 3, 1) := by decide +kernel
theorem d3_7 : decode method_3_code 7 = .ok (.if_icmp .ge 5, 3) := by decide +kernel
theorem d3_10 : decode method_3_code 10 = .ok (.iload_n 0, 1) := by decide +kernel
theorem d3_11 : decode method_3_code 11 = .ok (.ireturn, 1) := by decide +kernel
theorem d3_12 : decode method_3_code 12 = .ok (.iload 4, 2) := by decide +kernel
theorem d3_14 : decode method_3_code 14 = .ok (.ireturn, 1) := by decide +kernel
theorem ef_3 (m : MethodId) (v0 : Int32) (v1 : Int32) (v2 : Int32) (v3 : Int32) (v4 : Int32) : entryFrame m #[(.int v0), (.int v1), (.int v2), (.int v3), (.int v4)] 5 = mkF m 0 #[.val (.int v0), .val (.int v1), .val (.int v2), .val (.int v3), .val (.int v4)] [] := by first | (simp [entryFrame, mkF, argsToLocals, Value.category]; done) | rfl
def f3 (v0 : Int32) (v1 : Int32) (v2 : Int32) (v3 : Int32) (v4 : Int32) : Int32 :=
  (if v1 < v2 then v4
  else (if v1 < v3 then v0
    else v4))
def Q3 (v0 : Int32) (v1 : Int32) (v2 : Int32) (v3 : Int32) (v4 : Int32) (h0 : Heap) (n0 : Nat) (v : Option Value) (h : Heap) (L : List Loc) : Prop := v = some (.int (f3 v0 v1 v2 v3 v4)) ∧ Fr n0 L ∧ h = h0
set_option maxRecDepth 65536 in
set_option maxHeartbeats 40000000 in
theorem rm3 (l : Launch) (Z : State) (a0 : Array Value) (hw : ∀ d ∈ tables_1, d.before a0 Z = true) (ws : List Jvm.Cond) (v0 : Int32) (v1 : Int32) (v2 : Int32) (v3 : Int32) (v4 : Int32) (h0 : Heap) (n0 : Nat) :
    MetFree l (⟨"com/example/orderly_twig/orderlytwig/engine/AscendingSearchFirstAtLeastPinLaw", "pick", "(IIIII)I"⟩ : MethodName) (head1 (Jvm.Cond.code (⟨"com/example/orderly_twig/orderlytwig/engine/AscendingSearchFirstAtLeastPinLaw", "pick", "(IIIII)I"⟩ : MethodName) method_3_code 5 (some .int) :: ws) ({ frames := 0, cells := 0, slots := 0, locals := 0 } : Room)) (fun ar' Ur => ar' = #[(.int v0), (.int v1), (.int v2), (.int v3), (.int v4)] ∧ Z.Warmed39 Ur.vm ∧ Ur.heap = h0) (fun _ _ _ _ _ => True) (fun _ Ur or' Us => ∃ v L, or' = .returned v ∧ Q3 v0 v1 v2 v3 v4 h0 n0 v Us.heap L ∧ FrameEnd Ur or' Us L 0 0) := by
  refine MetFree.of_bodySF (plainFor_of_name pn_0) hisR ?_
  intro p e s m args below meth c s₁ Bd hml0 hP hK
  obtain ⟨rfl, hZ, hh⟩ := hP
  have hx := Bd.exec
  have hby := Bd.bytes
  have hlk : meth.locks = false := BodyLoose.notSynchronized Bd
  have hml : c.maxLocals = 5 := hml0
  have hown : s.vm.findClass "com/example/orderly_twig/orderlytwig/engine/AscendingSearchFirstAtLeastPinLaw" = some m.cls := findClass_of_methodNamed Bd.named
  have X0 : Stand p l e ({ frames := 0, cells := 0, slots := 0, locals := 0 } : Room) s m #[(.int v0), (.int v1), (.int v2), (.int v3), (.int v4)] below meth c s₁ [] 0 0 := Stand.of_body Bd
  have e0 : s₁.heap = h0 := by rw [← hh, Bd.state]; rfl
  have N0 := Fr.nil n0
  show Goes p.tables e below s (Q3 v0 v1 v2 v3 v4 h0 n0) 0 0 (s₁.setTop (entryFrame m #[(.int v0), (.int v1), (.int v2), (.int v3), (.int v4)] 5))
  refine Goes.of (fun t k => castTop (ef_3 m v0 v1 v2 v3 v4) k) ?_
  show Goes _ _ _ _ _ _ _ (s₁.setTop (mkF m 0 #[.val (.int v0), .val (.int v1), .val (.int v2), .val (.int v3), .val (.int v4)] []))
  refine Goes.of (fun t k => XS.iloadN X0.here hx rfl (hb hby d3_0) rfl k) ?_
  show Goes _ _ _ _ _ _ _ (s₁.setTop (mkF m 1 #[.val (.int v0), .val (.int v1), .val (.int v2), .val (.int v3), .val (.int v4)] [(.int v1)]))
  refine Goes.of (fun t k => XS.iloadN X0.here hx rfl (hb hby d3_1) rfl k) ?_
  show Goes _ _ _ _ _ _ _ (s₁.setTop (mkF m 2 #[.val (.int v0), .val (.int v1), .val (.int v2), .val (.int v3), .val (.int v4)] [(.int v2), (.int v1)]))
  by_cases hc3 : v1 < v2
  · refine Goes.of (fun t k => XS.icmpYes X0.here hx rfl (pc0 := 2) (pc' := 12) rfl (hb hby d3_2) rfl (tlt hc3).1 (by decide) (by decide) k) ?_
    show Goes _ _ _ _ _ _ _ (s₁.setTop (mkF m 12 #[.val (.int v0), .val (.int v1), .val (.int v2), .val (.int v3), .val (.int v4)] []))
    refine Goes.of (fun t k => XS.iload X0.here hx rfl (hb hby d3_12) rfl k) ?_
    show Goes _ _ _ _ _ _ _ (s₁.setTop (mkF m 14 #[.val (.int v0), .val (.int v1), .val (.int v2), .val (.int v3), .val (.int v4)] [(.int v4)]))
    exact Goes.fin X0 hlk (v := some (.int v4)) (fun h => by rw [Bd.returns] at h; cases h) (fun fs hr => retI X0 hx Bd.returns (hb hby d3_14) hr) ⟨congrArg (fun z => some (Value.int z)) (by rw [f3, if_pos hc3] : v4 = f3 v0 v1 v2 v3 v4), N0, e0⟩ (by decide) (by decide)
  · refine Goes.of (fun t k => XS.icmpNo X0.here hx rfl (hb hby d3_2) rfl (flt hc3).1 k) ?_
    show Goes _ _ _ _ _ _ _ (s₁.setTop (mkF m 5 #[.val (.int v0), .val (.int v1), .val (.int v2), .val (.int v3), .val (.int v4)] []))
    refine Goes.of (fun t k => XS.iloadN X0.here hx rfl (hb hby d3_5) rfl k) ?_
    show Goes _ _ _ _ _ _ _ (s₁.setTop (mkF m 6 #[.val (.int v0), .val (.int v1), .val (.int v2), .val (.int v3), .val (.int v4)] [(.int v1)]))
    refine Goes.of (fun t k => XS.iloadN X0.here hx rfl (hb hby d3_6) rfl k) ?_
    show Goes _ _ _ _ _ _ _ (s₁.setTop (mkF m 7 #[.val (.int v0), .val (.int v1), .val (.int v2), .val (.int v3), .val (.int v4)] [(.int v3), (.int v1)]))
    by_cases hc4 : v1 < v3
    · refine Goes.of (fun t k => XS.icmpNo X0.here hx rfl (hb hby d3_7) rfl (tlt hc4).2.1 k) ?_
      show Goes _ _ _ _ _ _ _ (s₁.setTop (mkF m 10 #[.val (.int v0), .val (.int v1), .val (.int v2), .val (.int v3), .val (.int v4)] []))
      refine Goes.of (fun t k => XS.iloadN X0.here hx rfl (hb hby d3_10) rfl k) ?_
      show Goes _ _ _ _ _ _ _ (s₁.setTop (mkF m 11 #[.val (.int v0), .val (.int v1), .val (.int v2), .val (.int v3), .val (.int v4)] [(.int v0)]))
      exact Goes.fin X0 hlk (v := some (.int v0)) (fun h => by rw [Bd.returns] at h; cases h) (fun fs hr => retI X0 hx Bd.returns (hb hby d3_11) hr) ⟨congrArg (fun z => some (Value.int z)) (by rw [f3, if_neg hc3, if_pos hc4] : v0 = f3 v0 v1 v2 v3 v4), N0, e0⟩ (by decide) (by decide)
    · refine Goes.of (fun t k => XS.icmpYes X0.here hx rfl (pc0 := 7) (pc' := 12) rfl (hb hby d3_7) rfl (flt hc4).2.1 (by decide) (by decide) k) ?_
      show Goes _ _ _ _ _ _ _ (s₁.setTop (mkF m 12 #[.val (.int v0), .val (.int v1), .val (.int v2), .val (.int v3), .val (.int v4)] []))
      refine Goes.of (fun t k => XS.iload X0.here hx rfl (hb hby d3_12) rfl k) ?_
      show Goes _ _ _ _ _ _ _ (s₁.setTop (mkF m 14 #[.val (.int v0), .val (.int v1), .val (.int v2), .val (.int v3), .val (.int v4)] [(.int v4)]))
      exact Goes.fin X0 hlk (v := some (.int v4)) (fun h => by rw [Bd.returns] at h; cases h) (fun fs hr => retI X0 hx Bd.returns (hb hby d3_14) hr) ⟨congrArg (fun z => some (Value.int z)) (by rw [f3, if_neg hc3, if_neg hc4] : v4 = f3 v0 v1 v2 v3 v4), N0, e0⟩ (by decide) (by decide)
theorem d4_0 : decode method_4_code 0 = .ok (.iload_n 1, 1) := by decide +kernel
theorem d4_1 : decode method_4_code 1 = .ok (.iload_n 2, 1) := by decide +kernel
theorem d4_2 : decode method_4_code 2 = .ok (.if_icmp .lt 16, 3) := by decide +kernel
theorem d4_5 : decode method_4_code 5 = .ok (.iload_n 1, 1) := by decide +kernel
theorem d4_6 : decode method_4_code 6 = .ok (.iload_n 3, 1) := by decide +kernel
theorem d4_7 : decode method_4_code 7 = .ok (.if_icmp .ge 11, 3) := by decide +kernel
theorem d4_10 : decode method_4_code 10 = .ok (.iload_n 0, 1) := by decide +kernel
theorem d4_11 : decode method_4_code 11 = .ok (.iload 4, 2) := by decide +kernel
theorem d4_13 : decode method_4_code 13 = .ok (.if_icmp .ge 5, 3) := by decide +kernel
theorem d4_16 : decode method_4_code 16 = .ok (.iconst 1, 1) := by decide +kernel
theorem d4_17 : decode method_4_code 17 = .ok (.ireturn, 1) := by decide +kernel
theorem d4_18 : decode method_4_code 18 = .ok (.iconst 0, 1) := by decide +kernel
theorem d4_19 : decode method_4_code 19 = .ok (.ireturn, 1) := by decide +kernel
theorem ef_4 (m : MethodId) (v0 : Int32) (v1 : Int32) (v2 : Int32) (v3 : Int32) (v4 : Int32) : entryFrame m #[(.int v0), (.int v1), (.int v2), (.int v3), (.int v4)] 5 = mkF m 0 #[.val (.int v0), .val (.int v1), .val (.int v2), .val (.int v3), .val (.int v4)] [] := by first | (simp [entryFrame, mkF, argsToLocals, Value.category]; done) | rfl
def f4 (v0 : Int32) (v1 : Int32) (v2 : Int32) (v3 : Int32) (v4 : Int32) : Int32 :=
  (if v1 < v2 then (0 : Int32)
  else (if v1 < v3 then (if v0 < v4 then (1 : Int32)
      else (0 : Int32))
    else (0 : Int32)))
def Q4 (v0 : Int32) (v1 : Int32) (v2 : Int32) (v3 : Int32) (v4 : Int32) (h0 : Heap) (n0 : Nat) (v : Option Value) (h : Heap) (L : List Loc) : Prop := v = some (.int (f4 v0 v1 v2 v3 v4)) ∧ Fr n0 L ∧ h = h0
set_option maxRecDepth 65536 in
set_option maxHeartbeats 40000000 in
theorem rm4 (l : Launch) (Z : State) (a0 : Array Value) (hw : ∀ d ∈ tables_1, d.before a0 Z = true) (ws : List Jvm.Cond) (v0 : Int32) (v1 : Int32) (v2 : Int32) (v3 : Int32) (v4 : Int32) (h0 : Heap) (n0 : Nat) :
    MetFree l (⟨"com/example/orderly_twig/orderlytwig/engine/AscendingSearchFirstAtLeastPinLaw", "lt", "(IIIII)I"⟩ : MethodName) (head1 (Jvm.Cond.code (⟨"com/example/orderly_twig/orderlytwig/engine/AscendingSearchFirstAtLeastPinLaw", "lt", "(IIIII)I"⟩ : MethodName) method_4_code 5 (some .int) :: ws) ({ frames := 0, cells := 0, slots := 0, locals := 0 } : Room)) (fun ar' Ur => ar' = #[(.int v0), (.int v1), (.int v2), (.int v3), (.int v4)] ∧ Z.Warmed39 Ur.vm ∧ Ur.heap = h0) (fun _ _ _ _ _ => True) (fun _ Ur or' Us => ∃ v L, or' = .returned v ∧ Q4 v0 v1 v2 v3 v4 h0 n0 v Us.heap L ∧ FrameEnd Ur or' Us L 0 0) := by
  refine MetFree.of_bodySF (plainFor_of_name pn_0) hisR ?_
  intro p e s m args below meth c s₁ Bd hml0 hP hK
  obtain ⟨rfl, hZ, hh⟩ := hP
  have hx := Bd.exec
  have hby := Bd.bytes
  have hlk : meth.locks = false := BodyLoose.notSynchronized Bd
  have hml : c.maxLocals = 5 := hml0
  have hown : s.vm.findClass "com/example/orderly_twig/orderlytwig/engine/AscendingSearchFirstAtLeastPinLaw" = some m.cls := findClass_of_methodNamed Bd.named
  have X0 : Stand p l e ({ frames := 0, cells := 0, slots := 0, locals := 0 } : Room) s m #[(.int v0), (.int v1), (.int v2), (.int v3), (.int v4)] below meth c s₁ [] 0 0 := Stand.of_body Bd
  have e0 : s₁.heap = h0 := by rw [← hh, Bd.state]; rfl
  have N0 := Fr.nil n0
  show Goes p.tables e below s (Q4 v0 v1 v2 v3 v4 h0 n0) 0 0 (s₁.setTop (entryFrame m #[(.int v0), (.int v1), (.int v2), (.int v3), (.int v4)] 5))
  refine Goes.of (fun t k => castTop (ef_4 m v0 v1 v2 v3 v4) k) ?_
  show Goes _ _ _ _ _ _ _ (s₁.setTop (mkF m 0 #[.val (.int v0), .val (.int v1), .val (.int v2), .val (.int v3), .val (.int v4)] []))
  refine Goes.of (fun t k => XS.iloadN X0.here hx rfl (hb hby d4_0) rfl k) ?_
  show Goes _ _ _ _ _ _ _ (s₁.setTop (mkF m 1 #[.val (.int v0), .val (.int v1), .val (.int v2), .val (.int v3), .val (.int v4)] [(.int v1)]))
  refine Goes.of (fun t k => XS.iloadN X0.here hx rfl (hb hby d4_1) rfl k) ?_
  show Goes _ _ _ _ _ _ _ (s₁.setTop (mkF m 2 #[.val (.int v0), .val (.int v1), .val (.int v2), .val (.int v3), .val (.int v4)] [(.int v2), (.int v1)]))
  by_cases hc5 : v1 < v2
  · refine Goes.of (fun t k => XS.icmpYes X0.here hx rfl (pc0 := 2) (pc' := 18) rfl (hb hby d4_2) rfl (tlt hc5).1 (by decide) (by decide) k) ?_
    show Goes _ _ _ _ _ _ _ (s₁.setTop (mkF m 18 #[.val (.int v0), .val (.int v1), .val (.int v2), .val (.int v3), .val (.int v4)] []))
    refine Goes.of (fun t k => XS.iconst X0.here hx rfl (hb hby d4_18) k) ?_
    show Goes _ _ _ _ _ _ _ (s₁.setTop (mkF m 19 #[.val (.int v0), .val (.int v1), .val (.int v2), .val (.int v3), .val (.int v4)] [(.int (0 : Int32))]))
    exact Goes.fin X0 hlk (v := some (.int (0 : Int32))) (fun h => by rw [Bd.returns] at h; cases h) (fun fs hr => retI X0 hx Bd.returns (hb hby d4_19) hr) ⟨congrArg (fun z => some (Value.int z)) (by rw [f4, if_pos hc5] : (0 : Int32) = f4 v0 v1 v2 v3 v4), N0, e0⟩ (by decide) (by decide)
  · refine Goes.of (fun t k => XS.icmpNo X0.here hx rfl (hb hby d4_2) rfl (flt hc5).1 k) ?_
    show Goes _ _ _ _ _ _ _ (s₁.setTop (mkF m 5 #[.val (.int v0), .val (.int v1), .val (.int v2), .val (.int v3), .val (.int v4)] []))
    refine Goes.of (fun t k => XS.iloadN X0.here hx rfl (hb hby d4_5) rfl k) ?_
    show Goes _ _ _ _ _ _ _ (s₁.setTop (mkF m 6 #[.val (.int v0), .val (.int v1), .val (.int v2), .val (.int v3), .val (.int v4)] [(.int v1)]))
    refine Goes.of (fun t k => XS.iloadN X0.here hx rfl (hb hby d4_6) rfl k) ?_
    show Goes _ _ _ _ _ _ _ (s₁.setTop (mkF m 7 #[.val (.int v0), .val (.int v1), .val (.int v2), .val (.int v3), .val (.int v4)] [(.int v3), (.int v1)]))
    by_cases hc6 : v1 < v3
    · refine Goes.of (fun t k => XS.icmpNo X0.here hx rfl (hb hby d4_7) rfl (tlt hc6).2.1 k) ?_
      show Goes _ _ _ _ _ _ _ (s₁.setTop (mkF m 10 #[.val (.int v0), .val (.int v1), .val (.int v2), .val (.int v3), .val (.int v4)] []))
      refine Goes.of (fun t k => XS.iloadN X0.here hx rfl (hb hby d4_10) rfl k) ?_
      show Goes _ _ _ _ _ _ _ (s₁.setTop (mkF m 11 #[.val (.int v0), .val (.int v1), .val (.int v2), .val (.int v3), .val (.int v4)] [(.int v0)]))
      refine Goes.of (fun t k => XS.iload X0.here hx rfl (hb hby d4_11) rfl k) ?_
      show Goes _ _ _ _ _ _ _ (s₁.setTop (mkF m 13 #[.val (.int v0), .val (.int v1), .val (.int v2), .val (.int v3), .val (.int v4)] [(.int v4), (.int v0)]))
      by_cases hc7 : v0 < v4
      · refine Goes.of (fun t k => XS.icmpNo X0.here hx rfl (hb hby d4_13) rfl (tlt hc7).2.1 k) ?_
        show Goes _ _ _ _ _ _ _ (s₁.setTop (mkF m 16 #[.val (.int v0), .val (.int v1), .val (.int v2), .val (.int v3), .val (.int v4)] []))
        refine Goes.of (fun t k => XS.iconst X0.here hx rfl (hb hby d4_16) k) ?_
        show Goes _ _ _ _ _ _ _ (s₁.setTop (mkF m 17 #[.val (.int v0), .val (.int v1), .val (.int v2), .val (.int v3), .val (.int v4)] [(.int (1 : Int32))]))
        exact Goes.fin X0 hlk (v := some (.int (1 : Int32))) (fun h => by rw [Bd.returns] at h; cases h) (fun fs hr => retI X0 hx Bd.returns (hb hby d4_17) hr) ⟨congrArg (fun z => some (Value.int z)) (by rw [f4, if_neg hc5, if_pos hc6, if_pos hc7] : (1 : Int32) = f4 v0 v1 v2 v3 v4), N0, e0⟩ (by decide) (by decide)
      · refine Goes.of (fun t k => XS.icmpYes X0.here hx rfl (pc0 := 13) (pc' := 18) rfl (hb hby d4_13) rfl (flt hc7).2.1 (by decide) (by decide) k) ?_
        show Goes _ _ _ _ _ _ _ (s₁.setTop (mkF m 18 #[.val (.int v0), .val (.int v1), .val (.int v2), .val (.int v3), .val (.int v4)] []))
        refine Goes.of (fun t k => XS.iconst X0.here hx rfl (hb hby d4_18) k) ?_
        show Goes _ _ _ _ _ _ _ (s₁.setTop (mkF m 19 #[.val (.int v0), .val (.int v1), .val (.int v2), .val (.int v3), .val (.int v4)] [(.int (0 : Int32))]))
        exact Goes.fin X0 hlk (v := some (.int (0 : Int32))) (fun h => by rw [Bd.returns] at h; cases h) (fun fs hr => retI X0 hx Bd.returns (hb hby d4_19) hr) ⟨congrArg (fun z => some (Value.int z)) (by rw [f4, if_neg hc5, if_pos hc6, if_neg hc7] : (0 : Int32) = f4 v0 v1 v2 v3 v4), N0, e0⟩ (by decide) (by decide)
    · refine Goes.of (fun t k => XS.icmpYes X0.here hx rfl (pc0 := 7) (pc' := 18) rfl (hb hby d4_7) rfl (flt hc6).2.1 (by decide) (by decide) k) ?_
      show Goes _ _ _ _ _ _ _ (s₁.setTop (mkF m 18 #[.val (.int v0), .val (.int v1), .val (.int v2), .val (.int v3), .val (.int v4)] []))
      refine Goes.of (fun t k => XS.iconst X0.here hx rfl (hb hby d4_18) k) ?_
      show Goes _ _ _ _ _ _ _ (s₁.setTop (mkF m 19 #[.val (.int v0), .val (.int v1), .val (.int v2), .val (.int v3), .val (.int v4)] [(.int (0 : Int32))]))
      exact Goes.fin X0 hlk (v := some (.int (0 : Int32))) (fun h => by rw [Bd.returns] at h; cases h) (fun fs hr => retI X0 hx Bd.returns (hb hby d4_19) hr) ⟨congrArg (fun z => some (Value.int z)) (by rw [f4, if_neg hc5, if_neg hc6] : (0 : Int32) = f4 v0 v1 v2 v3 v4), N0, e0⟩ (by decide) (by decide)
theorem own_addi {a b : Int32} (h0 : -1000 ≤ a.toInt ∧ a.toInt ≤ 1000) (h1 : -1000 ≤ b.toInt ∧ b.toInt ≤ 1000) : (a + b).toInt = a.toInt + b.toInt := by
  have := c_iadd a b
  have := rng32 (a + b)
  omega
theorem own_subi {a b : Int32} (h0 : -1000 ≤ a.toInt ∧ a.toInt ≤ 1000) (h1 : -1000 ≤ b.toInt ∧ b.toInt ≤ 1000) : (a - b).toInt = a.toInt - b.toInt := by
  have := c_isub a b
  have := rng32 (a - b)
  omega
theorem own_dbl {a : Int32} (h0 : -1000 ≤ a.toInt ∧ a.toInt ≤ 1000) : (a * (2 : Int32)).toInt = 2 * a.toInt := by
  have h := c_imul a 2
  have := rng32 (a * 2)
  rw [show (2 : Int32).toInt = 2 from rfl] at h
  omega
theorem own_half {x : Int32} (h0 : 0 ≤ x.toInt) : ((x.toUInt32 >>> ((1 : Int32) &&& 31).toUInt32).toInt32).toInt = x.toInt / 2 := by
  have h := c_iushr x 1 1 rfl (by decide)
  have := rng32 x
  rw [show ((2 ^ 1 : Nat) : Int) = 2 by decide] at h
  omega
theorem own_k1 : (1 : Int32).toInt = 1 := rfl
theorem d5_0 : decode prog_3_method_2_code 0 = .ok (.iload_n 1, 1) := by decide +kernel
theorem d5_1 : decode prog_3_method_2_code 1 = .ok (.iconst 1, 1) := by decide +kernel
theorem d5_2 : decode prog_3_method_2_code 2 = .ok (.isub, 1) := by decide +kernel
theorem d5_3 : decode prog_3_method_2_code 3 = .ok (.istore 4, 2) := by decide +kernel
theorem d5_5 : decode prog_3_method_2_code 5 = .ok (.iload_n 1, 1) := by decide +kernel
theorem d5_6 : decode prog_3_method_2_code 6 = .ok (.istore 5, 2) := by decide +kernel
theorem d5_8 : decode prog_3_method_2_code 8 = .ok (.iconst 1, 1) := by decide +kernel
theorem d5_9 : decode prog_3_method_2_code 9 = .ok (.istore 6, 2) := by decide +kernel
theorem d5_11 : decode prog_3_method_2_code 11 = .ok (.iload 5, 2) := by decide +kernel
theorem d5_13 : decode prog_3_method_2_code 13 = .ok (.iload_n 2, 1) := by decide +kernel
theorem d5_14 : decode prog_3_method_2_code 14 = .ok (.if_icmp .ge 44, 3) := by decide +kernel
theorem d5_17 : decode prog_3_method_2_code 17 = .ok (.aload_n 0, 1) := by decide +kernel
theorem d5_18 : decode prog_3_method_2_code 18 = .ok (.iload 5, 2) := by decide +kernel
theorem d5_20 : decode prog_3_method_2_code 20 = .ok (.iaload, 1) := by decide +kernel
theorem d5_21 : decode prog_3_method_2_code 21 = .ok (.iload_n 3, 1) := by decide +kernel
theorem d5_22 : decode prog_3_method_2_code 22 = .ok (.if_icmp .ge 36, 3) := by decide +kernel
theorem d5_25 : decode prog_3_method_2_code 25 = .ok (.iload 5, 2) := by decide +kernel
theorem d5_27 : decode prog_3_method_2_code 27 = .ok (.istore 4, 2) := by decide +kernel
theorem d5_29 : decode prog_3_method_2_code 29 = .ok (.iload_n 2, 1) := by decide +kernel
theorem d5_30 : decode prog_3_method_2_code 30 = .ok (.iload 5, 2) := by decide +kernel
theorem d5_32 : decode prog_3_method_2_code 32 = .ok (.isub, 1) := by decide +kernel
theorem d5_33 : decode prog_3_method_2_code 33 = .ok (.iload 6, 2) := by decide +kernel
theorem d5_35 : decode prog_3_method_2_code 35 = .ok (.if_icmp .le 11, 3) := by decide +kernel
theorem d5_38 : decode prog_3_method_2_code 38 = .ok (.iload 5, 2) := by decide +kernel
theorem d5_40 : decode prog_3_method_2_code 40 = .ok (.iload 6, 2) := by decide +kernel
theorem d5_42 : decode prog_3_method_2_code 42 = .ok (.iadd, 1) := by decide +kernel
theorem d5_43 : decode prog_3_method_2_code 43 = .ok (.goto 4, 3) := by decide +kernel
theorem d5_46 : decode prog_3_method_2_code 46 = .ok (.iload_n 2, 1) := by decide +kernel
theorem d5_47 : decode prog_3_method_2_code 47 = .ok (.istore 5, 2) := by decide +kernel
theorem d5_49 : decode prog_3_method_2_code 49 = .ok (.iload 6, 2) := by decide +kernel
theorem d5_51 : decode prog_3_method_2_code 51 = .ok (.iconst 2, 1) := by decide +kernel
theorem d5_52 : decode prog_3_method_2_code 52 = .ok (.imul, 1) := by decide +kernel
theorem d5_53 : decode prog_3_method_2_code 53 = .ok (.istore 6, 2) := by decide +kernel
theorem d5_55 : decode prog_3_method_2_code 55 = .ok (.goto (-44), 3) := by decide +kernel
theorem d5_58 : decode prog_3_method_2_code 58 = .ok (.iload 5, 2) := by decide +kernel
theorem d5_60 : decode prog_3_method_2_code 60 = .ok (.iload 4, 2) := by decide +kernel
theorem d5_62 : decode prog_3_method_2_code 62 = .ok (.isub, 1) := by decide +kernel
theorem d5_63 : decode prog_3_method_2_code 63 = .ok (.iconst 1, 1) := by decide +kernel
theorem d5_64 : decode prog_3_method_2_code 64 = .ok (.if_icmp .le 34, 3) := by decide +kernel
theorem d5_67 : decode prog_3_method_2_code 67 = .ok (.iload 4, 2) := by decide +kernel
theorem d5_69 : decode prog_3_method_2_code 69 = .ok (.iload 5, 2) := by decide +kernel
theorem d5_71 : decode prog_3_method_2_code 71 = .ok (.iadd, 1) := by decide +kernel
theorem d5_72 : decode prog_3_method_2_code 72 = .ok (.iconst 1, 1) := by decide +kernel
theorem d5_73 : decode prog_3_method_2_code 73 = .ok (.iushr, 1) := by decide +kernel
theorem d5_74 : decode prog_3_method_2_code 74 = .ok (.istore 7, 2) := by decide +kernel
theorem d5_76 : decode prog_3_method_2_code 76 = .ok (.aload_n 0, 1) := by decide +kernel
theorem d5_77 : decode prog_3_method_2_code 77 = .ok (.iload 7, 2) := by decide +kernel
theorem d5_79 : decode prog_3_method_2_code 79 = .ok (.iaload, 1) := by decide +kernel
theorem d5_80 : decode prog_3_method_2_code 80 = .ok (.iload_n 3, 1) := by decide +kernel
theorem d5_81 : decode prog_3_method_2_code 81 = .ok (.if_icmp .ge 10, 3) := by decide +kernel
theorem d5_84 : decode prog_3_method_2_code 84 = .ok (.iload 7, 2) := by decide +kernel
theorem d5_86 : decode prog_3_method_2_code 86 = .ok (.istore 4, 2) := by decide +kernel
theorem d5_88 : decode prog_3_method_2_code 88 = .ok (.goto 7, 3) := by decide +kernel
theorem d5_91 : decode prog_3_method_2_code 91 = .ok (.iload 7, 2) := by decide +kernel
theorem d5_93 : decode prog_3_method_2_code 93 = .ok (.istore 5, 2) := by decide +kernel
theorem d5_95 : decode prog_3_method_2_code 95 = .ok (.goto (-37), 3) := by decide +kernel
theorem d5_98 : decode prog_3_method_2_code 98 = .ok (.iload 5, 2) := by decide +kernel
theorem d5_100 : decode prog_3_method_2_code 100 = .ok (.ireturn, 1) := by decide +kernel
theorem pn_1 : plainName "com/example/orderly_twig/orderlytwig/engine/AscendingSearch" = true := by first | (simp [plainName, overriddenIn]; done) | decide +kernel
theorem ef_5 (m : MethodId) (a : Addr) (lo0 : Int32) (hi0 : Int32) (vl : Int32) : entryFrame m #[(.ref a), (.int lo0), (.int hi0), (.int vl)] 8 = mkF m 0 #[.val (.ref a), .val (.int lo0), .val (.int hi0), .val (.int vl), .unset, .unset, .unset, .unset] [] := by first | (simp [entryFrame, mkF, argsToLocals, Value.category]; done) | rfl
def Q5 (lo0 hi0 vl : Int32) (f : Nat → Int32) (h0 : Heap) (n0 : Nat) (v : Option Value) (h : Heap) (L : List Loc) : Prop := ∃ r : Int32, v = some (.int r) ∧ Fr n0 L ∧ h = h0 ∧ lo0.toInt ≤ r.toInt ∧ r.toInt ≤ hi0.toInt ∧ (∀ i : Nat, lo0.toInt ≤ i → i < r.toInt → (f i).toInt < vl.toInt) ∧ (∀ i : Nat, r.toInt ≤ i → i < hi0.toInt → ¬ (f i).toInt < vl.toInt)
set_option maxRecDepth 65536 in
set_option maxHeartbeats 40000000 in
theorem rm5 (l : Launch) (Z : State) (a0 : Array Value) (hw : ∀ d ∈ tables_1, d.before a0 Z = true) (ws : List Jvm.Cond) (a : Addr) (lo0 : Int32) (hi0 : Int32) (vl : Int32) (f : Nat → Int32) (h0 : Heap) (n0 : Nat) (Z0 : n0 ≤ h0.size) (V_a : AI Z h0 a .int 10 f) (p1 : 0 ≤ lo0.toInt) (p2 : lo0.toInt ≤ hi0.toInt) (p3 : hi0.toInt ≤ 10) (hs : ∀ i j : Nat, lo0.toInt ≤ i → i ≤ j → (j : Int) < hi0.toInt → (f i).toInt ≤ (f j).toInt) :
    MetFree l (⟨"com/example/orderly_twig/orderlytwig/engine/AscendingSearch", "firstAtLeast", "([IIII)I"⟩ : MethodName) (head1 (Jvm.Cond.code (⟨"com/example/orderly_twig/orderlytwig/engine/AscendingSearch", "firstAtLeast", "([IIII)I"⟩ : MethodName) prog_3_method_2_code 8 (some .int) :: ws) ({ frames := 0, cells := 0, slots := 0, locals := 0 } : Room)) (fun ar' Ur => ar' = #[(.ref a), (.int lo0), (.int hi0), (.int vl)] ∧ Z.Warmed39 Ur.vm ∧ Ur.heap = h0) (fun _ _ _ _ _ => True) (fun _ Ur or' Us => ∃ v L, or' = .returned v ∧ Q5 lo0 hi0 vl f h0 n0 v Us.heap L ∧ FrameEnd Ur or' Us L 0 0) := by
  refine MetFree.of_bodySF (plainFor_of_name pn_1) hisR ?_
  intro p e s m args below meth c s₁ Bd hml0 hP hK
  obtain ⟨rfl, hZ, hh⟩ := hP
  have hx := Bd.exec
  have hby := Bd.bytes
  have hlk : meth.locks = false := BodyLoose.notSynchronized Bd
  have hml : c.maxLocals = 8 := hml0
  have hown : s.vm.findClass "com/example/orderly_twig/orderlytwig/engine/AscendingSearch" = some m.cls := findClass_of_methodNamed Bd.named
  have hnm := (name_of_methodNamed Bd.named Bd.method).1
  have X0 : Stand p l e ({ frames := 0, cells := 0, slots := 0, locals := 0 } : Room) s m #[(.ref a), (.int lo0), (.int hi0), (.int vl)] below meth c s₁ [] 0 0 := Stand.of_body Bd
  have e0 : s₁.heap = h0 := by rw [← hh, Bd.state]; rfl
  have N0 := Fr.nil n0
  show Goes p.tables e below s (Q5 lo0 hi0 vl f h0 n0) 0 0 (s₁.setTop (entryFrame m #[(.ref a), (.int lo0), (.int hi0), (.int vl)] 8))
  refine Goes.of (fun t k => castTop (ef_5 m a lo0 hi0 vl) k) ?_
  show Goes _ _ _ _ _ _ _ (s₁.setTop (mkF m 0 #[.val (.ref a), .val (.int lo0), .val (.int hi0), .val (.int vl), .unset, .unset, .unset, .unset] []))
  refine Goes.of (fun t k => XS.iloadN X0.here hx rfl (hb hby d5_0) rfl k) ?_
  show Goes _ _ _ _ _ _ _ (s₁.setTop (mkF m 1 #[.val (.ref a), .val (.int lo0), .val (.int hi0), .val (.int vl), .unset, .unset, .unset, .unset] [(.int lo0)]))
  refine Goes.of (fun t k => XS.iconst X0.here hx rfl (hb hby d5_1) k) ?_
  show Goes _ _ _ _ _ _ _ (s₁.setTop (mkF m 2 #[.val (.ref a), .val (.int lo0), .val (.int hi0), .val (.int vl), .unset, .unset, .unset, .unset] [(.int (1 : Int32)), (.int lo0)]))
  refine Goes.of (fun t k => XS.isub X0.here hx rfl (hb hby d5_2) rfl k) ?_
  show Goes _ _ _ _ _ _ _ (s₁.setTop (mkF m 3 #[.val (.ref a), .val (.int lo0), .val (.int hi0), .val (.int vl), .unset, .unset, .unset, .unset] [(.int (lo0 - (1 : Int32)))]))
  refine Goes.of (fun t k => XS.istore X0.here hx rfl (hb hby d5_3) rfl (l' := #[.val (.ref a), .val (.int lo0), .val (.int hi0), .val (.int vl), .val (.int (lo0 - (1 : Int32))), .unset, .unset, .unset]) rfl k) ?_
  show Goes _ _ _ _ _ _ _ (s₁.setTop (mkF m 5 #[.val (.ref a), .val (.int lo0), .val (.int hi0), .val (.int vl), .val (.int (lo0 - (1 : Int32))), .unset, .unset, .unset] []))
  refine Goes.of (fun t k => XS.iloadN X0.here hx rfl (hb hby d5_5) rfl k) ?_
  show Goes _ _ _ _ _ _ _ (s₁.setTop (mkF m 6 #[.val (.ref a), .val (.int lo0), .val (.int hi0), .val (.int vl), .val (.int (lo0 - (1 : Int32))), .unset, .unset, .unset] [(.int lo0)]))
  refine Goes.of (fun t k => XS.istore X0.here hx rfl (hb hby d5_6) rfl (l' := #[.val (.ref a), .val (.int lo0), .val (.int hi0), .val (.int vl), .val (.int (lo0 - (1 : Int32))), .val (.int lo0), .unset, .unset]) rfl k) ?_
  show Goes _ _ _ _ _ _ _ (s₁.setTop (mkF m 8 #[.val (.ref a), .val (.int lo0), .val (.int hi0), .val (.int vl), .val (.int (lo0 - (1 : Int32))), .val (.int lo0), .unset, .unset] []))
  refine Goes.of (fun t k => XS.iconst X0.here hx rfl (hb hby d5_8) k) ?_
  show Goes _ _ _ _ _ _ _ (s₁.setTop (mkF m 9 #[.val (.ref a), .val (.int lo0), .val (.int hi0), .val (.int vl), .val (.int (lo0 - (1 : Int32))), .val (.int lo0), .unset, .unset] [(.int (1 : Int32))]))
  refine Goes.of (fun t k => XS.istore X0.here hx rfl (hb hby d5_9) rfl (l' := #[.val (.ref a), .val (.int lo0), .val (.int hi0), .val (.int vl), .val (.int (lo0 - (1 : Int32))), .val (.int lo0), .val (.int (1 : Int32)), .unset]) rfl k) ?_
  show Goes _ _ _ _ _ _ _ (s₁.setTop (mkF m 11 #[.val (.ref a), .val (.int lo0), .val (.int hi0), .val (.int vl), .val (.int (lo0 - (1 : Int32))), .val (.int lo0), .val (.int (1 : Int32)), .unset] []))
  have j8 : ∀ (T8 : State) (lc8 : List Loc) (bl : Int32) (ab : Int32) (sp : Int32), Stand p l e ({ frames := 0, cells := 0, slots := 0, locals := 0 } : Room) s m #[(.ref a), (.int lo0), (.int hi0), (.int vl)] below meth c T8 lc8 0 0 → T8.heap = h0 → Fr n0 lc8 → (lo0.toInt - 1 ≤ bl.toInt ∧ bl.toInt < ab.toInt ∧ ab.toInt ≤ hi0.toInt) → (∀ i : Nat, lo0.toInt ≤ i → i ≤ bl.toInt → (f i).toInt < vl.toInt) → (∀ i : Nat, ab.toInt ≤ i → i < hi0.toInt → ¬ (f i).toInt < vl.toInt) → Goes p.tables e below s (Q5 lo0 hi0 vl f h0 n0) 0 0 (T8.setTop (mkF m 58 #[.val (.ref a), .val (.int lo0), .val (.int hi0), .val (.int vl), .val (.int bl), .val (.int ab), .val (.int sp), .unset] [])) := by
    intro T8 lc8 bl ab sp X8 e8 N8 hg8_sp_0 hg8_sp_1 hg8_sp_2
    show Goes _ _ _ _ _ _ _ (T8.setTop (mkF m 58 #[.val (.ref a), .val (.int lo0), .val (.int hi0), .val (.int vl), .val (.int bl), .val (.int ab), .val (.int sp), .unset] []))
    have loopB : ∀ (k : Nat), ∀ (bl2 : Int32) (ab2 : Int32) (s7 : Slot) (TloopB : State) (lcloopB : List Loc), Stand p l e ({ frames := 0, cells := 0, slots := 0, locals := 0 } : Room) s m #[(.ref a), (.int lo0), (.int hi0), (.int vl)] below meth c TloopB lcloopB 0 0 → TloopB.heap = h0 → Fr n0 lcloopB → One s7 → (ab2.toInt - bl2.toInt ≤ (k : Nat) + 1) → ((lo0.toInt - 1 ≤ bl2.toInt ∧ bl2.toInt < ab2.toInt ∧ ab2.toInt ≤ hi0.toInt)) → ((∀ i : Nat, lo0.toInt ≤ i → i ≤ bl2.toInt → (f i).toInt < vl.toInt)) → ((∀ i : Nat, ab2.toInt ≤ i → i < hi0.toInt → ¬ (f i).toInt < vl.toInt)) → Goes p.tables e below s (Q5 lo0 hi0 vl f h0 n0) 0 0 (TloopB.setTop (mkF m 58 #[.val (.ref a), .val (.int lo0), .val (.int hi0), .val (.int vl), .val (.int bl2), .val (.int ab2), .val (.int sp), s7] [])) := by
      intro k
      induction k with
      | zero =>
        intro bl2 ab2 s7 TloopB lcloopB XloopB eloopB NloopB hS_s7 hk g1 g2 g3
        have es2 : (ab2 - bl2).toInt = ab2.toInt - bl2.toInt := own_subi (by omega) (by omega)
        have hlt : ¬ (1 : Int32) < (ab2 - bl2) := own_nlt (by rw [es2, own_k1]; omega)
        show Goes _ _ _ _ _ _ _ (TloopB.setTop (mkF m 58 #[.val (.ref a), .val (.int lo0), .val (.int hi0), .val (.int vl), .val (.int bl2), .val (.int ab2), .val (.int sp), s7] []))
        refine Goes.of (fun t k => XS.iload XloopB.here hx rfl (hb hby d5_58) rfl k) ?_
        show Goes _ _ _ _ _ _ _ (TloopB.setTop (mkF m 60 #[.val (.ref a), .val (.int lo0), .val (.int hi0), .val (.int vl), .val (.int bl2), .val (.int ab2), .val (.int sp), s7] [(.int ab2)]))
        refine Goes.of (fun t k => XS.iload XloopB.here hx rfl (hb hby d5_60) rfl k) ?_
        show Goes _ _ _ _ _ _ _ (TloopB.setTop (mkF m 62 #[.val (.ref a), .val (.int lo0), .val (.int hi0), .val (.int vl), .val (.int bl2), .val (.int ab2), .val (.int sp), s7] [(.int bl2), (.int ab2)]))
        refine Goes.of (fun t k => XS.isub XloopB.here hx rfl (hb hby d5_62) rfl k) ?_
        show Goes _ _ _ _ _ _ _ (TloopB.setTop (mkF m 63 #[.val (.ref a), .val (.int lo0), .val (.int hi0), .val (.int vl), .val (.int bl2), .val (.int ab2), .val (.int sp), s7] [(.int (ab2 - bl2))]))
        refine Goes.of (fun t k => XS.iconst XloopB.here hx rfl (hb hby d5_63) k) ?_
        show Goes _ _ _ _ _ _ _ (TloopB.setTop (mkF m 64 #[.val (.ref a), .val (.int lo0), .val (.int hi0), .val (.int vl), .val (.int bl2), .val (.int ab2), .val (.int sp), s7] [(.int (1 : Int32)), (.int (ab2 - bl2))]))
        refine Goes.of (fun t k => XS.icmpYes XloopB.here hx rfl (pc0 := 64) (pc' := 98) rfl (hb hby d5_64) rfl (flt hlt).2.2.2 (by decide) (by decide) k) ?_
        show Goes _ _ _ _ _ _ _ (TloopB.setTop (mkF m 98 #[.val (.ref a), .val (.int lo0), .val (.int hi0), .val (.int vl), .val (.int bl2), .val (.int ab2), .val (.int sp), s7] []))
        have hd2 := own_geI hlt
        rw [es2, own_k1] at hd2
        refine Goes.of (fun t k => XS.iload XloopB.here hx rfl (hb hby d5_98) rfl k) ?_
        show Goes _ _ _ _ _ _ _ (TloopB.setTop (mkF m 100 #[.val (.ref a), .val (.int lo0), .val (.int hi0), .val (.int vl), .val (.int bl2), .val (.int ab2), .val (.int sp), s7] [(.int ab2)]))
        exact Goes.fin XloopB hlk (v := some (.int ab2)) (fun h => by rw [Bd.returns] at h; cases h) (fun fs hr => retI XloopB hx Bd.returns (hb hby d5_100) hr) ⟨ab2, rfl, NloopB, eloopB, by omega, by omega, fun i h1 h2 => g2 i h1 (by omega), g3⟩ (by decide) (by decide)
      | succ k ih =>
        intro bl2 ab2 s7 TloopB lcloopB XloopB eloopB NloopB hS_s7 hk g1 g2 g3
        have es2 : (ab2 - bl2).toInt = ab2.toInt - bl2.toInt := own_subi (by omega) (by omega)
        show Goes _ _ _ _ _ _ _ (TloopB.setTop (mkF m 58 #[.val (.ref a), .val (.int lo0), .val (.int hi0), .val (.int vl), .val (.int bl2), .val (.int ab2), .val (.int sp), s7] []))
        refine Goes.of (fun t k => XS.iload XloopB.here hx rfl (hb hby d5_58) rfl k) ?_
        show Goes _ _ _ _ _ _ _ (TloopB.setTop (mkF m 60 #[.val (.ref a), .val (.int lo0), .val (.int hi0), .val (.int vl), .val (.int bl2), .val (.int ab2), .val (.int sp), s7] [(.int ab2)]))
        refine Goes.of (fun t k => XS.iload XloopB.here hx rfl (hb hby d5_60) rfl k) ?_
        show Goes _ _ _ _ _ _ _ (TloopB.setTop (mkF m 62 #[.val (.ref a), .val (.int lo0), .val (.int hi0), .val (.int vl), .val (.int bl2), .val (.int ab2), .val (.int sp), s7] [(.int bl2), (.int ab2)]))
        refine Goes.of (fun t k => XS.isub XloopB.here hx rfl (hb hby d5_62) rfl k) ?_
        show Goes _ _ _ _ _ _ _ (TloopB.setTop (mkF m 63 #[.val (.ref a), .val (.int lo0), .val (.int hi0), .val (.int vl), .val (.int bl2), .val (.int ab2), .val (.int sp), s7] [(.int (ab2 - bl2))]))
        refine Goes.of (fun t k => XS.iconst XloopB.here hx rfl (hb hby d5_63) k) ?_
        show Goes _ _ _ _ _ _ _ (TloopB.setTop (mkF m 64 #[.val (.ref a), .val (.int lo0), .val (.int hi0), .val (.int vl), .val (.int bl2), .val (.int ab2), .val (.int sp), s7] [(.int (1 : Int32)), (.int (ab2 - bl2))]))
        by_cases hc9 : (1 : Int32) < (ab2 - bl2)
        · refine Goes.of (fun t k => XS.icmpNo XloopB.here hx rfl (hb hby d5_64) rfl (tlt hc9).2.2.2 k) ?_
          show Goes _ _ _ _ _ _ _ (TloopB.setTop (mkF m 67 #[.val (.ref a), .val (.int lo0), .val (.int hi0), .val (.int vl), .val (.int bl2), .val (.int ab2), .val (.int sp), s7] []))
          have hd2 := own_ltI hc9
          rw [es2, own_k1] at hd2
          refine Goes.of (fun t k => XS.iload XloopB.here hx rfl (hb hby d5_67) rfl k) ?_
          show Goes _ _ _ _ _ _ _ (TloopB.setTop (mkF m 69 #[.val (.ref a), .val (.int lo0), .val (.int hi0), .val (.int vl), .val (.int bl2), .val (.int ab2), .val (.int sp), s7] [(.int bl2)]))
          refine Goes.of (fun t k => XS.iload XloopB.here hx rfl (hb hby d5_69) rfl k) ?_
          show Goes _ _ _ _ _ _ _ (TloopB.setTop (mkF m 71 #[.val (.ref a), .val (.int lo0), .val (.int hi0), .val (.int vl), .val (.int bl2), .val (.int ab2), .val (.int sp), s7] [(.int ab2), (.int bl2)]))
          refine Goes.of (fun t k => XS.iadd XloopB.here hx rfl (hb hby d5_71) rfl k) ?_
          show Goes _ _ _ _ _ _ _ (TloopB.setTop (mkF m 72 #[.val (.ref a), .val (.int lo0), .val (.int hi0), .val (.int vl), .val (.int bl2), .val (.int ab2), .val (.int sp), s7] [(.int (bl2 + ab2))]))
          refine Goes.of (fun t k => XS.iconst XloopB.here hx rfl (hb hby d5_72) k) ?_
          show Goes _ _ _ _ _ _ _ (TloopB.setTop (mkF m 73 #[.val (.ref a), .val (.int lo0), .val (.int hi0), .val (.int vl), .val (.int bl2), .val (.int ab2), .val (.int sp), s7] [(.int (1 : Int32)), (.int (bl2 + ab2))]))
          refine Goes.of (fun t k => XS.iushr XloopB.here hx rfl (hb hby d5_73) rfl k) ?_
          show Goes _ _ _ _ _ _ _ (TloopB.setTop (mkF m 74 #[.val (.ref a), .val (.int lo0), .val (.int hi0), .val (.int vl), .val (.int bl2), .val (.int ab2), .val (.int sp), s7] [(.int (((bl2 + ab2).toUInt32 >>> ((1 : Int32) &&& 31).toUInt32).toInt32))]))
          refine Goes.of (fun t k => XS.istoreS XloopB.here hx rfl (hb hby d5_74) rfl rfl hS_s7 k) ?_
          show Goes _ _ _ _ _ _ _ (TloopB.setTop (mkF m 76 #[.val (.ref a), .val (.int lo0), .val (.int hi0), .val (.int vl), .val (.int bl2), .val (.int ab2), .val (.int sp), .val (.int (((bl2 + ab2).toUInt32 >>> ((1 : Int32) &&& 31).toUInt32).toInt32))] []))
          have ea2 : (bl2 + ab2).toInt = bl2.toInt + ab2.toInt := own_addi (by omega) (by omega)
          have eh2 := own_half (x := bl2 + ab2) (by omega)
          rw [ea2] at eh2
          obtain ⟨md, hy_md⟩ : ∃ z, z = (((bl2 + ab2).toUInt32 >>> ((1 : Int32) &&& 31).toUInt32).toInt32) := ⟨_, rfl⟩
          rw [← hy_md]
          show Goes _ _ _ _ _ _ _ (TloopB.setTop (mkF m 76 #[.val (.ref a), .val (.int lo0), .val (.int hi0), .val (.int vl), .val (.int bl2), .val (.int ab2), .val (.int sp), .val (.int md)] []))
          rw [← hy_md] at eh2
          have hmn := nat_of (own_nn (j := md) (by omega))
          refine Goes.of (fun t k => XS.aloadN XloopB.here hx rfl (hb hby d5_76) rfl rfl k) ?_
          show Goes _ _ _ _ _ _ _ (TloopB.setTop (mkF m 77 #[.val (.ref a), .val (.int lo0), .val (.int hi0), .val (.int vl), .val (.int bl2), .val (.int ab2), .val (.int sp), .val (.int md)] [(.ref a)]))
          refine Goes.of (fun t k => XS.iload XloopB.here hx rfl (hb hby d5_77) rfl k) ?_
          show Goes _ _ _ _ _ _ _ (TloopB.setTop (mkF m 79 #[.val (.ref a), .val (.int lo0), .val (.int hi0), .val (.int vl), .val (.int bl2), .val (.int ab2), .val (.int sp), .val (.int md)] [(.int md), (.ref a)]))
          refine Goes.of (fun t k => ldI XloopB hx hZ eloopB V_a (j := md) (i := md.toNatClampNeg) (v := (f md.toNatClampNeg)) (own_nn (by omega)) rfl (own_ltn (by omega) (by omega)) rfl (g := (mkF m 79 #[.val (.ref a), .val (.int lo0), .val (.int hi0), .val (.int vl), .val (.int bl2), .val (.int ab2), .val (.int sp), .val (.int md)] [(.int md), (.ref a)])) rfl rfl (hb hby d5_79) t k) ?_
          show Goes _ _ _ _ _ _ _ (TloopB.setTop (mkF m 80 #[.val (.ref a), .val (.int lo0), .val (.int hi0), .val (.int vl), .val (.int bl2), .val (.int ab2), .val (.int sp), .val (.int md)] [(.int (f md.toNatClampNeg))]))
          refine Goes.of (fun t k => XS.iloadN XloopB.here hx rfl (hb hby d5_80) rfl k) ?_
          show Goes _ _ _ _ _ _ _ (TloopB.setTop (mkF m 81 #[.val (.ref a), .val (.int lo0), .val (.int hi0), .val (.int vl), .val (.int bl2), .val (.int ab2), .val (.int sp), .val (.int md)] [(.int vl), (.int (f md.toNatClampNeg))]))
          by_cases hc10 : (f md.toNatClampNeg) < vl
          · refine Goes.of (fun t k => XS.icmpNo XloopB.here hx rfl (hb hby d5_81) rfl (tlt hc10).2.1 k) ?_
            show Goes _ _ _ _ _ _ _ (TloopB.setTop (mkF m 84 #[.val (.ref a), .val (.int lo0), .val (.int hi0), .val (.int vl), .val (.int bl2), .val (.int ab2), .val (.int sp), .val (.int md)] []))
            have hv2 := own_ltI hc10
            refine Goes.of (fun t k => XS.iload XloopB.here hx rfl (hb hby d5_84) rfl k) ?_
            show Goes _ _ _ _ _ _ _ (TloopB.setTop (mkF m 86 #[.val (.ref a), .val (.int lo0), .val (.int hi0), .val (.int vl), .val (.int bl2), .val (.int ab2), .val (.int sp), .val (.int md)] [(.int md)]))
            refine Goes.of (fun t k => XS.istore XloopB.here hx rfl (hb hby d5_86) rfl (l' := #[.val (.ref a), .val (.int lo0), .val (.int hi0), .val (.int vl), .val (.int md), .val (.int ab2), .val (.int sp), .val (.int md)]) rfl k) ?_
            show Goes _ _ _ _ _ _ _ (TloopB.setTop (mkF m 88 #[.val (.ref a), .val (.int lo0), .val (.int hi0), .val (.int vl), .val (.int md), .val (.int ab2), .val (.int sp), .val (.int md)] []))
            refine Goes.of (fun t k => XS.goto XloopB.here hx rfl (pc0 := 88) (pc' := 95) rfl (hb hby d5_88) (by decide) (by decide) k) ?_
            show Goes _ _ _ _ _ _ _ (TloopB.setTop (mkF m 95 #[.val (.ref a), .val (.int lo0), .val (.int hi0), .val (.int vl), .val (.int md), .val (.int ab2), .val (.int sp), .val (.int md)] []))
            refine Goes.of (fun t k => XS.goto XloopB.here hx rfl (pc0 := 95) (pc' := 58) rfl (hb hby d5_95) (by decide) (by decide) k) ?_
            show Goes _ _ _ _ _ _ _ (TloopB.setTop (mkF m 58 #[.val (.ref a), .val (.int lo0), .val (.int hi0), .val (.int vl), .val (.int md), .val (.int ab2), .val (.int sp), .val (.int md)] []))
            exact ih md ab2 (.val (.int md)) _ _ XloopB eloopB NloopB (One.val rfl) (by omega) (by omega) (fun i h1 h2 => by have := hs i md.toNatClampNeg h1 (by omega) (by omega); omega) g3
          · refine Goes.of (fun t k => XS.icmpYes XloopB.here hx rfl (pc0 := 81) (pc' := 91) rfl (hb hby d5_81) rfl (flt hc10).2.1 (by decide) (by decide) k) ?_
            show Goes _ _ _ _ _ _ _ (TloopB.setTop (mkF m 91 #[.val (.ref a), .val (.int lo0), .val (.int hi0), .val (.int vl), .val (.int bl2), .val (.int ab2), .val (.int sp), .val (.int md)] []))
            have hv2 := own_geI hc10
            refine Goes.of (fun t k => XS.iload XloopB.here hx rfl (hb hby d5_91) rfl k) ?_
            show Goes _ _ _ _ _ _ _ (TloopB.setTop (mkF m 93 #[.val (.ref a), .val (.int lo0), .val (.int hi0), .val (.int vl), .val (.int bl2), .val (.int ab2), .val (.int sp), .val (.int md)] [(.int md)]))
            refine Goes.of (fun t k => XS.istore XloopB.here hx rfl (hb hby d5_93) rfl (l' := #[.val (.ref a), .val (.int lo0), .val (.int hi0), .val (.int vl), .val (.int bl2), .val (.int md), .val (.int sp), .val (.int md)]) rfl k) ?_
            show Goes _ _ _ _ _ _ _ (TloopB.setTop (mkF m 95 #[.val (.ref a), .val (.int lo0), .val (.int hi0), .val (.int vl), .val (.int bl2), .val (.int md), .val (.int sp), .val (.int md)] []))
            refine Goes.of (fun t k => XS.goto XloopB.here hx rfl (pc0 := 95) (pc' := 58) rfl (hb hby d5_95) (by decide) (by decide) k) ?_
            show Goes _ _ _ _ _ _ _ (TloopB.setTop (mkF m 58 #[.val (.ref a), .val (.int lo0), .val (.int hi0), .val (.int vl), .val (.int bl2), .val (.int md), .val (.int sp), .val (.int md)] []))
            exact ih bl2 md (.val (.int md)) _ _ XloopB eloopB NloopB (One.val rfl) (by omega) (by omega) g2 (fun i h1 h2 => by have := hs md.toNatClampNeg i (by omega) (by omega) (by omega); omega)
        · refine Goes.of (fun t k => XS.icmpYes XloopB.here hx rfl (pc0 := 64) (pc' := 98) rfl (hb hby d5_64) rfl (flt hc9).2.2.2 (by decide) (by decide) k) ?_
          show Goes _ _ _ _ _ _ _ (TloopB.setTop (mkF m 98 #[.val (.ref a), .val (.int lo0), .val (.int hi0), .val (.int vl), .val (.int bl2), .val (.int ab2), .val (.int sp), s7] []))
          have hd2 := own_geI hc9
          rw [es2, own_k1] at hd2
          refine Goes.of (fun t k => XS.iload XloopB.here hx rfl (hb hby d5_98) rfl k) ?_
          show Goes _ _ _ _ _ _ _ (TloopB.setTop (mkF m 100 #[.val (.ref a), .val (.int lo0), .val (.int hi0), .val (.int vl), .val (.int bl2), .val (.int ab2), .val (.int sp), s7] [(.int ab2)]))
          exact Goes.fin XloopB hlk (v := some (.int ab2)) (fun h => by rw [Bd.returns] at h; cases h) (fun fs hr => retI XloopB hx Bd.returns (hb hby d5_100) hr) ⟨ab2, rfl, NloopB, eloopB, by omega, by omega, fun i h1 h2 => g2 i h1 (by omega), g3⟩ (by decide) (by decide)
    exact loopB 40 bl ab (.unset) _ _ X8 e8 N8 One.u (by omega) hg8_sp_0 hg8_sp_1 hg8_sp_2
  have e1 : (lo0 - (1 : Int32)).toInt = lo0.toInt - 1 := own_subi (by omega) (by decide)
  have loopA : ∀ (k : Nat), ∀ (b1 : Int32) (a1 : Int32) (s1 : Int32) (TloopA : State) (lcloopA : List Loc), Stand p l e ({ frames := 0, cells := 0, slots := 0, locals := 0 } : Room) s m #[(.ref a), (.int lo0), (.int hi0), (.int vl)] below meth c TloopA lcloopA 0 0 → TloopA.heap = h0 → Fr n0 lcloopA → (hi0.toInt - a1.toInt ≤ (k : Nat)) → ((lo0.toInt - 1 ≤ b1.toInt ∧ b1.toInt < a1.toInt ∧ a1.toInt ≤ hi0.toInt)) → ((∀ i : Nat, lo0.toInt ≤ i → i ≤ b1.toInt → (f i).toInt < vl.toInt)) → (1 ≤ s1.toInt ∧ s1.toInt ≤ 22 ∧ (a1.toInt < hi0.toInt → s1.toInt ≤ a1.toInt - lo0.toInt + 1)) → Goes p.tables e below s (Q5 lo0 hi0 vl f h0 n0) 0 0 (TloopA.setTop (mkF m 11 #[.val (.ref a), .val (.int lo0), .val (.int hi0), .val (.int vl), .val (.int b1), .val (.int a1), .val (.int s1), .unset] [])) := by
    intro k
    induction k with
    | zero =>
      intro b1 a1 s1 TloopA lcloopA XloopA eloopA NloopA  hk i1 i2 i3
      have hlt : ¬ a1 < hi0 := own_nlt (by omega)
      show Goes _ _ _ _ _ _ _ (TloopA.setTop (mkF m 11 #[.val (.ref a), .val (.int lo0), .val (.int hi0), .val (.int vl), .val (.int b1), .val (.int a1), .val (.int s1), .unset] []))
      refine Goes.of (fun t k => XS.iload XloopA.here hx rfl (hb hby d5_11) rfl k) ?_
      show Goes _ _ _ _ _ _ _ (TloopA.setTop (mkF m 13 #[.val (.ref a), .val (.int lo0), .val (.int hi0), .val (.int vl), .val (.int b1), .val (.int a1), .val (.int s1), .unset] [(.int a1)]))
      refine Goes.of (fun t k => XS.iloadN XloopA.here hx rfl (hb hby d5_13) rfl k) ?_
      show Goes _ _ _ _ _ _ _ (TloopA.setTop (mkF m 14 #[.val (.ref a), .val (.int lo0), .val (.int hi0), .val (.int vl), .val (.int b1), .val (.int a1), .val (.int s1), .unset] [(.int hi0), (.int a1)]))
      refine Goes.of (fun t k => XS.icmpYes XloopA.here hx rfl (pc0 := 14) (pc' := 58) rfl (hb hby d5_14) rfl (flt hlt).2.1 (by decide) (by decide) k) ?_
      show Goes _ _ _ _ _ _ _ (TloopA.setTop (mkF m 58 #[.val (.ref a), .val (.int lo0), .val (.int hi0), .val (.int vl), .val (.int b1), .val (.int a1), .val (.int s1), .unset] []))
      exact j8 _ _ b1 a1 s1 XloopA eloopA NloopA i1 i2 (fun i h1 h2 => by have := own_geI hlt; omega)
    | succ k ih =>
      intro b1 a1 s1 TloopA lcloopA XloopA eloopA NloopA  hk i1 i2 i3
      show Goes _ _ _ _ _ _ _ (TloopA.setTop (mkF m 11 #[.val (.ref a), .val (.int lo0), .val (.int hi0), .val (.int vl), .val (.int b1), .val (.int a1), .val (.int s1), .unset] []))
      refine Goes.of (fun t k => XS.iload XloopA.here hx rfl (hb hby d5_11) rfl k) ?_
      show Goes _ _ _ _ _ _ _ (TloopA.setTop (mkF m 13 #[.val (.ref a), .val (.int lo0), .val (.int hi0), .val (.int vl), .val (.int b1), .val (.int a1), .val (.int s1), .unset] [(.int a1)]))
      refine Goes.of (fun t k => XS.iloadN XloopA.here hx rfl (hb hby d5_13) rfl k) ?_
      show Goes _ _ _ _ _ _ _ (TloopA.setTop (mkF m 14 #[.val (.ref a), .val (.int lo0), .val (.int hi0), .val (.int vl), .val (.int b1), .val (.int a1), .val (.int s1), .unset] [(.int hi0), (.int a1)]))
      by_cases hc11 : a1 < hi0
      · refine Goes.of (fun t k => XS.icmpNo XloopA.here hx rfl (hb hby d5_14) rfl (tlt hc11).2.1 k) ?_
        show Goes _ _ _ _ _ _ _ (TloopA.setTop (mkF m 17 #[.val (.ref a), .val (.int lo0), .val (.int hi0), .val (.int vl), .val (.int b1), .val (.int a1), .val (.int s1), .unset] []))
        have hA := own_ltI hc11
        have han := nat_of (own_nn (j := a1) (by omega))
        refine Goes.of (fun t k => XS.aloadN XloopA.here hx rfl (hb hby d5_17) rfl rfl k) ?_
        show Goes _ _ _ _ _ _ _ (TloopA.setTop (mkF m 18 #[.val (.ref a), .val (.int lo0), .val (.int hi0), .val (.int vl), .val (.int b1), .val (.int a1), .val (.int s1), .unset] [(.ref a)]))
        refine Goes.of (fun t k => XS.iload XloopA.here hx rfl (hb hby d5_18) rfl k) ?_
        show Goes _ _ _ _ _ _ _ (TloopA.setTop (mkF m 20 #[.val (.ref a), .val (.int lo0), .val (.int hi0), .val (.int vl), .val (.int b1), .val (.int a1), .val (.int s1), .unset] [(.int a1), (.ref a)]))
        refine Goes.of (fun t k => ldI XloopA hx hZ eloopA V_a (j := a1) (i := a1.toNatClampNeg) (v := (f a1.toNatClampNeg)) (own_nn (by omega)) rfl (own_ltn (by omega) (by omega)) rfl (g := (mkF m 20 #[.val (.ref a), .val (.int lo0), .val (.int hi0), .val (.int vl), .val (.int b1), .val (.int a1), .val (.int s1), .unset] [(.int a1), (.ref a)])) rfl rfl (hb hby d5_20) t k) ?_
        show Goes _ _ _ _ _ _ _ (TloopA.setTop (mkF m 21 #[.val (.ref a), .val (.int lo0), .val (.int hi0), .val (.int vl), .val (.int b1), .val (.int a1), .val (.int s1), .unset] [(.int (f a1.toNatClampNeg))]))
        refine Goes.of (fun t k => XS.iloadN XloopA.here hx rfl (hb hby d5_21) rfl k) ?_
        show Goes _ _ _ _ _ _ _ (TloopA.setTop (mkF m 22 #[.val (.ref a), .val (.int lo0), .val (.int hi0), .val (.int vl), .val (.int b1), .val (.int a1), .val (.int s1), .unset] [(.int vl), (.int (f a1.toNatClampNeg))]))
        by_cases hc12 : (f a1.toNatClampNeg) < vl
        · refine Goes.of (fun t k => XS.icmpNo XloopA.here hx rfl (hb hby d5_22) rfl (tlt hc12).2.1 k) ?_
          show Goes _ _ _ _ _ _ _ (TloopA.setTop (mkF m 25 #[.val (.ref a), .val (.int lo0), .val (.int hi0), .val (.int vl), .val (.int b1), .val (.int a1), .val (.int s1), .unset] []))
          have hV := own_ltI hc12
          have h3s := i3.2.2 hA
          have eA : (a1 + s1).toInt = a1.toInt + s1.toInt := own_addi (by omega) (by omega)
          have eS : (s1 * (2 : Int32)).toInt = 2 * s1.toInt := own_dbl (by omega)
          have eD : (hi0 - a1).toInt = hi0.toInt - a1.toInt := own_subi (by omega) (by omega)
          refine Goes.of (fun t k => XS.iload XloopA.here hx rfl (hb hby d5_25) rfl k) ?_
          show Goes _ _ _ _ _ _ _ (TloopA.setTop (mkF m 27 #[.val (.ref a), .val (.int lo0), .val (.int hi0), .val (.int vl), .val (.int b1), .val (.int a1), .val (.int s1), .unset] [(.int a1)]))
          refine Goes.of (fun t k => XS.istore XloopA.here hx rfl (hb hby d5_27) rfl (l' := #[.val (.ref a), .val (.int lo0), .val (.int hi0), .val (.int vl), .val (.int a1), .val (.int a1), .val (.int s1), .unset]) rfl k) ?_
          show Goes _ _ _ _ _ _ _ (TloopA.setTop (mkF m 29 #[.val (.ref a), .val (.int lo0), .val (.int hi0), .val (.int vl), .val (.int a1), .val (.int a1), .val (.int s1), .unset] []))
          refine Goes.of (fun t k => XS.iloadN XloopA.here hx rfl (hb hby d5_29) rfl k) ?_
          show Goes _ _ _ _ _ _ _ (TloopA.setTop (mkF m 30 #[.val (.ref a), .val (.int lo0), .val (.int hi0), .val (.int vl), .val (.int a1), .val (.int a1), .val (.int s1), .unset] [(.int hi0)]))
          refine Goes.of (fun t k => XS.iload XloopA.here hx rfl (hb hby d5_30) rfl k) ?_
          show Goes _ _ _ _ _ _ _ (TloopA.setTop (mkF m 32 #[.val (.ref a), .val (.int lo0), .val (.int hi0), .val (.int vl), .val (.int a1), .val (.int a1), .val (.int s1), .unset] [(.int a1), (.int hi0)]))
          refine Goes.of (fun t k => XS.isub XloopA.here hx rfl (hb hby d5_32) rfl k) ?_
          show Goes _ _ _ _ _ _ _ (TloopA.setTop (mkF m 33 #[.val (.ref a), .val (.int lo0), .val (.int hi0), .val (.int vl), .val (.int a1), .val (.int a1), .val (.int s1), .unset] [(.int (hi0 - a1))]))
          refine Goes.of (fun t k => XS.iload XloopA.here hx rfl (hb hby d5_33) rfl k) ?_
          show Goes _ _ _ _ _ _ _ (TloopA.setTop (mkF m 35 #[.val (.ref a), .val (.int lo0), .val (.int hi0), .val (.int vl), .val (.int a1), .val (.int a1), .val (.int s1), .unset] [(.int s1), (.int (hi0 - a1))]))
          by_cases hc13 : s1 < (hi0 - a1)
          · refine Goes.of (fun t k => XS.icmpNo XloopA.here hx rfl (hb hby d5_35) rfl (tlt hc13).2.2.2 k) ?_
            show Goes _ _ _ _ _ _ _ (TloopA.setTop (mkF m 38 #[.val (.ref a), .val (.int lo0), .val (.int hi0), .val (.int vl), .val (.int a1), .val (.int a1), .val (.int s1), .unset] []))
            refine Goes.of (fun t k => XS.iload XloopA.here hx rfl (hb hby d5_38) rfl k) ?_
            show Goes _ _ _ _ _ _ _ (TloopA.setTop (mkF m 40 #[.val (.ref a), .val (.int lo0), .val (.int hi0), .val (.int vl), .val (.int a1), .val (.int a1), .val (.int s1), .unset] [(.int a1)]))
            refine Goes.of (fun t k => XS.iload XloopA.here hx rfl (hb hby d5_40) rfl k) ?_
            show Goes _ _ _ _ _ _ _ (TloopA.setTop (mkF m 42 #[.val (.ref a), .val (.int lo0), .val (.int hi0), .val (.int vl), .val (.int a1), .val (.int a1), .val (.int s1), .unset] [(.int s1), (.int a1)]))
            refine Goes.of (fun t k => XS.iadd XloopA.here hx rfl (hb hby d5_42) rfl k) ?_
            show Goes _ _ _ _ _ _ _ (TloopA.setTop (mkF m 43 #[.val (.ref a), .val (.int lo0), .val (.int hi0), .val (.int vl), .val (.int a1), .val (.int a1), .val (.int s1), .unset] [(.int (a1 + s1))]))
            refine Goes.of (fun t k => XS.goto XloopA.here hx rfl (pc0 := 43) (pc' := 47) rfl (hb hby d5_43) (by decide) (by decide) k) ?_
            show Goes _ _ _ _ _ _ _ (TloopA.setTop (mkF m 47 #[.val (.ref a), .val (.int lo0), .val (.int hi0), .val (.int vl), .val (.int a1), .val (.int a1), .val (.int s1), .unset] [(.int (a1 + s1))]))
            refine Goes.of (fun t k => XS.istore XloopA.here hx rfl (hb hby d5_47) rfl (l' := #[.val (.ref a), .val (.int lo0), .val (.int hi0), .val (.int vl), .val (.int a1), .val (.int (a1 + s1)), .val (.int s1), .unset]) rfl k) ?_
            show Goes _ _ _ _ _ _ _ (TloopA.setTop (mkF m 49 #[.val (.ref a), .val (.int lo0), .val (.int hi0), .val (.int vl), .val (.int a1), .val (.int (a1 + s1)), .val (.int s1), .unset] []))
            have hD := own_ltI hc13
            refine Goes.of (fun t k => XS.iload XloopA.here hx rfl (hb hby d5_49) rfl k) ?_
            show Goes _ _ _ _ _ _ _ (TloopA.setTop (mkF m 51 #[.val (.ref a), .val (.int lo0), .val (.int hi0), .val (.int vl), .val (.int a1), .val (.int (a1 + s1)), .val (.int s1), .unset] [(.int s1)]))
            refine Goes.of (fun t k => XS.iconst XloopA.here hx rfl (hb hby d5_51) k) ?_
            show Goes _ _ _ _ _ _ _ (TloopA.setTop (mkF m 52 #[.val (.ref a), .val (.int lo0), .val (.int hi0), .val (.int vl), .val (.int a1), .val (.int (a1 + s1)), .val (.int s1), .unset] [(.int (2 : Int32)), (.int s1)]))
            refine Goes.of (fun t k => XS.imul XloopA.here hx rfl (hb hby d5_52) rfl k) ?_
            show Goes _ _ _ _ _ _ _ (TloopA.setTop (mkF m 53 #[.val (.ref a), .val (.int lo0), .val (.int hi0), .val (.int vl), .val (.int a1), .val (.int (a1 + s1)), .val (.int s1), .unset] [(.int (s1 * (2 : Int32)))]))
            refine Goes.of (fun t k => XS.istore XloopA.here hx rfl (hb hby d5_53) rfl (l' := #[.val (.ref a), .val (.int lo0), .val (.int hi0), .val (.int vl), .val (.int a1), .val (.int (a1 + s1)), .val (.int (s1 * (2 : Int32))), .unset]) rfl k) ?_
            show Goes _ _ _ _ _ _ _ (TloopA.setTop (mkF m 55 #[.val (.ref a), .val (.int lo0), .val (.int hi0), .val (.int vl), .val (.int a1), .val (.int (a1 + s1)), .val (.int (s1 * (2 : Int32))), .unset] []))
            refine Goes.of (fun t k => XS.goto XloopA.here hx rfl (pc0 := 55) (pc' := 11) rfl (hb hby d5_55) (by decide) (by decide) k) ?_
            show Goes _ _ _ _ _ _ _ (TloopA.setTop (mkF m 11 #[.val (.ref a), .val (.int lo0), .val (.int hi0), .val (.int vl), .val (.int a1), .val (.int (a1 + s1)), .val (.int (s1 * (2 : Int32))), .unset] []))
            exact ih a1 (a1 + s1) (s1 * (2 : Int32)) _ _ XloopA eloopA NloopA  (by omega) (by omega) (fun i h1 h2 => by have := hs i a1.toNatClampNeg h1 (by omega) (by omega); omega) (by omega)
          · refine Goes.of (fun t k => XS.icmpYes XloopA.here hx rfl (pc0 := 35) (pc' := 46) rfl (hb hby d5_35) rfl (flt hc13).2.2.2 (by decide) (by decide) k) ?_
            show Goes _ _ _ _ _ _ _ (TloopA.setTop (mkF m 46 #[.val (.ref a), .val (.int lo0), .val (.int hi0), .val (.int vl), .val (.int a1), .val (.int a1), .val (.int s1), .unset] []))
            refine Goes.of (fun t k => XS.iloadN XloopA.here hx rfl (hb hby d5_46) rfl k) ?_
            show Goes _ _ _ _ _ _ _ (TloopA.setTop (mkF m 47 #[.val (.ref a), .val (.int lo0), .val (.int hi0), .val (.int vl), .val (.int a1), .val (.int a1), .val (.int s1), .unset] [(.int hi0)]))
            refine Goes.of (fun t k => XS.istore XloopA.here hx rfl (hb hby d5_47) rfl (l' := #[.val (.ref a), .val (.int lo0), .val (.int hi0), .val (.int vl), .val (.int a1), .val (.int hi0), .val (.int s1), .unset]) rfl k) ?_
            show Goes _ _ _ _ _ _ _ (TloopA.setTop (mkF m 49 #[.val (.ref a), .val (.int lo0), .val (.int hi0), .val (.int vl), .val (.int a1), .val (.int hi0), .val (.int s1), .unset] []))
            have hD := own_geI hc13
            refine Goes.of (fun t k => XS.iload XloopA.here hx rfl (hb hby d5_49) rfl k) ?_
            show Goes _ _ _ _ _ _ _ (TloopA.setTop (mkF m 51 #[.val (.ref a), .val (.int lo0), .val (.int hi0), .val (.int vl), .val (.int a1), .val (.int hi0), .val (.int s1), .unset] [(.int s1)]))
            refine Goes.of (fun t k => XS.iconst XloopA.here hx rfl (hb hby d5_51) k) ?_
            show Goes _ _ _ _ _ _ _ (TloopA.setTop (mkF m 52 #[.val (.ref a), .val (.int lo0), .val (.int hi0), .val (.int vl), .val (.int a1), .val (.int hi0), .val (.int s1), .unset] [(.int (2 : Int32)), (.int s1)]))
            refine Goes.of (fun t k => XS.imul XloopA.here hx rfl (hb hby d5_52) rfl k) ?_
            show Goes _ _ _ _ _ _ _ (TloopA.setTop (mkF m 53 #[.val (.ref a), .val (.int lo0), .val (.int hi0), .val (.int vl), .val (.int a1), .val (.int hi0), .val (.int s1), .unset] [(.int (s1 * (2 : Int32)))]))
            refine Goes.of (fun t k => XS.istore XloopA.here hx rfl (hb hby d5_53) rfl (l' := #[.val (.ref a), .val (.int lo0), .val (.int hi0), .val (.int vl), .val (.int a1), .val (.int hi0), .val (.int (s1 * (2 : Int32))), .unset]) rfl k) ?_
            show Goes _ _ _ _ _ _ _ (TloopA.setTop (mkF m 55 #[.val (.ref a), .val (.int lo0), .val (.int hi0), .val (.int vl), .val (.int a1), .val (.int hi0), .val (.int (s1 * (2 : Int32))), .unset] []))
            refine Goes.of (fun t k => XS.goto XloopA.here hx rfl (pc0 := 55) (pc' := 11) rfl (hb hby d5_55) (by decide) (by decide) k) ?_
            show Goes _ _ _ _ _ _ _ (TloopA.setTop (mkF m 11 #[.val (.ref a), .val (.int lo0), .val (.int hi0), .val (.int vl), .val (.int a1), .val (.int hi0), .val (.int (s1 * (2 : Int32))), .unset] []))
            exact ih a1 hi0 (s1 * (2 : Int32)) _ _ XloopA eloopA NloopA  (by omega) (by omega) (fun i h1 h2 => by have := hs i a1.toNatClampNeg h1 (by omega) (by omega); omega) (by omega)
        · refine Goes.of (fun t k => XS.icmpYes XloopA.here hx rfl (pc0 := 22) (pc' := 58) rfl (hb hby d5_22) rfl (flt hc12).2.1 (by decide) (by decide) k) ?_
          show Goes _ _ _ _ _ _ _ (TloopA.setTop (mkF m 58 #[.val (.ref a), .val (.int lo0), .val (.int hi0), .val (.int vl), .val (.int b1), .val (.int a1), .val (.int s1), .unset] []))
          exact j8 _ _ b1 a1 s1 XloopA eloopA NloopA i1 i2 (fun i h1 h2 => by have := hs a1.toNatClampNeg i (by omega) (by omega) (by omega); have := own_geI hc12; omega)
      · refine Goes.of (fun t k => XS.icmpYes XloopA.here hx rfl (pc0 := 14) (pc' := 58) rfl (hb hby d5_14) rfl (flt hc11).2.1 (by decide) (by decide) k) ?_
        show Goes _ _ _ _ _ _ _ (TloopA.setTop (mkF m 58 #[.val (.ref a), .val (.int lo0), .val (.int hi0), .val (.int vl), .val (.int b1), .val (.int a1), .val (.int s1), .unset] []))
        exact j8 _ _ b1 a1 s1 XloopA eloopA NloopA i1 i2 (fun i h1 h2 => by have := own_geI hc11; omega)
  exact loopA 10 (lo0 - (1 : Int32)) lo0 (1 : Int32) _ _ X0 e0 N0  (by omega) (by omega) (fun i h1 h2 => by omega) (by rw [own_k1]; omega)
theorem own_nextmono (v d k : Int32) : v.toInt ≤ (f1 v d k).toInt := by
  unfold f1
  have m := c_and (((d.toUInt32 >>> (((3 : Int32) * k) &&& 31).toUInt32).toInt32)) 7 (by decide)
  generalize ((d.toUInt32 >>> (((3 : Int32) * k) &&& 31).toUInt32).toInt32) &&& (7 : Int32) = w at m ⊢
  rw [show (7 : Int32).toInt = 7 from rfl] at m
  have a := c_ladd v.toInt64 w.toInt64
  rw [c_i2l, c_i2l] at a
  have r := rng64 (v.toInt64 + w.toInt64)
  have rv := rng32 v
  unfold f2
  by_cases h : (2147483647 : Int64) < v.toInt64 + w.toInt64
  · rw [if_pos h]
    show _ ≤ (2147483647 : Int64).toInt32.toInt
    rw [show (2147483647 : Int64).toInt32.toInt = 2147483647 from rfl]; omega
  · rw [if_neg h]
    rw [Int64.lt_iff_toInt_lt, show (2147483647 : Int64).toInt = 2147483647 from rfl] at h
    have c := c_l2i (v.toInt64 + w.toInt64)
    have r2 := rng32 (v.toInt64 + w.toInt64).toInt32
    omega
theorem own_rem (u y : Int32) (hy : 0 < y.toInt) : 0 ≤ ((u &&& (2147483647 : Int32)) % y).toInt ∧ ((u &&& (2147483647 : Int32)) % y).toInt < y.toInt := by
  have m := c_and u 2147483647 (by decide)
  have k := (c_iremV (u &&& 2147483647) y).1 m.1 hy
  exact ⟨k.1, k.2.1⟩
/-- one place's share of the count -/
theorem own_lt1 (a i lo hi v r : Int32) (h1 : lo.toInt ≤ r.toInt) (h2 : r.toInt ≤ hi.toInt) (h3 : lo.toInt ≤ i.toInt → i.toInt < r.toInt → a.toInt < v.toInt) (h4 : r.toInt ≤ i.toInt → i.toInt < hi.toInt → ¬ a.toInt < v.toInt) :
    (lo.toInt ≤ i.toInt ∧ i.toInt < r.toInt ∧ (f4 a i lo hi v).toInt = 1) ∨ ((i.toInt < lo.toInt ∨ r.toInt ≤ i.toInt) ∧ (f4 a i lo hi v).toInt = 0) := by
  have k0 : (0 : Int32).toInt = 0 := rfl
  unfold f4
  simp only [Int32.lt_iff_toInt_lt]
  repeat' split
  all_goals (first | (left; refine ⟨?_, ?_, rfl⟩ <;> omega) | (right; refine ⟨?_, rfl⟩; omega) | (exfalso; omega))
theorem own_pick (a i lo hi j : Int32) (h1 : lo.toInt ≤ i.toInt) (h2 : i.toInt < hi.toInt) : f3 a i lo hi j = a := by
  unfold f3
  rw [if_neg (own_nlt h1), if_pos (own_ilt h2)]
def own_tab (a0 a1 a2 a3 a4 a5 a6 a7 a8 a9 : Int32) : Nat → Int32
  | 0 => a0 | 1 => a1 | 2 => a2 | 3 => a3 | 4 => a4 | 5 => a5 | 6 => a6 | 7 => a7 | 8 => a8 | _ => a9
theorem own_tab0 (a0 a1 a2 a3 a4 a5 a6 a7 a8 a9 : Int32) : own_tab a0 a1 a2 a3 a4 a5 a6 a7 a8 a9 0 = a0 := rfl
theorem own_e0 : (0 : Int32).toInt = ((0 : Nat) : Int) := rfl
theorem own_tab1 (a0 a1 a2 a3 a4 a5 a6 a7 a8 a9 : Int32) : own_tab a0 a1 a2 a3 a4 a5 a6 a7 a8 a9 1 = a1 := rfl
theorem own_e1 : (1 : Int32).toInt = ((1 : Nat) : Int) := rfl
theorem own_tab2 (a0 a1 a2 a3 a4 a5 a6 a7 a8 a9 : Int32) : own_tab a0 a1 a2 a3 a4 a5 a6 a7 a8 a9 2 = a2 := rfl
theorem own_e2 : (2 : Int32).toInt = ((2 : Nat) : Int) := rfl
theorem own_tab3 (a0 a1 a2 a3 a4 a5 a6 a7 a8 a9 : Int32) : own_tab a0 a1 a2 a3 a4 a5 a6 a7 a8 a9 3 = a3 := rfl
theorem own_e3 : (3 : Int32).toInt = ((3 : Nat) : Int) := rfl
theorem own_tab4 (a0 a1 a2 a3 a4 a5 a6 a7 a8 a9 : Int32) : own_tab a0 a1 a2 a3 a4 a5 a6 a7 a8 a9 4 = a4 := rfl
theorem own_e4 : (4 : Int32).toInt = ((4 : Nat) : Int) := rfl
theorem own_tab5 (a0 a1 a2 a3 a4 a5 a6 a7 a8 a9 : Int32) : own_tab a0 a1 a2 a3 a4 a5 a6 a7 a8 a9 5 = a5 := rfl
theorem own_e5 : (5 : Int32).toInt = ((5 : Nat) : Int) := rfl
theorem own_tab6 (a0 a1 a2 a3 a4 a5 a6 a7 a8 a9 : Int32) : own_tab a0 a1 a2 a3 a4 a5 a6 a7 a8 a9 6 = a6 := rfl
theorem own_e6 : (6 : Int32).toInt = ((6 : Nat) : Int) := rfl
theorem own_tab7 (a0 a1 a2 a3 a4 a5 a6 a7 a8 a9 : Int32) : own_tab a0 a1 a2 a3 a4 a5 a6 a7 a8 a9 7 = a7 := rfl
theorem own_e7 : (7 : Int32).toInt = ((7 : Nat) : Int) := rfl
theorem own_tab8 (a0 a1 a2 a3 a4 a5 a6 a7 a8 a9 : Int32) : own_tab a0 a1 a2 a3 a4 a5 a6 a7 a8 a9 8 = a8 := rfl
theorem own_e8 : (8 : Int32).toInt = ((8 : Nat) : Int) := rfl
theorem own_tab9 (a0 a1 a2 a3 a4 a5 a6 a7 a8 a9 : Int32) : own_tab a0 a1 a2 a3 a4 a5 a6 a7 a8 a9 9 = a9 := rfl
theorem own_e9 : (9 : Int32).toInt = ((9 : Nat) : Int) := rfl
theorem own_upd_eq {f : Nat → Int32} {i : Nat} {v : Int32} : upd f i v i = v := if_pos rfl
theorem own_upd_ne {f : Nat → Int32} {i j : Nat} {v : Int32} (h : j ≠ i) : upd f i v j = f j := if_neg h
theorem own_mono (a0 a1 a2 a3 a4 a5 a6 a7 a8 a9 : Int32) (m1 : a0.toInt ≤ a1.toInt) (m2 : a1.toInt ≤ a2.toInt) (m3 : a2.toInt ≤ a3.toInt) (m4 : a3.toInt ≤ a4.toInt) (m5 : a4.toInt ≤ a5.toInt) (m6 : a5.toInt ≤ a6.toInt) (m7 : a6.toInt ≤ a7.toInt) (m8 : a7.toInt ≤ a8.toInt) (m9 : a8.toInt ≤ a9.toInt) :
    ∀ i j : Nat, i ≤ j → j ≤ 9 → (own_tab a0 a1 a2 a3 a4 a5 a6 a7 a8 a9 i).toInt ≤ (own_tab a0 a1 a2 a3 a4 a5 a6 a7 a8 a9 j).toInt := by
  have st : ∀ k, k < 9 → (own_tab a0 a1 a2 a3 a4 a5 a6 a7 a8 a9 k).toInt ≤ (own_tab a0 a1 a2 a3 a4 a5 a6 a7 a8 a9 (k + 1)).toInt := by
    intro k hk
    have c : k = 0 ∨ k = 1 ∨ k = 2 ∨ k = 3 ∨ k = 4 ∨ k = 5 ∨ k = 6 ∨ k = 7 ∨ k = 8 := by omega
    rcases c with rfl | rfl | rfl | rfl | rfl | rfl | rfl | rfl | rfl
    · exact m1
    · exact m2
    · exact m3
    · exact m4
    · exact m5
    · exact m6
    · exact m7
    · exact m8
    · exact m9
  intro i j h
  induction j with
  | zero => intro _; rw [show i = 0 by omega]; exact Int.le_refl _
  | succ j ih =>
    intro hj
    by_cases q : i = j + 1
    · rw [q]; exact Int.le_refl _
    · exact Int.le_trans (ih (by omega) (by omega)) (st j (by omega))
theorem own_st (lo r s t : Int32) (i : Int) (h0 : 0 ≤ lo.toInt) (h1 : lo.toInt ≤ r.toInt) (h2 : r.toInt ≤ 10) (hi : 0 ≤ i ∧ i < 10) (hs : (i ≤ lo.toInt → s.toInt = lo.toInt) ∧ (lo.toInt ≤ i → i ≤ r.toInt → s.toInt = i) ∧ (r.toInt ≤ i → s.toInt = r.toInt))
    (ht : (lo.toInt ≤ i ∧ i < r.toInt ∧ t.toInt = 1) ∨ ((i < lo.toInt ∨ r.toInt ≤ i) ∧ t.toInt = 0)) : (i + 1 ≤ lo.toInt → (s + t).toInt = lo.toInt) ∧ (lo.toInt ≤ i + 1 → i + 1 ≤ r.toInt → (s + t).toInt = i + 1) ∧ (r.toInt ≤ i + 1 → (s + t).toInt = r.toInt) := by
  have e : (s + t).toInt = s.toInt + t.toInt := own_addi (by omega) (by omega)
  rw [e]
  omega
theorem own_sum (lo r t0 t1 t2 t3 t4 t5 t6 t7 t8 t9 : Int32) (h0 : 0 ≤ lo.toInt) (h1 : lo.toInt ≤ r.toInt) (h2 : r.toInt ≤ 10) (c0 : (lo.toInt ≤ (0 : Int32).toInt ∧ (0 : Int32).toInt < r.toInt ∧ t0.toInt = 1) ∨ (((0 : Int32).toInt < lo.toInt ∨ r.toInt ≤ (0 : Int32).toInt) ∧ t0.toInt = 0)) (c1 : (lo.toInt ≤ (1 : Int32).toInt ∧ (1 : Int32).toInt < r.toInt ∧ t1.toInt = 1) ∨ (((1 : Int32).toInt < lo.toInt ∨ r.toInt ≤ (1 : Int32).toInt) ∧ t1.toInt = 0)) (c2 : (lo.toInt ≤ (2 : Int32).toInt ∧ (2 : Int32).toInt < r.toInt ∧ t2.toInt = 1) ∨ (((2 : Int32).toInt < lo.toInt ∨ r.toInt ≤ (2 : Int32).toInt) ∧ t2.toInt = 0)) (c3 : (lo.toInt ≤ (3 : Int32).toInt ∧ (3 : Int32).toInt < r.toInt ∧ t3.toInt = 1) ∨ (((3 : Int32).toInt < lo.toInt ∨ r.toInt ≤ (3 : Int32).toInt) ∧ t3.toInt = 0)) (c4 : (lo.toInt ≤ (4 : Int32).toInt ∧ (4 : Int32).toInt < r.toInt ∧ t4.toInt = 1) ∨ (((4 : Int32).toInt < lo.toInt ∨ r.toInt ≤ (4 : Int32).toInt) ∧ t4.toInt = 0)) (c5 : (lo.toInt ≤ (5 : Int32).toInt ∧ (5 : Int32).toInt < r.toInt ∧ t5.toInt = 1) ∨ (((5 : Int32).toInt < lo.toInt ∨ r.toInt ≤ (5 : Int32).toInt) ∧ t5.toInt = 0)) (c6 : (lo.toInt ≤ (6 : Int32).toInt ∧ (6 : Int32).toInt < r.toInt ∧ t6.toInt = 1) ∨ (((6 : Int32).toInt < lo.toInt ∨ r.toInt ≤ (6 : Int32).toInt) ∧ t6.toInt = 0)) (c7 : (lo.toInt ≤ (7 : Int32).toInt ∧ (7 : Int32).toInt < r.toInt ∧ t7.toInt = 1) ∨ (((7 : Int32).toInt < lo.toInt ∨ r.toInt ≤ (7 : Int32).toInt) ∧ t7.toInt = 0)) (c8 : (lo.toInt ≤ (8 : Int32).toInt ∧ (8 : Int32).toInt < r.toInt ∧ t8.toInt = 1) ∨ (((8 : Int32).toInt < lo.toInt ∨ r.toInt ≤ (8 : Int32).toInt) ∧ t8.toInt = 0)) (c9 : (lo.toInt ≤ (9 : Int32).toInt ∧ (9 : Int32).toInt < r.toInt ∧ t9.toInt = 1) ∨ (((9 : Int32).toInt < lo.toInt ∨ r.toInt ≤ (9 : Int32).toInt) ∧ t9.toInt = 0)) : r.toInt = ((((((((((lo + t0) + t1) + t2) + t3) + t4) + t5) + t6) + t7) + t8) + t9).toInt := by
  have s0 := own_st lo r lo t0 0 h0 h1 h2 (by omega) (by omega) c0
  have s1 := own_st lo r _ t1 1 h0 h1 h2 (by omega) s0 c1
  have s2 := own_st lo r _ t2 2 h0 h1 h2 (by omega) s1 c2
  have s3 := own_st lo r _ t3 3 h0 h1 h2 (by omega) s2 c3
  have s4 := own_st lo r _ t4 4 h0 h1 h2 (by omega) s3 c4
  have s5 := own_st lo r _ t5 5 h0 h1 h2 (by omega) s4 c5
  have s6 := own_st lo r _ t6 6 h0 h1 h2 (by omega) s5 c6
  have s7 := own_st lo r _ t7 7 h0 h1 h2 (by omega) s6 c7
  have s8 := own_st lo r _ t8 8 h0 h1 h2 (by omega) s7 c8
  have s9 := own_st lo r _ t9 9 h0 h1 h2 (by omega) s8 c9
  have := s9.2.2 (by omega)
  omega
theorem pd_1 : parseMethodDescriptor "(III)I" = some ⟨[.int, .int, .int], some .int⟩ := by decide +kernel
theorem pd_2 : parseMethodDescriptor "(IIIII)I" = some ⟨[.int, .int, .int, .int, .int], some .int⟩ := by decide +kernel
theorem pd_3 : parseMethodDescriptor "([IIII)I" = some ⟨[(.array .int), .int, .int, .int], some .int⟩ := by decide +kernel
theorem ef_0 (m : MethodId) (u0 : Int32) (u1 : Int32) (u2 : Int32) (u3 : Int32) (u4 : Int32) (u5 : Int32) : entryFrame m #[(.int u0), (.int u1), (.int u2), (.int u3), (.int u4), (.int u5)] maxLocals = mkF m 0 #[.val (.int u0), .val (.int u1), .val (.int u2), .val (.int u3), .val (.int u4), .val (.int u5), .unset, .unset, .unset, .unset, .unset, .unset, .unset, .unset, .unset, .unset, .unset, .unset, .unset, .unset, .unset] [] := by first | (simp [entryFrame, mkF, argsToLocals, Value.category, maxLocals]; done) | rfl
def Q0 (n0 : Nat) (v : Option Value) (h : Heap) (L : List Loc) : Prop := v = some (.int 1) ∧ Fr n0 L
set_option maxRecDepth 65536 in
set_option maxHeartbeats 40000000 in
theorem rm0 (l : Launch) (Z : State) (a0 : Array Value) (hw : ∀ d ∈ tables_1, d.before a0 Z = true) (ws : List Jvm.Cond) (u0 : Int32) (u1 : Int32) (u2 : Int32) (u3 : Int32) (u4 : Int32) (u5 : Int32) (h0 : Heap) (n0 : Nat) (Z0 : n0 ≤ h0.size) :
    MetFree l x (head1 (Jvm.Cond.code x code maxLocals ret :: ws) room_1) (fun ar' Ur => ar' = #[(.int u0), (.int u1), (.int u2), (.int u3), (.int u4), (.int u5)] ∧ Z.Warmed39 Ur.vm ∧ Ur.heap = h0) (fun _ _ _ _ _ => True) (fun _ Ur or' Us => ∃ v L, or' = .returned v ∧ Q0 n0 v Us.heap L ∧ FrameEnd Ur or' Us L room_1.cells room_1.slots) := by
  refine MetFree.of_bodySF (plainFor_of_name pn_0) hisR ?_
  intro p e s m args below meth c s₁ Bd hml0 hP hK
  obtain ⟨rfl, hZ, hh⟩ := hP
  have hx := Bd.exec
  have hby := Bd.bytes
  have hlk : meth.locks = false := BodyLoose.notSynchronized Bd
  have hml : c.maxLocals = 21 := hml0
  have hown : s.vm.findClass "com/example/orderly_twig/orderlytwig/engine/AscendingSearchFirstAtLeastPinLaw" = some m.cls := findClass_of_methodNamed Bd.named
  have hnm := (name_of_methodNamed Bd.named Bd.method).1
  have X0 : Stand p l e room_1 s m #[(.int u0), (.int u1), (.int u2), (.int u3), (.int u4), (.int u5)] below meth c s₁ [] 0 0 := Stand.of_body Bd
  have e0 : s₁.heap = h0 := by rw [← hh, Bd.state]; rfl
  have N0 := Fr.nil n0
  show Goes p.tables e below s (Q0 n0) room_1.cells room_1.slots (s₁.setTop (entryFrame m #[(.int u0), (.int u1), (.int u2), (.int u3), (.int u4), (.int u5)] maxLocals))
  refine Goes.of (fun t k => castTop (ef_0 m u0 u1 u2 u3 u4 u5) k) ?_
  show Goes _ _ _ _ _ _ _ (s₁.setTop (mkF m 0 #[.val (.int u0), .val (.int u1), .val (.int u2), .val (.int u3), .val (.int u4), .val (.int u5), .unset, .unset, .unset, .unset, .unset, .unset, .unset, .unset, .unset, .unset, .unset, .unset, .unset, .unset, .unset] []))
  refine Goes.of (fun t k => XS.iloadN X0.here hx rfl (hb hby at_0) rfl k) ?_
  show Goes _ _ _ _ _ _ _ (s₁.setTop (mkF m 1 #[.val (.int u0), .val (.int u1), .val (.int u2), .val (.int u3), .val (.int u4), .val (.int u5), .unset, .unset, .unset, .unset, .unset, .unset, .unset, .unset, .unset, .unset, .unset, .unset, .unset, .unset, .unset] [(.int u2)]))
  refine Goes.of (fun t k => X0.ldcInt hx hown (mvT hZ (hw _ (List.mem_of_getElem? (i := 0) rfl))) (g := (mkF m 1 #[.val (.int u0), .val (.int u1), .val (.int u2), .val (.int u3), .val (.int u4), .val (.int u5), .unset, .unset, .unset, .unset, .unset, .unset, .unset, .unset, .unset, .unset, .unset, .unset, .unset, .unset, .unset] [(.int u2)])) rfl (hb hby at_1) t k) ?_
  show Goes _ _ _ _ _ _ _ (s₁.setTop (mkF m 3 #[.val (.int u0), .val (.int u1), .val (.int u2), .val (.int u3), .val (.int u4), .val (.int u5), .unset, .unset, .unset, .unset, .unset, .unset, .unset, .unset, .unset, .unset, .unset, .unset, .unset, .unset, .unset] [(.int (2147483647 : Int32)), (.int u2)]))
  refine Goes.of (fun t k => XS.iand X0.here hx rfl (hb hby at_3) rfl k) ?_
  show Goes _ _ _ _ _ _ _ (s₁.setTop (mkF m 4 #[.val (.int u0), .val (.int u1), .val (.int u2), .val (.int u3), .val (.int u4), .val (.int u5), .unset, .unset, .unset, .unset, .unset, .unset, .unset, .unset, .unset, .unset, .unset, .unset, .unset, .unset, .unset] [(.int (u2 &&& (2147483647 : Int32)))]))
  refine Goes.of (fun t k => XS.bipush X0.here hx rfl (hb hby at_4) k) ?_
  show Goes _ _ _ _ _ _ _ (s₁.setTop (mkF m 6 #[.val (.int u0), .val (.int u1), .val (.int u2), .val (.int u3), .val (.int u4), .val (.int u5), .unset, .unset, .unset, .unset, .unset, .unset, .unset, .unset, .unset, .unset, .unset, .unset, .unset, .unset, .unset] [(.int (11 : Int32)), (.int (u2 &&& (2147483647 : Int32)))]))
  refine Goes.of (fun t k => iremM X0 hx (g := (mkF m 6 #[.val (.int u0), .val (.int u1), .val (.int u2), .val (.int u3), .val (.int u4), .val (.int u5), .unset, .unset, .unset, .unset, .unset, .unset, .unset, .unset, .unset, .unset, .unset, .unset, .unset, .unset, .unset] [(.int (11 : Int32)), (.int (u2 &&& (2147483647 : Int32)))])) rfl (hb hby at_6) rfl (by decide) k) ?_
  show Goes _ _ _ _ _ _ _ (s₁.setTop (mkF m 7 #[.val (.int u0), .val (.int u1), .val (.int u2), .val (.int u3), .val (.int u4), .val (.int u5), .unset, .unset, .unset, .unset, .unset, .unset, .unset, .unset, .unset, .unset, .unset, .unset, .unset, .unset, .unset] [(.int ((u2 &&& (2147483647 : Int32)) % (11 : Int32)))]))
  refine Goes.of (fun t k => XS.istore X0.here hx rfl (hb hby at_7) rfl (l' := #[.val (.int u0), .val (.int u1), .val (.int u2), .val (.int u3), .val (.int u4), .val (.int u5), .val (.int ((u2 &&& (2147483647 : Int32)) % (11 : Int32))), .unset, .unset, .unset, .unset, .unset, .unset, .unset, .unset, .unset, .unset, .unset, .unset, .unset, .unset]) rfl k) ?_
  show Goes _ _ _ _ _ _ _ (s₁.setTop (mkF m 9 #[.val (.int u0), .val (.int u1), .val (.int u2), .val (.int u3), .val (.int u4), .val (.int u5), .val (.int ((u2 &&& (2147483647 : Int32)) % (11 : Int32))), .unset, .unset, .unset, .unset, .unset, .unset, .unset, .unset, .unset, .unset, .unset, .unset, .unset, .unset] []))
  obtain ⟨lo, hy_lo⟩ : ∃ z, z = ((u2 &&& (2147483647 : Int32)) % (11 : Int32)) := ⟨_, rfl⟩
  rw [← hy_lo]
  show Goes _ _ _ _ _ _ _ (s₁.setTop (mkF m 9 #[.val (.int u0), .val (.int u1), .val (.int u2), .val (.int u3), .val (.int u4), .val (.int u5), .val (.int lo), .unset, .unset, .unset, .unset, .unset, .unset, .unset, .unset, .unset, .unset, .unset, .unset, .unset, .unset] []))
  have hx1 := own_rem u2 11 (by decide)
  rw [← hy_lo, show (11 : Int32).toInt = 11 from rfl] at hx1
  refine Goes.of (fun t k => XS.iload X0.here hx rfl (hb hby at_9) rfl k) ?_
  show Goes _ _ _ _ _ _ _ (s₁.setTop (mkF m 11 #[.val (.int u0), .val (.int u1), .val (.int u2), .val (.int u3), .val (.int u4), .val (.int u5), .val (.int lo), .unset, .unset, .unset, .unset, .unset, .unset, .unset, .unset, .unset, .unset, .unset, .unset, .unset, .unset] [(.int lo)]))
  refine Goes.of (fun t k => XS.iloadN X0.here hx rfl (hb hby at_11) rfl k) ?_
  show Goes _ _ _ _ _ _ _ (s₁.setTop (mkF m 12 #[.val (.int u0), .val (.int u1), .val (.int u2), .val (.int u3), .val (.int u4), .val (.int u5), .val (.int lo), .unset, .unset, .unset, .unset, .unset, .unset, .unset, .unset, .unset, .unset, .unset, .unset, .unset, .unset] [(.int u3), (.int lo)]))
  refine Goes.of (fun t k => X0.ldcInt hx hown (mvT hZ (hw _ (List.mem_of_getElem? (i := 0) rfl))) (g := (mkF m 12 #[.val (.int u0), .val (.int u1), .val (.int u2), .val (.int u3), .val (.int u4), .val (.int u5), .val (.int lo), .unset, .unset, .unset, .unset, .unset, .unset, .unset, .unset, .unset, .unset, .unset, .unset, .unset, .unset] [(.int u3), (.int lo)])) rfl (hb hby at_12) t k) ?_
  show Goes _ _ _ _ _ _ _ (s₁.setTop (mkF m 14 #[.val (.int u0), .val (.int u1), .val (.int u2), .val (.int u3), .val (.int u4), .val (.int u5), .val (.int lo), .unset, .unset, .unset, .unset, .unset, .unset, .unset, .unset, .unset, .unset, .unset, .unset, .unset, .unset] [(.int (2147483647 : Int32)), (.int u3), (.int lo)]))
  refine Goes.of (fun t k => XS.iand X0.here hx rfl (hb hby at_14) rfl k) ?_
  show Goes _ _ _ _ _ _ _ (s₁.setTop (mkF m 15 #[.val (.int u0), .val (.int u1), .val (.int u2), .val (.int u3), .val (.int u4), .val (.int u5), .val (.int lo), .unset, .unset, .unset, .unset, .unset, .unset, .unset, .unset, .unset, .unset, .unset, .unset, .unset, .unset] [(.int (u3 &&& (2147483647 : Int32))), (.int lo)]))
  refine Goes.of (fun t k => XS.bipush X0.here hx rfl (hb hby at_15) k) ?_
  show Goes _ _ _ _ _ _ _ (s₁.setTop (mkF m 17 #[.val (.int u0), .val (.int u1), .val (.int u2), .val (.int u3), .val (.int u4), .val (.int u5), .val (.int lo), .unset, .unset, .unset, .unset, .unset, .unset, .unset, .unset, .unset, .unset, .unset, .unset, .unset, .unset] [(.int (11 : Int32)), (.int (u3 &&& (2147483647 : Int32))), (.int lo)]))
  refine Goes.of (fun t k => XS.iload X0.here hx rfl (hb hby at_17) rfl k) ?_
  show Goes _ _ _ _ _ _ _ (s₁.setTop (mkF m 19 #[.val (.int u0), .val (.int u1), .val (.int u2), .val (.int u3), .val (.int u4), .val (.int u5), .val (.int lo), .unset, .unset, .unset, .unset, .unset, .unset, .unset, .unset, .unset, .unset, .unset, .unset, .unset, .unset] [(.int lo), (.int (11 : Int32)), (.int (u3 &&& (2147483647 : Int32))), (.int lo)]))
  refine Goes.of (fun t k => XS.isub X0.here hx rfl (hb hby at_19) rfl k) ?_
  show Goes _ _ _ _ _ _ _ (s₁.setTop (mkF m 20 #[.val (.int u0), .val (.int u1), .val (.int u2), .val (.int u3), .val (.int u4), .val (.int u5), .val (.int lo), .unset, .unset, .unset, .unset, .unset, .unset, .unset, .unset, .unset, .unset, .unset, .unset, .unset, .unset] [(.int ((11 : Int32) - lo)), (.int (u3 &&& (2147483647 : Int32))), (.int lo)]))
  refine Goes.of (fun t k => iremM X0 hx (g := (mkF m 20 #[.val (.int u0), .val (.int u1), .val (.int u2), .val (.int u3), .val (.int u4), .val (.int u5), .val (.int lo), .unset, .unset, .unset, .unset, .unset, .unset, .unset, .unset, .unset, .unset, .unset, .unset, .unset, .unset] [(.int ((11 : Int32) - lo)), (.int (u3 &&& (2147483647 : Int32))), (.int lo)])) rfl (hb hby at_20) rfl (fun q => by have := congrArg Int32.toInt q; rw [own_subi (by decide) (by omega), show (11 : Int32).toInt = 11 from rfl, show (0 : Int32).toInt = 0 from rfl] at this; omega) k) ?_
  show Goes _ _ _ _ _ _ _ (s₁.setTop (mkF m 21 #[.val (.int u0), .val (.int u1), .val (.int u2), .val (.int u3), .val (.int u4), .val (.int u5), .val (.int lo), .unset, .unset, .unset, .unset, .unset, .unset, .unset, .unset, .unset, .unset, .unset, .unset, .unset, .unset] [(.int ((u3 &&& (2147483647 : Int32)) % ((11 : Int32) - lo))), (.int lo)]))
  refine Goes.of (fun t k => XS.iadd X0.here hx rfl (hb hby at_21) rfl k) ?_
  show Goes _ _ _ _ _ _ _ (s₁.setTop (mkF m 22 #[.val (.int u0), .val (.int u1), .val (.int u2), .val (.int u3), .val (.int u4), .val (.int u5), .val (.int lo), .unset, .unset, .unset, .unset, .unset, .unset, .unset, .unset, .unset, .unset, .unset, .unset, .unset, .unset] [(.int (lo + ((u3 &&& (2147483647 : Int32)) % ((11 : Int32) - lo))))]))
  refine Goes.of (fun t k => XS.istore X0.here hx rfl (hb hby at_22) rfl (l' := #[.val (.int u0), .val (.int u1), .val (.int u2), .val (.int u3), .val (.int u4), .val (.int u5), .val (.int lo), .val (.int (lo + ((u3 &&& (2147483647 : Int32)) % ((11 : Int32) - lo)))), .unset, .unset, .unset, .unset, .unset, .unset, .unset, .unset, .unset, .unset, .unset, .unset, .unset]) rfl k) ?_
  show Goes _ _ _ _ _ _ _ (s₁.setTop (mkF m 24 #[.val (.int u0), .val (.int u1), .val (.int u2), .val (.int u3), .val (.int u4), .val (.int u5), .val (.int lo), .val (.int (lo + ((u3 &&& (2147483647 : Int32)) % ((11 : Int32) - lo)))), .unset, .unset, .unset, .unset, .unset, .unset, .unset, .unset, .unset, .unset, .unset, .unset, .unset] []))
  obtain ⟨hi, hy_hi⟩ : ∃ z, z = (lo + ((u3 &&& (2147483647 : Int32)) % ((11 : Int32) - lo))) := ⟨_, rfl⟩
  rw [← hy_hi]
  show Goes _ _ _ _ _ _ _ (s₁.setTop (mkF m 24 #[.val (.int u0), .val (.int u1), .val (.int u2), .val (.int u3), .val (.int u4), .val (.int u5), .val (.int lo), .val (.int hi), .unset, .unset, .unset, .unset, .unset, .unset, .unset, .unset, .unset, .unset, .unset, .unset, .unset] []))
  have es : ((11 : Int32) - lo).toInt = 11 - lo.toInt := own_subi (by decide) (by omega)
  have hr := own_rem u3 ((11 : Int32) - lo) (by omega)
  have hx2 : lo.toInt ≤ hi.toInt ∧ hi.toInt ≤ 10 := by
    rw [hy_hi, own_addi (by omega) (by omega)]
    omega
  refine Goes.of (fun t k => XS.iloadN X0.here hx rfl (hb hby at_24) rfl k) ?_
  show Goes _ _ _ _ _ _ _ (s₁.setTop (mkF m 25 #[.val (.int u0), .val (.int u1), .val (.int u2), .val (.int u3), .val (.int u4), .val (.int u5), .val (.int lo), .val (.int hi), .unset, .unset, .unset, .unset, .unset, .unset, .unset, .unset, .unset, .unset, .unset, .unset, .unset] [(.int u0)]))
  refine Goes.of (fun t k => XS.istore X0.here hx rfl (hb hby at_25) rfl (l' := #[.val (.int u0), .val (.int u1), .val (.int u2), .val (.int u3), .val (.int u4), .val (.int u5), .val (.int lo), .val (.int hi), .val (.int u0), .unset, .unset, .unset, .unset, .unset, .unset, .unset, .unset, .unset, .unset, .unset, .unset]) rfl k) ?_
  show Goes _ _ _ _ _ _ _ (s₁.setTop (mkF m 27 #[.val (.int u0), .val (.int u1), .val (.int u2), .val (.int u3), .val (.int u4), .val (.int u5), .val (.int lo), .val (.int hi), .val (.int u0), .unset, .unset, .unset, .unset, .unset, .unset, .unset, .unset, .unset, .unset, .unset, .unset] []))
  refine Goes.of (fun t k => XS.iload X0.here hx rfl (hb hby at_27) rfl k) ?_
  show Goes _ _ _ _ _ _ _ (s₁.setTop (mkF m 29 #[.val (.int u0), .val (.int u1), .val (.int u2), .val (.int u3), .val (.int u4), .val (.int u5), .val (.int lo), .val (.int hi), .val (.int u0), .unset, .unset, .unset, .unset, .unset, .unset, .unset, .unset, .unset, .unset, .unset, .unset] [(.int u0)]))
  refine Goes.of (fun t k => XS.iloadN X0.here hx rfl (hb hby at_29) rfl k) ?_
  show Goes _ _ _ _ _ _ _ (s₁.setTop (mkF m 30 #[.val (.int u0), .val (.int u1), .val (.int u2), .val (.int u3), .val (.int u4), .val (.int u5), .val (.int lo), .val (.int hi), .val (.int u0), .unset, .unset, .unset, .unset, .unset, .unset, .unset, .unset, .unset, .unset, .unset, .unset] [(.int u1), (.int u0)]))
  refine Goes.of (fun t k => XS.iconst X0.here hx rfl (hb hby at_30) k) ?_
  show Goes _ _ _ _ _ _ _ (s₁.setTop (mkF m 31 #[.val (.int u0), .val (.int u1), .val (.int u2), .val (.int u3), .val (.int u4), .val (.int u5), .val (.int lo), .val (.int hi), .val (.int u0), .unset, .unset, .unset, .unset, .unset, .unset, .unset, .unset, .unset, .unset, .unset, .unset] [(.int (0 : Int32)), (.int u1), (.int u0)]))
  obtain ⟨_, _, ⟨T14, L14, k14, n14⟩, -, X14, ⟨Lc14, hQ14, l14, y14, z14⟩, st14⟩ := Jvm.LawKit.callS X0 hx (y := (⟨"com/example/orderly_twig/orderlytwig/engine/AscendingSearchFirstAtLeastPinLaw", "next", "(III)I"⟩ : MethodName)) hown (mvT hZ (hw _ (List.mem_of_getElem? (i := 1) rfl))) (mvT hZ (hw _ (List.mem_of_getElem? (i := 2) rfl))) (mvT hZ (hw _ (List.mem_of_getElem? (i := 3) rfl))) (mvT hZ (hw _ (List.mem_of_getElem? (i := 4) rfl))) (by decide) (backOf (W := 0) (rm1 l Z a0 hw [] u0 u1 (0 : Int32)  h0 n0 ) hZ (hw _ (List.mem_of_getElem? (i := 4) rfl)) (hw _ (List.mem_of_getElem? (i := 3) rfl)) (by decide) (by decide)) (g := (mkF m 31 #[.val (.int u0), .val (.int u1), .val (.int u2), .val (.int u3), .val (.int u4), .val (.int u5), .val (.int lo), .val (.int hi), .val (.int u0), .unset, .unset, .unset, .unset, .unset, .unset, .unset, .unset, .unset, .unset, .unset, .unset] [(.int (0 : Int32)), (.int u1), (.int u0)])) rfl (by rw [hml]; rfl) (argsL := [(.int u0), (.int u1), (.int (0 : Int32))]) (rest := []) (lenOf pd_1 rfl) rfl (by show 2 * 0 + _ ≤ _; exact Nat.le_of_eq rfl) (hb hby at_31) (fun _ _ => ⟨rfl, e0, (by decide : 0 + 0 ≤ _), (by decide : 0 + 0 ≤ _)⟩)
  dsimp only [Pt.U, Pt.locs, Pt.cells, Pt.slots] at X14 l14 y14 z14 st14 hQ14
  replace l14 := l14.symm
  replace y14 := y14.symm
  replace z14 := z14.symm
  subst l14 y14 z14
  obtain ⟨rfl, N14q, e14⟩ := hQ14
  have N14 := Fr.app N0 N14q
  refine Goes.of st14 ?_
  show Goes _ _ _ _ _ _ _ (T14.setTop (mkF m 34 #[.val (.int u0), .val (.int u1), .val (.int u2), .val (.int u3), .val (.int u4), .val (.int u5), .val (.int lo), .val (.int hi), .val (.int u0), .unset, .unset, .unset, .unset, .unset, .unset, .unset, .unset, .unset, .unset, .unset, .unset] [(.int (f1 u0 u1 (0 : Int32)))]))
  refine Goes.of (fun t k => XS.istore X14.here hx rfl (hb hby at_34) rfl (l' := #[.val (.int u0), .val (.int u1), .val (.int u2), .val (.int u3), .val (.int u4), .val (.int u5), .val (.int lo), .val (.int hi), .val (.int u0), .val (.int (f1 u0 u1 (0 : Int32))), .unset, .unset, .unset, .unset, .unset, .unset, .unset, .unset, .unset, .unset, .unset]) rfl k) ?_
  show Goes _ _ _ _ _ _ _ (T14.setTop (mkF m 36 #[.val (.int u0), .val (.int u1), .val (.int u2), .val (.int u3), .val (.int u4), .val (.int u5), .val (.int lo), .val (.int hi), .val (.int u0), .val (.int (f1 u0 u1 (0 : Int32))), .unset, .unset, .unset, .unset, .unset, .unset, .unset, .unset, .unset, .unset, .unset] []))
  obtain ⟨A1, hy_A1⟩ : ∃ z, z = (f1 u0 u1 (0 : Int32)) := ⟨_, rfl⟩
  rw [← hy_A1]
  show Goes _ _ _ _ _ _ _ (T14.setTop (mkF m 36 #[.val (.int u0), .val (.int u1), .val (.int u2), .val (.int u3), .val (.int u4), .val (.int u5), .val (.int lo), .val (.int hi), .val (.int u0), .val (.int A1), .unset, .unset, .unset, .unset, .unset, .unset, .unset, .unset, .unset, .unset, .unset] []))
  have m1 : u0.toInt ≤ A1.toInt := by rw [hy_A1]; exact own_nextmono _ _ _
  refine Goes.of (fun t k => XS.iload X14.here hx rfl (hb hby at_36) rfl k) ?_
  show Goes _ _ _ _ _ _ _ (T14.setTop (mkF m 38 #[.val (.int u0), .val (.int u1), .val (.int u2), .val (.int u3), .val (.int u4), .val (.int u5), .val (.int lo), .val (.int hi), .val (.int u0), .val (.int A1), .unset, .unset, .unset, .unset, .unset, .unset, .unset, .unset, .unset, .unset, .unset] [(.int A1)]))
  refine Goes.of (fun t k => XS.iloadN X14.here hx rfl (hb hby at_38) rfl k) ?_
  show Goes _ _ _ _ _ _ _ (T14.setTop (mkF m 39 #[.val (.int u0), .val (.int u1), .val (.int u2), .val (.int u3), .val (.int u4), .val (.int u5), .val (.int lo), .val (.int hi), .val (.int u0), .val (.int A1), .unset, .unset, .unset, .unset, .unset, .unset, .unset, .unset, .unset, .unset, .unset] [(.int u1), (.int A1)]))
  refine Goes.of (fun t k => XS.iconst X14.here hx rfl (hb hby at_39) k) ?_
  show Goes _ _ _ _ _ _ _ (T14.setTop (mkF m 40 #[.val (.int u0), .val (.int u1), .val (.int u2), .val (.int u3), .val (.int u4), .val (.int u5), .val (.int lo), .val (.int hi), .val (.int u0), .val (.int A1), .unset, .unset, .unset, .unset, .unset, .unset, .unset, .unset, .unset, .unset, .unset] [(.int (1 : Int32)), (.int u1), (.int A1)]))
  obtain ⟨_, _, ⟨T15, L15, k15, n15⟩, -, X15, ⟨Lc15, hQ15, l15, y15, z15⟩, st15⟩ := Jvm.LawKit.callS X14 hx (y := (⟨"com/example/orderly_twig/orderlytwig/engine/AscendingSearchFirstAtLeastPinLaw", "next", "(III)I"⟩ : MethodName)) hown (mvT hZ (hw _ (List.mem_of_getElem? (i := 1) rfl))) (mvT hZ (hw _ (List.mem_of_getElem? (i := 2) rfl))) (mvT hZ (hw _ (List.mem_of_getElem? (i := 3) rfl))) (mvT hZ (hw _ (List.mem_of_getElem? (i := 4) rfl))) (by decide) (backOf (W := 0) (rm1 l Z a0 hw [] A1 u1 (1 : Int32)  h0 n0 ) hZ (hw _ (List.mem_of_getElem? (i := 4) rfl)) (hw _ (List.mem_of_getElem? (i := 3) rfl)) (by decide) (by decide)) (g := (mkF m 40 #[.val (.int u0), .val (.int u1), .val (.int u2), .val (.int u3), .val (.int u4), .val (.int u5), .val (.int lo), .val (.int hi), .val (.int u0), .val (.int A1), .unset, .unset, .unset, .unset, .unset, .unset, .unset, .unset, .unset, .unset, .unset] [(.int (1 : Int32)), (.int u1), (.int A1)])) rfl (by rw [hml]; rfl) (argsL := [(.int A1), (.int u1), (.int (1 : Int32))]) (rest := []) (lenOf pd_1 rfl) rfl (by show 2 * 0 + _ ≤ _; exact Nat.le_of_eq rfl) (hb hby at_40) (fun _ _ => ⟨rfl, e14, (by decide : 0 + 0 ≤ _), (by decide : 0 + 0 ≤ _)⟩)
  dsimp only [Pt.U, Pt.locs, Pt.cells, Pt.slots] at X15 l15 y15 z15 st15 hQ15
  replace l15 := l15.symm
  replace y15 := y15.symm
  replace z15 := z15.symm
  subst l15 y15 z15
  obtain ⟨rfl, N15q, e15⟩ := hQ15
  have N15 := Fr.app N14 N15q
  refine Goes.of st15 ?_
  show Goes _ _ _ _ _ _ _ (T15.setTop (mkF m 43 #[.val (.int u0), .val (.int u1), .val (.int u2), .val (.int u3), .val (.int u4), .val (.int u5), .val (.int lo), .val (.int hi), .val (.int u0), .val (.int A1), .unset, .unset, .unset, .unset, .unset, .unset, .unset, .unset, .unset, .unset, .unset] [(.int (f1 A1 u1 (1 : Int32)))]))
  refine Goes.of (fun t k => XS.istore X15.here hx rfl (hb hby at_43) rfl (l' := #[.val (.int u0), .val (.int u1), .val (.int u2), .val (.int u3), .val (.int u4), .val (.int u5), .val (.int lo), .val (.int hi), .val (.int u0), .val (.int A1), .val (.int (f1 A1 u1 (1 : Int32))), .unset, .unset, .unset, .unset, .unset, .unset, .unset, .unset, .unset, .unset]) rfl k) ?_
  show Goes _ _ _ _ _ _ _ (T15.setTop (mkF m 45 #[.val (.int u0), .val (.int u1), .val (.int u2), .val (.int u3), .val (.int u4), .val (.int u5), .val (.int lo), .val (.int hi), .val (.int u0), .val (.int A1), .val (.int (f1 A1 u1 (1 : Int32))), .unset, .unset, .unset, .unset, .unset, .unset, .unset, .unset, .unset, .unset] []))
  obtain ⟨A2, hy_A2⟩ : ∃ z, z = (f1 A1 u1 (1 : Int32)) := ⟨_, rfl⟩
  rw [← hy_A2]
  show Goes _ _ _ _ _ _ _ (T15.setTop (mkF m 45 #[.val (.int u0), .val (.int u1), .val (.int u2), .val (.int u3), .val (.int u4), .val (.int u5), .val (.int lo), .val (.int hi), .val (.int u0), .val (.int A1), .val (.int A2), .unset, .unset, .unset, .unset, .unset, .unset, .unset, .unset, .unset, .unset] []))
  have m2 : A1.toInt ≤ A2.toInt := by rw [hy_A2]; exact own_nextmono _ _ _
  refine Goes.of (fun t k => XS.iload X15.here hx rfl (hb hby at_45) rfl k) ?_
  show Goes _ _ _ _ _ _ _ (T15.setTop (mkF m 47 #[.val (.int u0), .val (.int u1), .val (.int u2), .val (.int u3), .val (.int u4), .val (.int u5), .val (.int lo), .val (.int hi), .val (.int u0), .val (.int A1), .val (.int A2), .unset, .unset, .unset, .unset, .unset, .unset, .unset, .unset, .unset, .unset] [(.int A2)]))
  refine Goes.of (fun t k => XS.iloadN X15.here hx rfl (hb hby at_47) rfl k) ?_
  show Goes _ _ _ _ _ _ _ (T15.setTop (mkF m 48 #[.val (.int u0), .val (.int u1), .val (.int u2), .val (.int u3), .val (.int u4), .val (.int u5), .val (.int lo), .val (.int hi), .val (.int u0), .val (.int A1), .val (.int A2), .unset, .unset, .unset, .unset, .unset, .unset, .unset, .unset, .unset, .unset] [(.int u1), (.int A2)]))
  refine Goes.of (fun t k => XS.iconst X15.here hx rfl (hb hby at_48) k) ?_
  show Goes _ _ _ _ _ _ _ (T15.setTop (mkF m 49 #[.val (.int u0), .val (.int u1), .val (.int u2), .val (.int u3), .val (.int u4), .val (.int u5), .val (.int lo), .val (.int hi), .val (.int u0), .val (.int A1), .val (.int A2), .unset, .unset, .unset, .unset, .unset, .unset, .unset, .unset, .unset, .unset] [(.int (2 : Int32)), (.int u1), (.int A2)]))
  obtain ⟨_, _, ⟨T16, L16, k16, n16⟩, -, X16, ⟨Lc16, hQ16, l16, y16, z16⟩, st16⟩ := Jvm.LawKit.callS X15 hx (y := (⟨"com/example/orderly_twig/orderlytwig/engine/AscendingSearchFirstAtLeastPinLaw", "next", "(III)I"⟩ : MethodName)) hown (mvT hZ (hw _ (List.mem_of_getElem? (i := 1) rfl))) (mvT hZ (hw _ (List.mem_of_getElem? (i := 2) rfl))) (mvT hZ (hw _ (List.mem_of_getElem? (i := 3) rfl))) (mvT hZ (hw _ (List.mem_of_getElem? (i := 4) rfl))) (by decide) (backOf (W := 0) (rm1 l Z a0 hw [] A2 u1 (2 : Int32)  h0 n0 ) hZ (hw _ (List.mem_of_getElem? (i := 4) rfl)) (hw _ (List.mem_of_getElem? (i := 3) rfl)) (by decide) (by decide)) (g := (mkF m 49 #[.val (.int u0), .val (.int u1), .val (.int u2), .val (.int u3), .val (.int u4), .val (.int u5), .val (.int lo), .val (.int hi), .val (.int u0), .val (.int A1), .val (.int A2), .unset, .unset, .unset, .unset, .unset, .unset, .unset, .unset, .unset, .unset] [(.int (2 : Int32)), (.int u1), (.int A2)])) rfl (by rw [hml]; rfl) (argsL := [(.int A2), (.int u1), (.int (2 : Int32))]) (rest := []) (lenOf pd_1 rfl) rfl (by show 2 * 0 + _ ≤ _; exact Nat.le_of_eq rfl) (hb hby at_49) (fun _ _ => ⟨rfl, e15, (by decide : 0 + 0 ≤ _), (by decide : 0 + 0 ≤ _)⟩)
  dsimp only [Pt.U, Pt.locs, Pt.cells, Pt.slots] at X16 l16 y16 z16 st16 hQ16
  replace l16 := l16.symm
  replace y16 := y16.symm
  replace z16 := z16.symm
  subst l16 y16 z16
  obtain ⟨rfl, N16q, e16⟩ := hQ16
  have N16 := Fr.app N15 N16q
  refine Goes.of st16 ?_
  show Goes _ _ _ _ _ _ _ (T16.setTop (mkF m 52 #[.val (.int u0), .val (.int u1), .val (.int u2), .val (.int u3), .val (.int u4), .val (.int u5), .val (.int lo), .val (.int hi), .val (.int u0), .val (.int A1), .val (.int A2), .unset, .unset, .unset, .unset, .unset, .unset, .unset, .unset, .unset, .unset] [(.int (f1 A2 u1 (2 : Int32)))]))
  refine Goes.of (fun t k => XS.istore X16.here hx rfl (hb hby at_52) rfl (l' := #[.val (.int u0), .val (.int u1), .val (.int u2), .val (.int u3), .val (.int u4), .val (.int u5), .val (.int lo), .val (.int hi), .val (.int u0), .val (.int A1), .val (.int A2), .val (.int (f1 A2 u1 (2 : Int32))), .unset, .unset, .unset, .unset, .unset, .unset, .unset, .unset, .unset]) rfl k) ?_
  show Goes _ _ _ _ _ _ _ (T16.setTop (mkF m 54 #[.val (.int u0), .val (.int u1), .val (.int u2), .val (.int u3), .val (.int u4), .val (.int u5), .val (.int lo), .val (.int hi), .val (.int u0), .val (.int A1), .val (.int A2), .val (.int (f1 A2 u1 (2 : Int32))), .unset, .unset, .unset, .unset, .unset, .unset, .unset, .unset, .unset] []))
  obtain ⟨A3, hy_A3⟩ : ∃ z, z = (f1 A2 u1 (2 : Int32)) := ⟨_, rfl⟩
  rw [← hy_A3]
  show Goes _ _ _ _ _ _ _ (T16.setTop (mkF m 54 #[.val (.int u0), .val (.int u1), .val (.int u2), .val (.int u3), .val (.int u4), .val (.int u5), .val (.int lo), .val (.int hi), .val (.int u0), .val (.int A1), .val (.int A2), .val (.int A3), .unset, .unset, .unset, .unset, .unset, .unset, .unset, .unset, .unset] []))
  have m3 : A2.toInt ≤ A3.toInt := by rw [hy_A3]; exact own_nextmono _ _ _
  refine Goes.of (fun t k => XS.iload X16.here hx rfl (hb hby at_54) rfl k) ?_
  show Goes _ _ _ _ _ _ _ (T16.setTop (mkF m 56 #[.val (.int u0), .val (.int u1), .val (.int u2), .val (.int u3), .val (.int u4), .val (.int u5), .val (.int lo), .val (.int hi), .val (.int u0), .val (.int A1), .val (.int A2), .val (.int A3), .unset, .unset, .unset, .unset, .unset, .unset, .unset, .unset, .unset] [(.int A3)]))
  refine Goes.of (fun t k => XS.iloadN X16.here hx rfl (hb hby at_56) rfl k) ?_
  show Goes _ _ _ _ _ _ _ (T16.setTop (mkF m 57 #[.val (.int u0), .val (.int u1), .val (.int u2), .val (.int u3), .val (.int u4), .val (.int u5), .val (.int lo), .val (.int hi), .val (.int u0), .val (.int A1), .val (.int A2), .val (.int A3), .unset, .unset, .unset, .unset, .unset, .unset, .unset, .unset, .unset] [(.int u1), (.int A3)]))
  refine Goes.of (fun t k => XS.iconst X16.here hx rfl (hb hby at_57) k) ?_
  show Goes _ _ _ _ _ _ _ (T16.setTop (mkF m 58 #[.val (.int u0), .val (.int u1), .val (.int u2), .val (.int u3), .val (.int u4), .val (.int u5), .val (.int lo), .val (.int hi), .val (.int u0), .val (.int A1), .val (.int A2), .val (.int A3), .unset, .unset, .unset, .unset, .unset, .unset, .unset, .unset, .unset] [(.int (3 : Int32)), (.int u1), (.int A3)]))
  obtain ⟨_, _, ⟨T17, L17, k17, n17⟩, -, X17, ⟨Lc17, hQ17, l17, y17, z17⟩, st17⟩ := Jvm.LawKit.callS X16 hx (y := (⟨"com/example/orderly_twig/orderlytwig/engine/AscendingSearchFirstAtLeastPinLaw", "next", "(III)I"⟩ : MethodName)) hown (mvT hZ (hw _ (List.mem_of_getElem? (i := 1) rfl))) (mvT hZ (hw _ (List.mem_of_getElem? (i := 2) rfl))) (mvT hZ (hw _ (List.mem_of_getElem? (i := 3) rfl))) (mvT hZ (hw _ (List.mem_of_getElem? (i := 4) rfl))) (by decide) (backOf (W := 0) (rm1 l Z a0 hw [] A3 u1 (3 : Int32)  h0 n0 ) hZ (hw _ (List.mem_of_getElem? (i := 4) rfl)) (hw _ (List.mem_of_getElem? (i := 3) rfl)) (by decide) (by decide)) (g := (mkF m 58 #[.val (.int u0), .val (.int u1), .val (.int u2), .val (.int u3), .val (.int u4), .val (.int u5), .val (.int lo), .val (.int hi), .val (.int u0), .val (.int A1), .val (.int A2), .val (.int A3), .unset, .unset, .unset, .unset, .unset, .unset, .unset, .unset, .unset] [(.int (3 : Int32)), (.int u1), (.int A3)])) rfl (by rw [hml]; rfl) (argsL := [(.int A3), (.int u1), (.int (3 : Int32))]) (rest := []) (lenOf pd_1 rfl) rfl (by show 2 * 0 + _ ≤ _; exact Nat.le_of_eq rfl) (hb hby at_58) (fun _ _ => ⟨rfl, e16, (by decide : 0 + 0 ≤ _), (by decide : 0 + 0 ≤ _)⟩)
  dsimp only [Pt.U, Pt.locs, Pt.cells, Pt.slots] at X17 l17 y17 z17 st17 hQ17
  replace l17 := l17.symm
  replace y17 := y17.symm
  replace z17 := z17.symm
  subst l17 y17 z17
  obtain ⟨rfl, N17q, e17⟩ := hQ17
  have N17 := Fr.app N16 N17q
  refine Goes.of st17 ?_
  show Goes _ _ _ _ _ _ _ (T17.setTop (mkF m 61 #[.val (.int u0), .val (.int u1), .val (.int u2), .val (.int u3), .val (.int u4), .val (.int u5), .val (.int lo), .val (.int hi), .val (.int u0), .val (.int A1), .val (.int A2), .val (.int A3), .unset, .unset, .unset, .unset, .unset, .unset, .unset, .unset, .unset] [(.int (f1 A3 u1 (3 : Int32)))]))
  refine Goes.of (fun t k => XS.istore X17.here hx rfl (hb hby at_61) rfl (l' := #[.val (.int u0), .val (.int u1), .val (.int u2), .val (.int u3), .val (.int u4), .val (.int u5), .val (.int lo), .val (.int hi), .val (.int u0), .val (.int A1), .val (.int A2), .val (.int A3), .val (.int (f1 A3 u1 (3 : Int32))), .unset, .unset, .unset, .unset, .unset, .unset, .unset, .unset]) rfl k) ?_
  show Goes _ _ _ _ _ _ _ (T17.setTop (mkF m 63 #[.val (.int u0), .val (.int u1), .val (.int u2), .val (.int u3), .val (.int u4), .val (.int u5), .val (.int lo), .val (.int hi), .val (.int u0), .val (.int A1), .val (.int A2), .val (.int A3), .val (.int (f1 A3 u1 (3 : Int32))), .unset, .unset, .unset, .unset, .unset, .unset, .unset, .unset] []))
  obtain ⟨A4, hy_A4⟩ : ∃ z, z = (f1 A3 u1 (3 : Int32)) := ⟨_, rfl⟩
  rw [← hy_A4]
  show Goes _ _ _ _ _ _ _ (T17.setTop (mkF m 63 #[.val (.int u0), .val (.int u1), .val (.int u2), .val (.int u3), .val (.int u4), .val (.int u5), .val (.int lo), .val (.int hi), .val (.int u0), .val (.int A1), .val (.int A2), .val (.int A3), .val (.int A4), .unset, .unset, .unset, .unset, .unset, .unset, .unset, .unset] []))
  have m4 : A3.toInt ≤ A4.toInt := by rw [hy_A4]; exact own_nextmono _ _ _
  refine Goes.of (fun t k => XS.iload X17.here hx rfl (hb hby at_63) rfl k) ?_
  show Goes _ _ _ _ _ _ _ (T17.setTop (mkF m 65 #[.val (.int u0), .val (.int u1), .val (.int u2), .val (.int u3), .val (.int u4), .val (.int u5), .val (.int lo), .val (.int hi), .val (.int u0), .val (.int A1), .val (.int A2), .val (.int A3), .val (.int A4), .unset, .unset, .unset, .unset, .unset, .unset, .unset, .unset] [(.int A4)]))
  refine Goes.of (fun t k => XS.iloadN X17.here hx rfl (hb hby at_65) rfl k) ?_
  show Goes _ _ _ _ _ _ _ (T17.setTop (mkF m 66 #[.val (.int u0), .val (.int u1), .val (.int u2), .val (.int u3), .val (.int u4), .val (.int u5), .val (.int lo), .val (.int hi), .val (.int u0), .val (.int A1), .val (.int A2), .val (.int A3), .val (.int A4), .unset, .unset, .unset, .unset, .unset, .unset, .unset, .unset] [(.int u1), (.int A4)]))
  refine Goes.of (fun t k => XS.iconst X17.here hx rfl (hb hby at_66) k) ?_
  show Goes _ _ _ _ _ _ _ (T17.setTop (mkF m 67 #[.val (.int u0), .val (.int u1), .val (.int u2), .val (.int u3), .val (.int u4), .val (.int u5), .val (.int lo), .val (.int hi), .val (.int u0), .val (.int A1), .val (.int A2), .val (.int A3), .val (.int A4), .unset, .unset, .unset, .unset, .unset, .unset, .unset, .unset] [(.int (4 : Int32)), (.int u1), (.int A4)]))
  obtain ⟨_, _, ⟨T18, L18, k18, n18⟩, -, X18, ⟨Lc18, hQ18, l18, y18, z18⟩, st18⟩ := Jvm.LawKit.callS X17 hx (y := (⟨"com/example/orderly_twig/orderlytwig/engine/AscendingSearchFirstAtLeastPinLaw", "next", "(III)I"⟩ : MethodName)) hown (mvT hZ (hw _ (List.mem_of_getElem? (i := 1) rfl))) (mvT hZ (hw _ (List.mem_of_getElem? (i := 2) rfl))) (mvT hZ (hw _ (List.mem_of_getElem? (i := 3) rfl))) (mvT hZ (hw _ (List.mem_of_getElem? (i := 4) rfl))) (by decide) (backOf (W := 0) (rm1 l Z a0 hw [] A4 u1 (4 : Int32)  h0 n0 ) hZ (hw _ (List.mem_of_getElem? (i := 4) rfl)) (hw _ (List.mem_of_getElem? (i := 3) rfl)) (by decide) (by decide)) (g := (mkF m 67 #[.val (.int u0), .val (.int u1), .val (.int u2), .val (.int u3), .val (.int u4), .val (.int u5), .val (.int lo), .val (.int hi), .val (.int u0), .val (.int A1), .val (.int A2), .val (.int A3), .val (.int A4), .unset, .unset, .unset, .unset, .unset, .unset, .unset, .unset] [(.int (4 : Int32)), (.int u1), (.int A4)])) rfl (by rw [hml]; rfl) (argsL := [(.int A4), (.int u1), (.int (4 : Int32))]) (rest := []) (lenOf pd_1 rfl) rfl (by show 2 * 0 + _ ≤ _; exact Nat.le_of_eq rfl) (hb hby at_67) (fun _ _ => ⟨rfl, e17, (by decide : 0 + 0 ≤ _), (by decide : 0 + 0 ≤ _)⟩)
  dsimp only [Pt.U, Pt.locs, Pt.cells, Pt.slots] at X18 l18 y18 z18 st18 hQ18
  replace l18 := l18.symm
  replace y18 := y18.symm
  replace z18 := z18.symm
  subst l18 y18 z18
  obtain ⟨rfl, N18q, e18⟩ := hQ18
  have N18 := Fr.app N17 N18q
  refine Goes.of st18 ?_
  show Goes _ _ _ _ _ _ _ (T18.setTop (mkF m 70 #[.val (.int u0), .val (.int u1), .val (.int u2), .val (.int u3), .val (.int u4), .val (.int u5), .val (.int lo), .val (.int hi), .val (.int u0), .val (.int A1), .val (.int A2), .val (.int A3), .val (.int A4), .unset, .unset, .unset, .unset, .unset, .unset, .unset, .unset] [(.int (f1 A4 u1 (4 : Int32)))]))
  refine Goes.of (fun t k => XS.istore X18.here hx rfl (hb hby at_70) rfl (l' := #[.val (.int u0), .val (.int u1), .val (.int u2), .val (.int u3), .val (.int u4), .val (.int u5), .val (.int lo), .val (.int hi), .val (.int u0), .val (.int A1), .val (.int A2), .val (.int A3), .val (.int A4), .val (.int (f1 A4 u1 (4 : Int32))), .unset, .unset, .unset, .unset, .unset, .unset, .unset]) rfl k) ?_
  show Goes _ _ _ _ _ _ _ (T18.setTop (mkF m 72 #[.val (.int u0), .val (.int u1), .val (.int u2), .val (.int u3), .val (.int u4), .val (.int u5), .val (.int lo), .val (.int hi), .val (.int u0), .val (.int A1), .val (.int A2), .val (.int A3), .val (.int A4), .val (.int (f1 A4 u1 (4 : Int32))), .unset, .unset, .unset, .unset, .unset, .unset, .unset] []))
  obtain ⟨A5, hy_A5⟩ : ∃ z, z = (f1 A4 u1 (4 : Int32)) := ⟨_, rfl⟩
  rw [← hy_A5]
  show Goes _ _ _ _ _ _ _ (T18.setTop (mkF m 72 #[.val (.int u0), .val (.int u1), .val (.int u2), .val (.int u3), .val (.int u4), .val (.int u5), .val (.int lo), .val (.int hi), .val (.int u0), .val (.int A1), .val (.int A2), .val (.int A3), .val (.int A4), .val (.int A5), .unset, .unset, .unset, .unset, .unset, .unset, .unset] []))
  have m5 : A4.toInt ≤ A5.toInt := by rw [hy_A5]; exact own_nextmono _ _ _
  refine Goes.of (fun t k => XS.iload X18.here hx rfl (hb hby at_72) rfl k) ?_
  show Goes _ _ _ _ _ _ _ (T18.setTop (mkF m 74 #[.val (.int u0), .val (.int u1), .val (.int u2), .val (.int u3), .val (.int u4), .val (.int u5), .val (.int lo), .val (.int hi), .val (.int u0), .val (.int A1), .val (.int A2), .val (.int A3), .val (.int A4), .val (.int A5), .unset, .unset, .unset, .unset, .unset, .unset, .unset] [(.int A5)]))
  refine Goes.of (fun t k => XS.iloadN X18.here hx rfl (hb hby at_74) rfl k) ?_
  show Goes _ _ _ _ _ _ _ (T18.setTop (mkF m 75 #[.val (.int u0), .val (.int u1), .val (.int u2), .val (.int u3), .val (.int u4), .val (.int u5), .val (.int lo), .val (.int hi), .val (.int u0), .val (.int A1), .val (.int A2), .val (.int A3), .val (.int A4), .val (.int A5), .unset, .unset, .unset, .unset, .unset, .unset, .unset] [(.int u1), (.int A5)]))
  refine Goes.of (fun t k => XS.iconst X18.here hx rfl (hb hby at_75) k) ?_
  show Goes _ _ _ _ _ _ _ (T18.setTop (mkF m 76 #[.val (.int u0), .val (.int u1), .val (.int u2), .val (.int u3), .val (.int u4), .val (.int u5), .val (.int lo), .val (.int hi), .val (.int u0), .val (.int A1), .val (.int A2), .val (.int A3), .val (.int A4), .val (.int A5), .unset, .unset, .unset, .unset, .unset, .unset, .unset] [(.int (5 : Int32)), (.int u1), (.int A5)]))
  obtain ⟨_, _, ⟨T19, L19, k19, n19⟩, -, X19, ⟨Lc19, hQ19, l19, y19, z19⟩, st19⟩ := Jvm.LawKit.callS X18 hx (y := (⟨"com/example/orderly_twig/orderlytwig/engine/AscendingSearchFirstAtLeastPinLaw", "next", "(III)I"⟩ : MethodName)) hown (mvT hZ (hw _ (List.mem_of_getElem? (i := 1) rfl))) (mvT hZ (hw _ (List.mem_of_getElem? (i := 2) rfl))) (mvT hZ (hw _ (List.mem_of_getElem? (i := 3) rfl))) (mvT hZ (hw _ (List.mem_of_getElem? (i := 4) rfl))) (by decide) (backOf (W := 0) (rm1 l Z a0 hw [] A5 u1 (5 : Int32)  h0 n0 ) hZ (hw _ (List.mem_of_getElem? (i := 4) rfl)) (hw _ (List.mem_of_getElem? (i := 3) rfl)) (by decide) (by decide)) (g := (mkF m 76 #[.val (.int u0), .val (.int u1), .val (.int u2), .val (.int u3), .val (.int u4), .val (.int u5), .val (.int lo), .val (.int hi), .val (.int u0), .val (.int A1), .val (.int A2), .val (.int A3), .val (.int A4), .val (.int A5), .unset, .unset, .unset, .unset, .unset, .unset, .unset] [(.int (5 : Int32)), (.int u1), (.int A5)])) rfl (by rw [hml]; rfl) (argsL := [(.int A5), (.int u1), (.int (5 : Int32))]) (rest := []) (lenOf pd_1 rfl) rfl (by show 2 * 0 + _ ≤ _; exact Nat.le_of_eq rfl) (hb hby at_76) (fun _ _ => ⟨rfl, e18, (by decide : 0 + 0 ≤ _), (by decide : 0 + 0 ≤ _)⟩)
  dsimp only [Pt.U, Pt.locs, Pt.cells, Pt.slots] at X19 l19 y19 z19 st19 hQ19
  replace l19 := l19.symm
  replace y19 := y19.symm
  replace z19 := z19.symm
  subst l19 y19 z19
  obtain ⟨rfl, N19q, e19⟩ := hQ19
  have N19 := Fr.app N18 N19q
  refine Goes.of st19 ?_
  show Goes _ _ _ _ _ _ _ (T19.setTop (mkF m 79 #[.val (.int u0), .val (.int u1), .val (.int u2), .val (.int u3), .val (.int u4), .val (.int u5), .val (.int lo), .val (.int hi), .val (.int u0), .val (.int A1), .val (.int A2), .val (.int A3), .val (.int A4), .val (.int A5), .unset, .unset, .unset, .unset, .unset, .unset, .unset] [(.int (f1 A5 u1 (5 : Int32)))]))
  refine Goes.of (fun t k => XS.istore X19.here hx rfl (hb hby at_79) rfl (l' := #[.val (.int u0), .val (.int u1), .val (.int u2), .val (.int u3), .val (.int u4), .val (.int u5), .val (.int lo), .val (.int hi), .val (.int u0), .val (.int A1), .val (.int A2), .val (.int A3), .val (.int A4), .val (.int A5), .val (.int (f1 A5 u1 (5 : Int32))), .unset, .unset, .unset, .unset, .unset, .unset]) rfl k) ?_
  show Goes _ _ _ _ _ _ _ (T19.setTop (mkF m 81 #[.val (.int u0), .val (.int u1), .val (.int u2), .val (.int u3), .val (.int u4), .val (.int u5), .val (.int lo), .val (.int hi), .val (.int u0), .val (.int A1), .val (.int A2), .val (.int A3), .val (.int A4), .val (.int A5), .val (.int (f1 A5 u1 (5 : Int32))), .unset, .unset, .unset, .unset, .unset, .unset] []))
  obtain ⟨A6, hy_A6⟩ : ∃ z, z = (f1 A5 u1 (5 : Int32)) := ⟨_, rfl⟩
  rw [← hy_A6]
  show Goes _ _ _ _ _ _ _ (T19.setTop (mkF m 81 #[.val (.int u0), .val (.int u1), .val (.int u2), .val (.int u3), .val (.int u4), .val (.int u5), .val (.int lo), .val (.int hi), .val (.int u0), .val (.int A1), .val (.int A2), .val (.int A3), .val (.int A4), .val (.int A5), .val (.int A6), .unset, .unset, .unset, .unset, .unset, .unset] []))
  have m6 : A5.toInt ≤ A6.toInt := by rw [hy_A6]; exact own_nextmono _ _ _
  refine Goes.of (fun t k => XS.iload X19.here hx rfl (hb hby at_81) rfl k) ?_
  show Goes _ _ _ _ _ _ _ (T19.setTop (mkF m 83 #[.val (.int u0), .val (.int u1), .val (.int u2), .val (.int u3), .val (.int u4), .val (.int u5), .val (.int lo), .val (.int hi), .val (.int u0), .val (.int A1), .val (.int A2), .val (.int A3), .val (.int A4), .val (.int A5), .val (.int A6), .unset, .unset, .unset, .unset, .unset, .unset] [(.int A6)]))
  refine Goes.of (fun t k => XS.iloadN X19.here hx rfl (hb hby at_83) rfl k) ?_
  show Goes _ _ _ _ _ _ _ (T19.setTop (mkF m 84 #[.val (.int u0), .val (.int u1), .val (.int u2), .val (.int u3), .val (.int u4), .val (.int u5), .val (.int lo), .val (.int hi), .val (.int u0), .val (.int A1), .val (.int A2), .val (.int A3), .val (.int A4), .val (.int A5), .val (.int A6), .unset, .unset, .unset, .unset, .unset, .unset] [(.int u1), (.int A6)]))
  refine Goes.of (fun t k => XS.bipush X19.here hx rfl (hb hby at_84) k) ?_
  show Goes _ _ _ _ _ _ _ (T19.setTop (mkF m 86 #[.val (.int u0), .val (.int u1), .val (.int u2), .val (.int u3), .val (.int u4), .val (.int u5), .val (.int lo), .val (.int hi), .val (.int u0), .val (.int A1), .val (.int A2), .val (.int A3), .val (.int A4), .val (.int A5), .val (.int A6), .unset, .unset, .unset, .unset, .unset, .unset] [(.int (6 : Int32)), (.int u1), (.int A6)]))
  obtain ⟨_, _, ⟨T20, L20, k20, n20⟩, -, X20, ⟨Lc20, hQ20, l20, y20, z20⟩, st20⟩ := Jvm.LawKit.callS X19 hx (y := (⟨"com/example/orderly_twig/orderlytwig/engine/AscendingSearchFirstAtLeastPinLaw", "next", "(III)I"⟩ : MethodName)) hown (mvT hZ (hw _ (List.mem_of_getElem? (i := 1) rfl))) (mvT hZ (hw _ (List.mem_of_getElem? (i := 2) rfl))) (mvT hZ (hw _ (List.mem_of_getElem? (i := 3) rfl))) (mvT hZ (hw _ (List.mem_of_getElem? (i := 4) rfl))) (by decide) (backOf (W := 0) (rm1 l Z a0 hw [] A6 u1 (6 : Int32)  h0 n0 ) hZ (hw _ (List.mem_of_getElem? (i := 4) rfl)) (hw _ (List.mem_of_getElem? (i := 3) rfl)) (by decide) (by decide)) (g := (mkF m 86 #[.val (.int u0), .val (.int u1), .val (.int u2), .val (.int u3), .val (.int u4), .val (.int u5), .val (.int lo), .val (.int hi), .val (.int u0), .val (.int A1), .val (.int A2), .val (.int A3), .val (.int A4), .val (.int A5), .val (.int A6), .unset, .unset, .unset, .unset, .unset, .unset] [(.int (6 : Int32)), (.int u1), (.int A6)])) rfl (by rw [hml]; rfl) (argsL := [(.int A6), (.int u1), (.int (6 : Int32))]) (rest := []) (lenOf pd_1 rfl) rfl (by show 2 * 0 + _ ≤ _; exact Nat.le_of_eq rfl) (hb hby at_86) (fun _ _ => ⟨rfl, e19, (by decide : 0 + 0 ≤ _), (by decide : 0 + 0 ≤ _)⟩)
  dsimp only [Pt.U, Pt.locs, Pt.cells, Pt.slots] at X20 l20 y20 z20 st20 hQ20
  replace l20 := l20.symm
  replace y20 := y20.symm
  replace z20 := z20.symm
  subst l20 y20 z20
  obtain ⟨rfl, N20q, e20⟩ := hQ20
  have N20 := Fr.app N19 N20q
  refine Goes.of st20 ?_
  show Goes _ _ _ _ _ _ _ (T20.setTop (mkF m 89 #[.val (.int u0), .val (.int u1), .val (.int u2), .val (.int u3), .val (.int u4), .val (.int u5), .val (.int lo), .val (.int hi), .val (.int u0), .val (.int A1), .val (.int A2), .val (.int A3), .val (.int A4), .val (.int A5), .val (.int A6), .unset, .unset, .unset, .unset, .unset, .unset] [(.int (f1 A6 u1 (6 : Int32)))]))
  refine Goes.of (fun t k => XS.istore X20.here hx rfl (hb hby at_89) rfl (l' := #[.val (.int u0), .val (.int u1), .val (.int u2), .val (.int u3), .val (.int u4), .val (.int u5), .val (.int lo), .val (.int hi), .val (.int u0), .val (.int A1), .val (.int A2), .val (.int A3), .val (.int A4), .val (.int A5), .val (.int A6), .val (.int (f1 A6 u1 (6 : Int32))), .unset, .unset, .unset, .unset, .unset]) rfl k) ?_
  show Goes _ _ _ _ _ _ _ (T20.setTop (mkF m 91 #[.val (.int u0), .val (.int u1), .val (.int u2), .val (.int u3), .val (.int u4), .val (.int u5), .val (.int lo), .val (.int hi), .val (.int u0), .val (.int A1), .val (.int A2), .val (.int A3), .val (.int A4), .val (.int A5), .val (.int A6), .val (.int (f1 A6 u1 (6 : Int32))), .unset, .unset, .unset, .unset, .unset] []))
  obtain ⟨A7, hy_A7⟩ : ∃ z, z = (f1 A6 u1 (6 : Int32)) := ⟨_, rfl⟩
  rw [← hy_A7]
  show Goes _ _ _ _ _ _ _ (T20.setTop (mkF m 91 #[.val (.int u0), .val (.int u1), .val (.int u2), .val (.int u3), .val (.int u4), .val (.int u5), .val (.int lo), .val (.int hi), .val (.int u0), .val (.int A1), .val (.int A2), .val (.int A3), .val (.int A4), .val (.int A5), .val (.int A6), .val (.int A7), .unset, .unset, .unset, .unset, .unset] []))
  have m7 : A6.toInt ≤ A7.toInt := by rw [hy_A7]; exact own_nextmono _ _ _
  refine Goes.of (fun t k => XS.iload X20.here hx rfl (hb hby at_91) rfl k) ?_
  show Goes _ _ _ _ _ _ _ (T20.setTop (mkF m 93 #[.val (.int u0), .val (.int u1), .val (.int u2), .val (.int u3), .val (.int u4), .val (.int u5), .val (.int lo), .val (.int hi), .val (.int u0), .val (.int A1), .val (.int A2), .val (.int A3), .val (.int A4), .val (.int A5), .val (.int A6), .val (.int A7), .unset, .unset, .unset, .unset, .unset] [(.int A7)]))
  refine Goes.of (fun t k => XS.iloadN X20.here hx rfl (hb hby at_93) rfl k) ?_
  show Goes _ _ _ _ _ _ _ (T20.setTop (mkF m 94 #[.val (.int u0), .val (.int u1), .val (.int u2), .val (.int u3), .val (.int u4), .val (.int u5), .val (.int lo), .val (.int hi), .val (.int u0), .val (.int A1), .val (.int A2), .val (.int A3), .val (.int A4), .val (.int A5), .val (.int A6), .val (.int A7), .unset, .unset, .unset, .unset, .unset] [(.int u1), (.int A7)]))
  refine Goes.of (fun t k => XS.bipush X20.here hx rfl (hb hby at_94) k) ?_
  show Goes _ _ _ _ _ _ _ (T20.setTop (mkF m 96 #[.val (.int u0), .val (.int u1), .val (.int u2), .val (.int u3), .val (.int u4), .val (.int u5), .val (.int lo), .val (.int hi), .val (.int u0), .val (.int A1), .val (.int A2), .val (.int A3), .val (.int A4), .val (.int A5), .val (.int A6), .val (.int A7), .unset, .unset, .unset, .unset, .unset] [(.int (7 : Int32)), (.int u1), (.int A7)]))
  obtain ⟨_, _, ⟨T21, L21, k21, n21⟩, -, X21, ⟨Lc21, hQ21, l21, y21, z21⟩, st21⟩ := Jvm.LawKit.callS X20 hx (y := (⟨"com/example/orderly_twig/orderlytwig/engine/AscendingSearchFirstAtLeastPinLaw", "next", "(III)I"⟩ : MethodName)) hown (mvT hZ (hw _ (List.mem_of_getElem? (i := 1) rfl))) (mvT hZ (hw _ (List.mem_of_getElem? (i := 2) rfl))) (mvT hZ (hw _ (List.mem_of_getElem? (i := 3) rfl))) (mvT hZ (hw _ (List.mem_of_getElem? (i := 4) rfl))) (by decide) (backOf (W := 0) (rm1 l Z a0 hw [] A7 u1 (7 : Int32)  h0 n0 ) hZ (hw _ (List.mem_of_getElem? (i := 4) rfl)) (hw _ (List.mem_of_getElem? (i := 3) rfl)) (by decide) (by decide)) (g := (mkF m 96 #[.val (.int u0), .val (.int u1), .val (.int u2), .val (.int u3), .val (.int u4), .val (.int u5), .val (.int lo), .val (.int hi), .val (.int u0), .val (.int A1), .val (.int A2), .val (.int A3), .val (.int A4), .val (.int A5), .val (.int A6), .val (.int A7), .unset, .unset, .unset, .unset, .unset] [(.int (7 : Int32)), (.int u1), (.int A7)])) rfl (by rw [hml]; rfl) (argsL := [(.int A7), (.int u1), (.int (7 : Int32))]) (rest := []) (lenOf pd_1 rfl) rfl (by show 2 * 0 + _ ≤ _; exact Nat.le_of_eq rfl) (hb hby at_96) (fun _ _ => ⟨rfl, e20, (by decide : 0 + 0 ≤ _), (by decide : 0 + 0 ≤ _)⟩)
  dsimp only [Pt.U, Pt.locs, Pt.cells, Pt.slots] at X21 l21 y21 z21 st21 hQ21
  replace l21 := l21.symm
  replace y21 := y21.symm
  replace z21 := z21.symm
  subst l21 y21 z21
  obtain ⟨rfl, N21q, e21⟩ := hQ21
  have N21 := Fr.app N20 N21q
  refine Goes.of st21 ?_
  show Goes _ _ _ _ _ _ _ (T21.setTop (mkF m 99 #[.val (.int u0), .val (.int u1), .val (.int u2), .val (.int u3), .val (.int u4), .val (.int u5), .val (.int lo), .val (.int hi), .val (.int u0), .val (.int A1), .val (.int A2), .val (.int A3), .val (.int A4), .val (.int A5), .val (.int A6), .val (.int A7), .unset, .unset, .unset, .unset, .unset] [(.int (f1 A7 u1 (7 : Int32)))]))
  refine Goes.of (fun t k => XS.istore X21.here hx rfl (hb hby at_99) rfl (l' := #[.val (.int u0), .val (.int u1), .val (.int u2), .val (.int u3), .val (.int u4), .val (.int u5), .val (.int lo), .val (.int hi), .val (.int u0), .val (.int A1), .val (.int A2), .val (.int A3), .val (.int A4), .val (.int A5), .val (.int A6), .val (.int A7), .val (.int (f1 A7 u1 (7 : Int32))), .unset, .unset, .unset, .unset]) rfl k) ?_
  show Goes _ _ _ _ _ _ _ (T21.setTop (mkF m 101 #[.val (.int u0), .val (.int u1), .val (.int u2), .val (.int u3), .val (.int u4), .val (.int u5), .val (.int lo), .val (.int hi), .val (.int u0), .val (.int A1), .val (.int A2), .val (.int A3), .val (.int A4), .val (.int A5), .val (.int A6), .val (.int A7), .val (.int (f1 A7 u1 (7 : Int32))), .unset, .unset, .unset, .unset] []))
  obtain ⟨A8, hy_A8⟩ : ∃ z, z = (f1 A7 u1 (7 : Int32)) := ⟨_, rfl⟩
  rw [← hy_A8]
  show Goes _ _ _ _ _ _ _ (T21.setTop (mkF m 101 #[.val (.int u0), .val (.int u1), .val (.int u2), .val (.int u3), .val (.int u4), .val (.int u5), .val (.int lo), .val (.int hi), .val (.int u0), .val (.int A1), .val (.int A2), .val (.int A3), .val (.int A4), .val (.int A5), .val (.int A6), .val (.int A7), .val (.int A8), .unset, .unset, .unset, .unset] []))
  have m8 : A7.toInt ≤ A8.toInt := by rw [hy_A8]; exact own_nextmono _ _ _
  refine Goes.of (fun t k => XS.iload X21.here hx rfl (hb hby at_101) rfl k) ?_
  show Goes _ _ _ _ _ _ _ (T21.setTop (mkF m 103 #[.val (.int u0), .val (.int u1), .val (.int u2), .val (.int u3), .val (.int u4), .val (.int u5), .val (.int lo), .val (.int hi), .val (.int u0), .val (.int A1), .val (.int A2), .val (.int A3), .val (.int A4), .val (.int A5), .val (.int A6), .val (.int A7), .val (.int A8), .unset, .unset, .unset, .unset] [(.int A8)]))
  refine Goes.of (fun t k => XS.iloadN X21.here hx rfl (hb hby at_103) rfl k) ?_
  show Goes _ _ _ _ _ _ _ (T21.setTop (mkF m 104 #[.val (.int u0), .val (.int u1), .val (.int u2), .val (.int u3), .val (.int u4), .val (.int u5), .val (.int lo), .val (.int hi), .val (.int u0), .val (.int A1), .val (.int A2), .val (.int A3), .val (.int A4), .val (.int A5), .val (.int A6), .val (.int A7), .val (.int A8), .unset, .unset, .unset, .unset] [(.int u1), (.int A8)]))
  refine Goes.of (fun t k => XS.bipush X21.here hx rfl (hb hby at_104) k) ?_
  show Goes _ _ _ _ _ _ _ (T21.setTop (mkF m 106 #[.val (.int u0), .val (.int u1), .val (.int u2), .val (.int u3), .val (.int u4), .val (.int u5), .val (.int lo), .val (.int hi), .val (.int u0), .val (.int A1), .val (.int A2), .val (.int A3), .val (.int A4), .val (.int A5), .val (.int A6), .val (.int A7), .val (.int A8), .unset, .unset, .unset, .unset] [(.int (8 : Int32)), (.int u1), (.int A8)]))
  obtain ⟨_, _, ⟨T22, L22, k22, n22⟩, -, X22, ⟨Lc22, hQ22, l22, y22, z22⟩, st22⟩ := Jvm.LawKit.callS X21 hx (y := (⟨"com/example/orderly_twig/orderlytwig/engine/AscendingSearchFirstAtLeastPinLaw", "next", "(III)I"⟩ : MethodName)) hown (mvT hZ (hw _ (List.mem_of_getElem? (i := 1) rfl))) (mvT hZ (hw _ (List.mem_of_getElem? (i := 2) rfl))) (mvT hZ (hw _ (List.mem_of_getElem? (i := 3) rfl))) (mvT hZ (hw _ (List.mem_of_getElem? (i := 4) rfl))) (by decide) (backOf (W := 0) (rm1 l Z a0 hw [] A8 u1 (8 : Int32)  h0 n0 ) hZ (hw _ (List.mem_of_getElem? (i := 4) rfl)) (hw _ (List.mem_of_getElem? (i := 3) rfl)) (by decide) (by decide)) (g := (mkF m 106 #[.val (.int u0), .val (.int u1), .val (.int u2), .val (.int u3), .val (.int u4), .val (.int u5), .val (.int lo), .val (.int hi), .val (.int u0), .val (.int A1), .val (.int A2), .val (.int A3), .val (.int A4), .val (.int A5), .val (.int A6), .val (.int A7), .val (.int A8), .unset, .unset, .unset, .unset] [(.int (8 : Int32)), (.int u1), (.int A8)])) rfl (by rw [hml]; rfl) (argsL := [(.int A8), (.int u1), (.int (8 : Int32))]) (rest := []) (lenOf pd_1 rfl) rfl (by show 2 * 0 + _ ≤ _; exact Nat.le_of_eq rfl) (hb hby at_106) (fun _ _ => ⟨rfl, e21, (by decide : 0 + 0 ≤ _), (by decide : 0 + 0 ≤ _)⟩)
  dsimp only [Pt.U, Pt.locs, Pt.cells, Pt.slots] at X22 l22 y22 z22 st22 hQ22
  replace l22 := l22.symm
  replace y22 := y22.symm
  replace z22 := z22.symm
  subst l22 y22 z22
  obtain ⟨rfl, N22q, e22⟩ := hQ22
  have N22 := Fr.app N21 N22q
  refine Goes.of st22 ?_
  show Goes _ _ _ _ _ _ _ (T22.setTop (mkF m 109 #[.val (.int u0), .val (.int u1), .val (.int u2), .val (.int u3), .val (.int u4), .val (.int u5), .val (.int lo), .val (.int hi), .val (.int u0), .val (.int A1), .val (.int A2), .val (.int A3), .val (.int A4), .val (.int A5), .val (.int A6), .val (.int A7), .val (.int A8), .unset, .unset, .unset, .unset] [(.int (f1 A8 u1 (8 : Int32)))]))
  refine Goes.of (fun t k => XS.istore X22.here hx rfl (hb hby at_109) rfl (l' := #[.val (.int u0), .val (.int u1), .val (.int u2), .val (.int u3), .val (.int u4), .val (.int u5), .val (.int lo), .val (.int hi), .val (.int u0), .val (.int A1), .val (.int A2), .val (.int A3), .val (.int A4), .val (.int A5), .val (.int A6), .val (.int A7), .val (.int A8), .val (.int (f1 A8 u1 (8 : Int32))), .unset, .unset, .unset]) rfl k) ?_
  show Goes _ _ _ _ _ _ _ (T22.setTop (mkF m 111 #[.val (.int u0), .val (.int u1), .val (.int u2), .val (.int u3), .val (.int u4), .val (.int u5), .val (.int lo), .val (.int hi), .val (.int u0), .val (.int A1), .val (.int A2), .val (.int A3), .val (.int A4), .val (.int A5), .val (.int A6), .val (.int A7), .val (.int A8), .val (.int (f1 A8 u1 (8 : Int32))), .unset, .unset, .unset] []))
  obtain ⟨A9, hy_A9⟩ : ∃ z, z = (f1 A8 u1 (8 : Int32)) := ⟨_, rfl⟩
  rw [← hy_A9]
  show Goes _ _ _ _ _ _ _ (T22.setTop (mkF m 111 #[.val (.int u0), .val (.int u1), .val (.int u2), .val (.int u3), .val (.int u4), .val (.int u5), .val (.int lo), .val (.int hi), .val (.int u0), .val (.int A1), .val (.int A2), .val (.int A3), .val (.int A4), .val (.int A5), .val (.int A6), .val (.int A7), .val (.int A8), .val (.int A9), .unset, .unset, .unset] []))
  have m9 : A8.toInt ≤ A9.toInt := by rw [hy_A9]; exact own_nextmono _ _ _
  refine Goes.of (fun t k => XS.bipush X22.here hx rfl (hb hby at_111) k) ?_
  show Goes _ _ _ _ _ _ _ (T22.setTop (mkF m 113 #[.val (.int u0), .val (.int u1), .val (.int u2), .val (.int u3), .val (.int u4), .val (.int u5), .val (.int lo), .val (.int hi), .val (.int u0), .val (.int A1), .val (.int A2), .val (.int A3), .val (.int A4), .val (.int A5), .val (.int A6), .val (.int A7), .val (.int A8), .val (.int A9), .unset, .unset, .unset] [(.int (10 : Int32))]))
  obtain ⟨T23, h23, k23, X23, e23, E23, A23, Ea23, st23⟩ := newPE X22 hx hZ (hw _ (List.mem_of_getElem? (i := 10) rfl)) e22 (g := (mkF m 113 #[.val (.int u0), .val (.int u1), .val (.int u2), .val (.int u3), .val (.int u4), .val (.int u5), .val (.int lo), .val (.int hi), .val (.int u0), .val (.int A1), .val (.int A2), .val (.int A3), .val (.int A4), .val (.int A5), .val (.int A6), .val (.int A7), .val (.int A8), .val (.int A9), .unset, .unset, .unset] [(.int (10 : Int32))])) rfl (hb hby at_113) rfl (by decide) (cap := 10) (by decide) (by decide) (by decide) (by decide) (ad := "[I") (by decide)
  obtain ⟨b23, g23⟩ : ∃ z, z = h0.size := ⟨_, rfl⟩
  rw [← g23] at A23 Ea23 st23
  have V23 : AI Z h23 b23 .int 10 (fun _ => 0) := AI.new rfl rfl A23 (by decide) (by decide)
  have g_b23 : n0 ≤ b23 := Nat.le_trans Z0 (Nat.le_of_eq g23.symm)
  have Z23 : n0 ≤ h23.size := Nat.le_trans Z0 E23.1
  refine Goes.of st23 ?_
  show Goes _ _ _ _ _ _ _ (T23.setTop (mkF m 115 #[.val (.int u0), .val (.int u1), .val (.int u2), .val (.int u3), .val (.int u4), .val (.int u5), .val (.int lo), .val (.int hi), .val (.int u0), .val (.int A1), .val (.int A2), .val (.int A3), .val (.int A4), .val (.int A5), .val (.int A6), .val (.int A7), .val (.int A8), .val (.int A9), .unset, .unset, .unset] [(.ref b23)]))
  refine Goes.of (fun t k => XS.astore X23.here hx rfl (hb hby at_115) rfl rfl (l' := #[.val (.int u0), .val (.int u1), .val (.int u2), .val (.int u3), .val (.int u4), .val (.int u5), .val (.int lo), .val (.int hi), .val (.int u0), .val (.int A1), .val (.int A2), .val (.int A3), .val (.int A4), .val (.int A5), .val (.int A6), .val (.int A7), .val (.int A8), .val (.int A9), .val (.ref b23), .unset, .unset]) rfl k) ?_
  show Goes _ _ _ _ _ _ _ (T23.setTop (mkF m 117 #[.val (.int u0), .val (.int u1), .val (.int u2), .val (.int u3), .val (.int u4), .val (.int u5), .val (.int lo), .val (.int hi), .val (.int u0), .val (.int A1), .val (.int A2), .val (.int A3), .val (.int A4), .val (.int A5), .val (.int A6), .val (.int A7), .val (.int A8), .val (.int A9), .val (.ref b23), .unset, .unset] []))
  refine Goes.of (fun t k => XS.aload X23.here hx rfl (hb hby at_117) rfl rfl k) ?_
  show Goes _ _ _ _ _ _ _ (T23.setTop (mkF m 119 #[.val (.int u0), .val (.int u1), .val (.int u2), .val (.int u3), .val (.int u4), .val (.int u5), .val (.int lo), .val (.int hi), .val (.int u0), .val (.int A1), .val (.int A2), .val (.int A3), .val (.int A4), .val (.int A5), .val (.int A6), .val (.int A7), .val (.int A8), .val (.int A9), .val (.ref b23), .unset, .unset] [(.ref b23)]))
  refine Goes.of (fun t k => XS.iconst X23.here hx rfl (hb hby at_119) k) ?_
  show Goes _ _ _ _ _ _ _ (T23.setTop (mkF m 120 #[.val (.int u0), .val (.int u1), .val (.int u2), .val (.int u3), .val (.int u4), .val (.int u5), .val (.int lo), .val (.int hi), .val (.int u0), .val (.int A1), .val (.int A2), .val (.int A3), .val (.int A4), .val (.int A5), .val (.int A6), .val (.int A7), .val (.int A8), .val (.int A9), .val (.ref b23), .unset, .unset] [(.int (0 : Int32)), (.ref b23)]))
  refine Goes.of (fun t k => XS.iload X23.here hx rfl (hb hby at_120) rfl k) ?_
  show Goes _ _ _ _ _ _ _ (T23.setTop (mkF m 122 #[.val (.int u0), .val (.int u1), .val (.int u2), .val (.int u3), .val (.int u4), .val (.int u5), .val (.int lo), .val (.int hi), .val (.int u0), .val (.int A1), .val (.int A2), .val (.int A3), .val (.int A4), .val (.int A5), .val (.int A6), .val (.int A7), .val (.int A8), .val (.int A9), .val (.ref b23), .unset, .unset] [(.int u0), (.int (0 : Int32)), (.ref b23)]))
  refine Goes.of (fun t k => XS.iconst X23.here hx rfl (hb hby at_122) k) ?_
  show Goes _ _ _ _ _ _ _ (T23.setTop (mkF m 123 #[.val (.int u0), .val (.int u1), .val (.int u2), .val (.int u3), .val (.int u4), .val (.int u5), .val (.int lo), .val (.int hi), .val (.int u0), .val (.int A1), .val (.int A2), .val (.int A3), .val (.int A4), .val (.int A5), .val (.int A6), .val (.int A7), .val (.int A8), .val (.int A9), .val (.ref b23), .unset, .unset] [(.int (0 : Int32)), (.int u0), (.int (0 : Int32)), (.ref b23)]))
  refine Goes.of (fun t k => XS.iload X23.here hx rfl (hb hby at_123) rfl k) ?_
  show Goes _ _ _ _ _ _ _ (T23.setTop (mkF m 125 #[.val (.int u0), .val (.int u1), .val (.int u2), .val (.int u3), .val (.int u4), .val (.int u5), .val (.int lo), .val (.int hi), .val (.int u0), .val (.int A1), .val (.int A2), .val (.int A3), .val (.int A4), .val (.int A5), .val (.int A6), .val (.int A7), .val (.int A8), .val (.int A9), .val (.ref b23), .unset, .unset] [(.int lo), (.int (0 : Int32)), (.int u0), (.int (0 : Int32)), (.ref b23)]))
  refine Goes.of (fun t k => XS.iload X23.here hx rfl (hb hby at_125) rfl k) ?_
  show Goes _ _ _ _ _ _ _ (T23.setTop (mkF m 127 #[.val (.int u0), .val (.int u1), .val (.int u2), .val (.int u3), .val (.int u4), .val (.int u5), .val (.int lo), .val (.int hi), .val (.int u0), .val (.int A1), .val (.int A2), .val (.int A3), .val (.int A4), .val (.int A5), .val (.int A6), .val (.int A7), .val (.int A8), .val (.int A9), .val (.ref b23), .unset, .unset] [(.int hi), (.int lo), (.int (0 : Int32)), (.int u0), (.int (0 : Int32)), (.ref b23)]))
  refine Goes.of (fun t k => XS.iload X23.here hx rfl (hb hby at_127) rfl k) ?_
  show Goes _ _ _ _ _ _ _ (T23.setTop (mkF m 129 #[.val (.int u0), .val (.int u1), .val (.int u2), .val (.int u3), .val (.int u4), .val (.int u5), .val (.int lo), .val (.int hi), .val (.int u0), .val (.int A1), .val (.int A2), .val (.int A3), .val (.int A4), .val (.int A5), .val (.int A6), .val (.int A7), .val (.int A8), .val (.int A9), .val (.ref b23), .unset, .unset] [(.int u5), (.int hi), (.int lo), (.int (0 : Int32)), (.int u0), (.int (0 : Int32)), (.ref b23)]))
  obtain ⟨_, _, ⟨T24, L24, k24, n24⟩, -, X24, ⟨Lc24, hQ24, l24, y24, z24⟩, st24⟩ := Jvm.LawKit.callS X23 hx (y := (⟨"com/example/orderly_twig/orderlytwig/engine/AscendingSearchFirstAtLeastPinLaw", "pick", "(IIIII)I"⟩ : MethodName)) hown (mvT hZ (hw _ (List.mem_of_getElem? (i := 11) rfl))) (mvT hZ (hw _ (List.mem_of_getElem? (i := 12) rfl))) (mvT hZ (hw _ (List.mem_of_getElem? (i := 3) rfl))) (mvT hZ (hw _ (List.mem_of_getElem? (i := 13) rfl))) (by decide) (backOf (W := 2) (rm3 l Z a0 hw [] u0 (0 : Int32) lo hi u5  h23 n0 ) hZ (hw _ (List.mem_of_getElem? (i := 13) rfl)) (hw _ (List.mem_of_getElem? (i := 3) rfl)) (by decide) (by decide)) (g := (mkF m 129 #[.val (.int u0), .val (.int u1), .val (.int u2), .val (.int u3), .val (.int u4), .val (.int u5), .val (.int lo), .val (.int hi), .val (.int u0), .val (.int A1), .val (.int A2), .val (.int A3), .val (.int A4), .val (.int A5), .val (.int A6), .val (.int A7), .val (.int A8), .val (.int A9), .val (.ref b23), .unset, .unset] [(.int u5), (.int hi), (.int lo), (.int (0 : Int32)), (.int u0), (.int (0 : Int32)), (.ref b23)])) rfl (by rw [hml]; rfl) (argsL := [(.int u0), (.int (0 : Int32)), (.int lo), (.int hi), (.int u5)]) (rest := [(.int (0 : Int32)), (.ref b23)]) (lenOf pd_2 rfl) rfl (by show 2 * 0 + _ ≤ _; exact Nat.le_of_eq rfl) (hb hby at_129) (fun _ _ => ⟨rfl, e23, (by decide : 1 + 0 ≤ _), (by decide : 10 + 0 ≤ _)⟩)
  dsimp only [Pt.U, Pt.locs, Pt.cells, Pt.slots] at X24 l24 y24 z24 st24 hQ24
  replace l24 := l24.symm
  replace y24 := y24.symm
  replace z24 := z24.symm
  subst l24 y24 z24
  obtain ⟨rfl, N24q, e24⟩ := hQ24
  have N24 := Fr.app N22 N24q
  refine Goes.of st24 ?_
  show Goes _ _ _ _ _ _ _ (T24.setTop (mkF m 132 #[.val (.int u0), .val (.int u1), .val (.int u2), .val (.int u3), .val (.int u4), .val (.int u5), .val (.int lo), .val (.int hi), .val (.int u0), .val (.int A1), .val (.int A2), .val (.int A3), .val (.int A4), .val (.int A5), .val (.int A6), .val (.int A7), .val (.int A8), .val (.int A9), .val (.ref b23), .unset, .unset] [(.int (f3 u0 (0 : Int32) lo hi u5)), (.int (0 : Int32)), (.ref b23)]))
  obtain ⟨T25, h25, X25, e25, W25, V25, st25⟩ := putI X24 hx hZ e24 V23 (j := (0 : Int32)) (x := (f3 u0 (0 : Int32) lo hi u5)) (i := 0) (by decide) (by decide) (by decide) (g := (mkF m 132 #[.val (.int u0), .val (.int u1), .val (.int u2), .val (.int u3), .val (.int u4), .val (.int u5), .val (.int lo), .val (.int hi), .val (.int u0), .val (.int A1), .val (.int A2), .val (.int A3), .val (.int A4), .val (.int A5), .val (.int A6), .val (.int A7), .val (.int A8), .val (.int A9), .val (.ref b23), .unset, .unset] [(.int (f3 u0 (0 : Int32) lo hi u5)), (.int (0 : Int32)), (.ref b23)])) rfl rfl (hb hby at_132)
  have Z25 : n0 ≤ h25.size := Nat.le_trans Z23 (Keep.of_wr W25).1
  have N25 := Fr.snoc X25 N24 g_b23
  refine Goes.of st25 ?_
  show Goes _ _ _ _ _ _ _ (T25.setTop (mkF m 133 #[.val (.int u0), .val (.int u1), .val (.int u2), .val (.int u3), .val (.int u4), .val (.int u5), .val (.int lo), .val (.int hi), .val (.int u0), .val (.int A1), .val (.int A2), .val (.int A3), .val (.int A4), .val (.int A5), .val (.int A6), .val (.int A7), .val (.int A8), .val (.int A9), .val (.ref b23), .unset, .unset] []))
  refine Goes.of (fun t k => XS.aload X25.here hx rfl (hb hby at_133) rfl rfl k) ?_
  show Goes _ _ _ _ _ _ _ (T25.setTop (mkF m 135 #[.val (.int u0), .val (.int u1), .val (.int u2), .val (.int u3), .val (.int u4), .val (.int u5), .val (.int lo), .val (.int hi), .val (.int u0), .val (.int A1), .val (.int A2), .val (.int A3), .val (.int A4), .val (.int A5), .val (.int A6), .val (.int A7), .val (.int A8), .val (.int A9), .val (.ref b23), .unset, .unset] [(.ref b23)]))
  refine Goes.of (fun t k => XS.iconst X25.here hx rfl (hb hby at_135) k) ?_
  show Goes _ _ _ _ _ _ _ (T25.setTop (mkF m 136 #[.val (.int u0), .val (.int u1), .val (.int u2), .val (.int u3), .val (.int u4), .val (.int u5), .val (.int lo), .val (.int hi), .val (.int u0), .val (.int A1), .val (.int A2), .val (.int A3), .val (.int A4), .val (.int A5), .val (.int A6), .val (.int A7), .val (.int A8), .val (.int A9), .val (.ref b23), .unset, .unset] [(.int (1 : Int32)), (.ref b23)]))
  refine Goes.of (fun t k => XS.iload X25.here hx rfl (hb hby at_136) rfl k) ?_
  show Goes _ _ _ _ _ _ _ (T25.setTop (mkF m 138 #[.val (.int u0), .val (.int u1), .val (.int u2), .val (.int u3), .val (.int u4), .val (.int u5), .val (.int lo), .val (.int hi), .val (.int u0), .val (.int A1), .val (.int A2), .val (.int A3), .val (.int A4), .val (.int A5), .val (.int A6), .val (.int A7), .val (.int A8), .val (.int A9), .val (.ref b23), .unset, .unset] [(.int A1), (.int (1 : Int32)), (.ref b23)]))
  refine Goes.of (fun t k => XS.iconst X25.here hx rfl (hb hby at_138) k) ?_
  show Goes _ _ _ _ _ _ _ (T25.setTop (mkF m 139 #[.val (.int u0), .val (.int u1), .val (.int u2), .val (.int u3), .val (.int u4), .val (.int u5), .val (.int lo), .val (.int hi), .val (.int u0), .val (.int A1), .val (.int A2), .val (.int A3), .val (.int A4), .val (.int A5), .val (.int A6), .val (.int A7), .val (.int A8), .val (.int A9), .val (.ref b23), .unset, .unset] [(.int (1 : Int32)), (.int A1), (.int (1 : Int32)), (.ref b23)]))
  refine Goes.of (fun t k => XS.iload X25.here hx rfl (hb hby at_139) rfl k) ?_
  show Goes _ _ _ _ _ _ _ (T25.setTop (mkF m 141 #[.val (.int u0), .val (.int u1), .val (.int u2), .val (.int u3), .val (.int u4), .val (.int u5), .val (.int lo), .val (.int hi), .val (.int u0), .val (.int A1), .val (.int A2), .val (.int A3), .val (.int A4), .val (.int A5), .val (.int A6), .val (.int A7), .val (.int A8), .val (.int A9), .val (.ref b23), .unset, .unset] [(.int lo), (.int (1 : Int32)), (.int A1), (.int (1 : Int32)), (.ref b23)]))
  refine Goes.of (fun t k => XS.iload X25.here hx rfl (hb hby at_141) rfl k) ?_
  show Goes _ _ _ _ _ _ _ (T25.setTop (mkF m 143 #[.val (.int u0), .val (.int u1), .val (.int u2), .val (.int u3), .val (.int u4), .val (.int u5), .val (.int lo), .val (.int hi), .val (.int u0), .val (.int A1), .val (.int A2), .val (.int A3), .val (.int A4), .val (.int A5), .val (.int A6), .val (.int A7), .val (.int A8), .val (.int A9), .val (.ref b23), .unset, .unset] [(.int hi), (.int lo), (.int (1 : Int32)), (.int A1), (.int (1 : Int32)), (.ref b23)]))
  refine Goes.of (fun t k => XS.iload X25.here hx rfl (hb hby at_143) rfl k) ?_
  show Goes _ _ _ _ _ _ _ (T25.setTop (mkF m 145 #[.val (.int u0), .val (.int u1), .val (.int u2), .val (.int u3), .val (.int u4), .val (.int u5), .val (.int lo), .val (.int hi), .val (.int u0), .val (.int A1), .val (.int A2), .val (.int A3), .val (.int A4), .val (.int A5), .val (.int A6), .val (.int A7), .val (.int A8), .val (.int A9), .val (.ref b23), .unset, .unset] [(.int u5), (.int hi), (.int lo), (.int (1 : Int32)), (.int A1), (.int (1 : Int32)), (.ref b23)]))
  obtain ⟨_, _, ⟨T26, L26, k26, n26⟩, -, X26, ⟨Lc26, hQ26, l26, y26, z26⟩, st26⟩ := Jvm.LawKit.callS X25 hx (y := (⟨"com/example/orderly_twig/orderlytwig/engine/AscendingSearchFirstAtLeastPinLaw", "pick", "(IIIII)I"⟩ : MethodName)) hown (mvT hZ (hw _ (List.mem_of_getElem? (i := 11) rfl))) (mvT hZ (hw _ (List.mem_of_getElem? (i := 12) rfl))) (mvT hZ (hw _ (List.mem_of_getElem? (i := 3) rfl))) (mvT hZ (hw _ (List.mem_of_getElem? (i := 13) rfl))) (by decide) (backOf (W := 2) (rm3 l Z a0 hw [] A1 (1 : Int32) lo hi u5  h25 n0 ) hZ (hw _ (List.mem_of_getElem? (i := 13) rfl)) (hw _ (List.mem_of_getElem? (i := 3) rfl)) (by decide) (by decide)) (g := (mkF m 145 #[.val (.int u0), .val (.int u1), .val (.int u2), .val (.int u3), .val (.int u4), .val (.int u5), .val (.int lo), .val (.int hi), .val (.int u0), .val (.int A1), .val (.int A2), .val (.int A3), .val (.int A4), .val (.int A5), .val (.int A6), .val (.int A7), .val (.int A8), .val (.int A9), .val (.ref b23), .unset, .unset] [(.int u5), (.int hi), (.int lo), (.int (1 : Int32)), (.int A1), (.int (1 : Int32)), (.ref b23)])) rfl (by rw [hml]; rfl) (argsL := [(.int A1), (.int (1 : Int32)), (.int lo), (.int hi), (.int u5)]) (rest := [(.int (1 : Int32)), (.ref b23)]) (lenOf pd_2 rfl) rfl (by show 2 * 0 + _ ≤ _; exact Nat.le_of_eq rfl) (hb hby at_145) (fun _ _ => ⟨rfl, e25, (by decide : 1 + 0 ≤ _), (by decide : 10 + 0 ≤ _)⟩)
  dsimp only [Pt.U, Pt.locs, Pt.cells, Pt.slots] at X26 l26 y26 z26 st26 hQ26
  replace l26 := l26.symm
  replace y26 := y26.symm
  replace z26 := z26.symm
  subst l26 y26 z26
  obtain ⟨rfl, N26q, e26⟩ := hQ26
  have N26 := Fr.app N25 N26q
  refine Goes.of st26 ?_
  show Goes _ _ _ _ _ _ _ (T26.setTop (mkF m 148 #[.val (.int u0), .val (.int u1), .val (.int u2), .val (.int u3), .val (.int u4), .val (.int u5), .val (.int lo), .val (.int hi), .val (.int u0), .val (.int A1), .val (.int A2), .val (.int A3), .val (.int A4), .val (.int A5), .val (.int A6), .val (.int A7), .val (.int A8), .val (.int A9), .val (.ref b23), .unset, .unset] [(.int (f3 A1 (1 : Int32) lo hi u5)), (.int (1 : Int32)), (.ref b23)]))
  obtain ⟨T27, h27, X27, e27, W27, V27, st27⟩ := putI X26 hx hZ e26 V25 (j := (1 : Int32)) (x := (f3 A1 (1 : Int32) lo hi u5)) (i := 1) (by decide) (by decide) (by decide) (g := (mkF m 148 #[.val (.int u0), .val (.int u1), .val (.int u2), .val (.int u3), .val (.int u4), .val (.int u5), .val (.int lo), .val (.int hi), .val (.int u0), .val (.int A1), .val (.int A2), .val (.int A3), .val (.int A4), .val (.int A5), .val (.int A6), .val (.int A7), .val (.int A8), .val (.int A9), .val (.ref b23), .unset, .unset] [(.int (f3 A1 (1 : Int32) lo hi u5)), (.int (1 : Int32)), (.ref b23)])) rfl rfl (hb hby at_148)
  have Z27 : n0 ≤ h27.size := Nat.le_trans Z25 (Keep.of_wr W27).1
  have N27 := Fr.snoc X27 N26 g_b23
  refine Goes.of st27 ?_
  show Goes _ _ _ _ _ _ _ (T27.setTop (mkF m 149 #[.val (.int u0), .val (.int u1), .val (.int u2), .val (.int u3), .val (.int u4), .val (.int u5), .val (.int lo), .val (.int hi), .val (.int u0), .val (.int A1), .val (.int A2), .val (.int A3), .val (.int A4), .val (.int A5), .val (.int A6), .val (.int A7), .val (.int A8), .val (.int A9), .val (.ref b23), .unset, .unset] []))
  refine Goes.of (fun t k => XS.aload X27.here hx rfl (hb hby at_149) rfl rfl k) ?_
  show Goes _ _ _ _ _ _ _ (T27.setTop (mkF m 151 #[.val (.int u0), .val (.int u1), .val (.int u2), .val (.int u3), .val (.int u4), .val (.int u5), .val (.int lo), .val (.int hi), .val (.int u0), .val (.int A1), .val (.int A2), .val (.int A3), .val (.int A4), .val (.int A5), .val (.int A6), .val (.int A7), .val (.int A8), .val (.int A9), .val (.ref b23), .unset, .unset] [(.ref b23)]))
  refine Goes.of (fun t k => XS.iconst X27.here hx rfl (hb hby at_151) k) ?_
  show Goes _ _ _ _ _ _ _ (T27.setTop (mkF m 152 #[.val (.int u0), .val (.int u1), .val (.int u2), .val (.int u3), .val (.int u4), .val (.int u5), .val (.int lo), .val (.int hi), .val (.int u0), .val (.int A1), .val (.int A2), .val (.int A3), .val (.int A4), .val (.int A5), .val (.int A6), .val (.int A7), .val (.int A8), .val (.int A9), .val (.ref b23), .unset, .unset] [(.int (2 : Int32)), (.ref b23)]))
  refine Goes.of (fun t k => XS.iload X27.here hx rfl (hb hby at_152) rfl k) ?_
  show Goes _ _ _ _ _ _ _ (T27.setTop (mkF m 154 #[.val (.int u0), .val (.int u1), .val (.int u2), .val (.int u3), .val (.int u4), .val (.int u5), .val (.int lo), .val (.int hi), .val (.int u0), .val (.int A1), .val (.int A2), .val (.int A3), .val (.int A4), .val (.int A5), .val (.int A6), .val (.int A7), .val (.int A8), .val (.int A9), .val (.ref b23), .unset, .unset] [(.int A2), (.int (2 : Int32)), (.ref b23)]))
  refine Goes.of (fun t k => XS.iconst X27.here hx rfl (hb hby at_154) k) ?_
  show Goes _ _ _ _ _ _ _ (T27.setTop (mkF m 155 #[.val (.int u0), .val (.int u1), .val (.int u2), .val (.int u3), .val (.int u4), .val (.int u5), .val (.int lo), .val (.int hi), .val (.int u0), .val (.int A1), .val (.int A2), .val (.int A3), .val (.int A4), .val (.int A5), .val (.int A6), .val (.int A7), .val (.int A8), .val (.int A9), .val (.ref b23), .unset, .unset] [(.int (2 : Int32)), (.int A2), (.int (2 : Int32)), (.ref b23)]))
  refine Goes.of (fun t k => XS.iload X27.here hx rfl (hb hby at_155) rfl k) ?_
  show Goes _ _ _ _ _ _ _ (T27.setTop (mkF m 157 #[.val (.int u0), .val (.int u1), .val (.int u2), .val (.int u3), .val (.int u4), .val (.int u5), .val (.int lo), .val (.int hi), .val (.int u0), .val (.int A1), .val (.int A2), .val (.int A3), .val (.int A4), .val (.int A5), .val (.int A6), .val (.int A7), .val (.int A8), .val (.int A9), .val (.ref b23), .unset, .unset] [(.int lo), (.int (2 : Int32)), (.int A2), (.int (2 : Int32)), (.ref b23)]))
  refine Goes.of (fun t k => XS.iload X27.here hx rfl (hb hby at_157) rfl k) ?_
  show Goes _ _ _ _ _ _ _ (T27.setTop (mkF m 159 #[.val (.int u0), .val (.int u1), .val (.int u2), .val (.int u3), .val (.int u4), .val (.int u5), .val (.int lo), .val (.int hi), .val (.int u0), .val (.int A1), .val (.int A2), .val (.int A3), .val (.int A4), .val (.int A5), .val (.int A6), .val (.int A7), .val (.int A8), .val (.int A9), .val (.ref b23), .unset, .unset] [(.int hi), (.int lo), (.int (2 : Int32)), (.int A2), (.int (2 : Int32)), (.ref b23)]))
  refine Goes.of (fun t k => XS.iload X27.here hx rfl (hb hby at_159) rfl k) ?_
  show Goes _ _ _ _ _ _ _ (T27.setTop (mkF m 161 #[.val (.int u0), .val (.int u1), .val (.int u2), .val (.int u3), .val (.int u4), .val (.int u5), .val (.int lo), .val (.int hi), .val (.int u0), .val (.int A1), .val (.int A2), .val (.int A3), .val (.int A4), .val (.int A5), .val (.int A6), .val (.int A7), .val (.int A8), .val (.int A9), .val (.ref b23), .unset, .unset] [(.int u5), (.int hi), (.int lo), (.int (2 : Int32)), (.int A2), (.int (2 : Int32)), (.ref b23)]))
  obtain ⟨_, _, ⟨T28, L28, k28, n28⟩, -, X28, ⟨Lc28, hQ28, l28, y28, z28⟩, st28⟩ := Jvm.LawKit.callS X27 hx (y := (⟨"com/example/orderly_twig/orderlytwig/engine/AscendingSearchFirstAtLeastPinLaw", "pick", "(IIIII)I"⟩ : MethodName)) hown (mvT hZ (hw _ (List.mem_of_getElem? (i := 11) rfl))) (mvT hZ (hw _ (List.mem_of_getElem? (i := 12) rfl))) (mvT hZ (hw _ (List.mem_of_getElem? (i := 3) rfl))) (mvT hZ (hw _ (List.mem_of_getElem? (i := 13) rfl))) (by decide) (backOf (W := 2) (rm3 l Z a0 hw [] A2 (2 : Int32) lo hi u5  h27 n0 ) hZ (hw _ (List.mem_of_getElem? (i := 13) rfl)) (hw _ (List.mem_of_getElem? (i := 3) rfl)) (by decide) (by decide)) (g := (mkF m 161 #[.val (.int u0), .val (.int u1), .val (.int u2), .val (.int u3), .val (.int u4), .val (.int u5), .val (.int lo), .val (.int hi), .val (.int u0), .val (.int A1), .val (.int A2), .val (.int A3), .val (.int A4), .val (.int A5), .val (.int A6), .val (.int A7), .val (.int A8), .val (.int A9), .val (.ref b23), .unset, .unset] [(.int u5), (.int hi), (.int lo), (.int (2 : Int32)), (.int A2), (.int (2 : Int32)), (.ref b23)])) rfl (by rw [hml]; rfl) (argsL := [(.int A2), (.int (2 : Int32)), (.int lo), (.int hi), (.int u5)]) (rest := [(.int (2 : Int32)), (.ref b23)]) (lenOf pd_2 rfl) rfl (by show 2 * 0 + _ ≤ _; exact Nat.le_of_eq rfl) (hb hby at_161) (fun _ _ => ⟨rfl, e27, (by decide : 1 + 0 ≤ _), (by decide : 10 + 0 ≤ _)⟩)
  dsimp only [Pt.U, Pt.locs, Pt.cells, Pt.slots] at X28 l28 y28 z28 st28 hQ28
  replace l28 := l28.symm
  replace y28 := y28.symm
  replace z28 := z28.symm
  subst l28 y28 z28
  obtain ⟨rfl, N28q, e28⟩ := hQ28
  have N28 := Fr.app N27 N28q
  refine Goes.of st28 ?_
  show Goes _ _ _ _ _ _ _ (T28.setTop (mkF m 164 #[.val (.int u0), .val (.int u1), .val (.int u2), .val (.int u3), .val (.int u4), .val (.int u5), .val (.int lo), .val (.int hi), .val (.int u0), .val (.int A1), .val (.int A2), .val (.int A3), .val (.int A4), .val (.int A5), .val (.int A6), .val (.int A7), .val (.int A8), .val (.int A9), .val (.ref b23), .unset, .unset] [(.int (f3 A2 (2 : Int32) lo hi u5)), (.int (2 : Int32)), (.ref b23)]))
  obtain ⟨T29, h29, X29, e29, W29, V29, st29⟩ := putI X28 hx hZ e28 V27 (j := (2 : Int32)) (x := (f3 A2 (2 : Int32) lo hi u5)) (i := 2) (by decide) (by decide) (by decide) (g := (mkF m 164 #[.val (.int u0), .val (.int u1), .val (.int u2), .val (.int u3), .val (.int u4), .val (.int u5), .val (.int lo), .val (.int hi), .val (.int u0), .val (.int A1), .val (.int A2), .val (.int A3), .val (.int A4), .val (.int A5), .val (.int A6), .val (.int A7), .val (.int A8), .val (.int A9), .val (.ref b23), .unset, .unset] [(.int (f3 A2 (2 : Int32) lo hi u5)), (.int (2 : Int32)), (.ref b23)])) rfl rfl (hb hby at_164)
  have Z29 : n0 ≤ h29.size := Nat.le_trans Z27 (Keep.of_wr W29).1
  have N29 := Fr.snoc X29 N28 g_b23
  refine Goes.of st29 ?_
  show Goes _ _ _ _ _ _ _ (T29.setTop (mkF m 165 #[.val (.int u0), .val (.int u1), .val (.int u2), .val (.int u3), .val (.int u4), .val (.int u5), .val (.int lo), .val (.int hi), .val (.int u0), .val (.int A1), .val (.int A2), .val (.int A3), .val (.int A4), .val (.int A5), .val (.int A6), .val (.int A7), .val (.int A8), .val (.int A9), .val (.ref b23), .unset, .unset] []))
  refine Goes.of (fun t k => XS.aload X29.here hx rfl (hb hby at_165) rfl rfl k) ?_
  show Goes _ _ _ _ _ _ _ (T29.setTop (mkF m 167 #[.val (.int u0), .val (.int u1), .val (.int u2), .val (.int u3), .val (.int u4), .val (.int u5), .val (.int lo), .val (.int hi), .val (.int u0), .val (.int A1), .val (.int A2), .val (.int A3), .val (.int A4), .val (.int A5), .val (.int A6), .val (.int A7), .val (.int A8), .val (.int A9), .val (.ref b23), .unset, .unset] [(.ref b23)]))
  refine Goes.of (fun t k => XS.iconst X29.here hx rfl (hb hby at_167) k) ?_
  show Goes _ _ _ _ _ _ _ (T29.setTop (mkF m 168 #[.val (.int u0), .val (.int u1), .val (.int u2), .val (.int u3), .val (.int u4), .val (.int u5), .val (.int lo), .val (.int hi), .val (.int u0), .val (.int A1), .val (.int A2), .val (.int A3), .val (.int A4), .val (.int A5), .val (.int A6), .val (.int A7), .val (.int A8), .val (.int A9), .val (.ref b23), .unset, .unset] [(.int (3 : Int32)), (.ref b23)]))
  refine Goes.of (fun t k => XS.iload X29.here hx rfl (hb hby at_168) rfl k) ?_
  show Goes _ _ _ _ _ _ _ (T29.setTop (mkF m 170 #[.val (.int u0), .val (.int u1), .val (.int u2), .val (.int u3), .val (.int u4), .val (.int u5), .val (.int lo), .val (.int hi), .val (.int u0), .val (.int A1), .val (.int A2), .val (.int A3), .val (.int A4), .val (.int A5), .val (.int A6), .val (.int A7), .val (.int A8), .val (.int A9), .val (.ref b23), .unset, .unset] [(.int A3), (.int (3 : Int32)), (.ref b23)]))
  refine Goes.of (fun t k => XS.iconst X29.here hx rfl (hb hby at_170) k) ?_
  show Goes _ _ _ _ _ _ _ (T29.setTop (mkF m 171 #[.val (.int u0), .val (.int u1), .val (.int u2), .val (.int u3), .val (.int u4), .val (.int u5), .val (.int lo), .val (.int hi), .val (.int u0), .val (.int A1), .val (.int A2), .val (.int A3), .val (.int A4), .val (.int A5), .val (.int A6), .val (.int A7), .val (.int A8), .val (.int A9), .val (.ref b23), .unset, .unset] [(.int (3 : Int32)), (.int A3), (.int (3 : Int32)), (.ref b23)]))
  refine Goes.of (fun t k => XS.iload X29.here hx rfl (hb hby at_171) rfl k) ?_
  show Goes _ _ _ _ _ _ _ (T29.setTop (mkF m 173 #[.val (.int u0), .val (.int u1), .val (.int u2), .val (.int u3), .val (.int u4), .val (.int u5), .val (.int lo), .val (.int hi), .val (.int u0), .val (.int A1), .val (.int A2), .val (.int A3), .val (.int A4), .val (.int A5), .val (.int A6), .val (.int A7), .val (.int A8), .val (.int A9), .val (.ref b23), .unset, .unset] [(.int lo), (.int (3 : Int32)), (.int A3), (.int (3 : Int32)), (.ref b23)]))
  refine Goes.of (fun t k => XS.iload X29.here hx rfl (hb hby at_173) rfl k) ?_
  show Goes _ _ _ _ _ _ _ (T29.setTop (mkF m 175 #[.val (.int u0), .val (.int u1), .val (.int u2), .val (.int u3), .val (.int u4), .val (.int u5), .val (.int lo), .val (.int hi), .val (.int u0), .val (.int A1), .val (.int A2), .val (.int A3), .val (.int A4), .val (.int A5), .val (.int A6), .val (.int A7), .val (.int A8), .val (.int A9), .val (.ref b23), .unset, .unset] [(.int hi), (.int lo), (.int (3 : Int32)), (.int A3), (.int (3 : Int32)), (.ref b23)]))
  refine Goes.of (fun t k => XS.iload X29.here hx rfl (hb hby at_175) rfl k) ?_
  show Goes _ _ _ _ _ _ _ (T29.setTop (mkF m 177 #[.val (.int u0), .val (.int u1), .val (.int u2), .val (.int u3), .val (.int u4), .val (.int u5), .val (.int lo), .val (.int hi), .val (.int u0), .val (.int A1), .val (.int A2), .val (.int A3), .val (.int A4), .val (.int A5), .val (.int A6), .val (.int A7), .val (.int A8), .val (.int A9), .val (.ref b23), .unset, .unset] [(.int u5), (.int hi), (.int lo), (.int (3 : Int32)), (.int A3), (.int (3 : Int32)), (.ref b23)]))
  obtain ⟨_, _, ⟨T30, L30, k30, n30⟩, -, X30, ⟨Lc30, hQ30, l30, y30, z30⟩, st30⟩ := Jvm.LawKit.callS X29 hx (y := (⟨"com/example/orderly_twig/orderlytwig/engine/AscendingSearchFirstAtLeastPinLaw", "pick", "(IIIII)I"⟩ : MethodName)) hown (mvT hZ (hw _ (List.mem_of_getElem? (i := 11) rfl))) (mvT hZ (hw _ (List.mem_of_getElem? (i := 12) rfl))) (mvT hZ (hw _ (List.mem_of_getElem? (i := 3) rfl))) (mvT hZ (hw _ (List.mem_of_getElem? (i := 13) rfl))) (by decide) (backOf (W := 2) (rm3 l Z a0 hw [] A3 (3 : Int32) lo hi u5  h29 n0 ) hZ (hw _ (List.mem_of_getElem? (i := 13) rfl)) (hw _ (List.mem_of_getElem? (i := 3) rfl)) (by decide) (by decide)) (g := (mkF m 177 #[.val (.int u0), .val (.int u1), .val (.int u2), .val (.int u3), .val (.int u4), .val (.int u5), .val (.int lo), .val (.int hi), .val (.int u0), .val (.int A1), .val (.int A2), .val (.int A3), .val (.int A4), .val (.int A5), .val (.int A6), .val (.int A7), .val (.int A8), .val (.int A9), .val (.ref b23), .unset, .unset] [(.int u5), (.int hi), (.int lo), (.int (3 : Int32)), (.int A3), (.int (3 : Int32)), (.ref b23)])) rfl (by rw [hml]; rfl) (argsL := [(.int A3), (.int (3 : Int32)), (.int lo), (.int hi), (.int u5)]) (rest := [(.int (3 : Int32)), (.ref b23)]) (lenOf pd_2 rfl) rfl (by show 2 * 0 + _ ≤ _; exact Nat.le_of_eq rfl) (hb hby at_177) (fun _ _ => ⟨rfl, e29, (by decide : 1 + 0 ≤ _), (by decide : 10 + 0 ≤ _)⟩)
  dsimp only [Pt.U, Pt.locs, Pt.cells, Pt.slots] at X30 l30 y30 z30 st30 hQ30
  replace l30 := l30.symm
  replace y30 := y30.symm
  replace z30 := z30.symm
  subst l30 y30 z30
  obtain ⟨rfl, N30q, e30⟩ := hQ30
  have N30 := Fr.app N29 N30q
  refine Goes.of st30 ?_
  show Goes _ _ _ _ _ _ _ (T30.setTop (mkF m 180 #[.val (.int u0), .val (.int u1), .val (.int u2), .val (.int u3), .val (.int u4), .val (.int u5), .val (.int lo), .val (.int hi), .val (.int u0), .val (.int A1), .val (.int A2), .val (.int A3), .val (.int A4), .val (.int A5), .val (.int A6), .val (.int A7), .val (.int A8), .val (.int A9), .val (.ref b23), .unset, .unset] [(.int (f3 A3 (3 : Int32) lo hi u5)), (.int (3 : Int32)), (.ref b23)]))
  obtain ⟨T31, h31, X31, e31, W31, V31, st31⟩ := putI X30 hx hZ e30 V29 (j := (3 : Int32)) (x := (f3 A3 (3 : Int32) lo hi u5)) (i := 3) (by decide) (by decide) (by decide) (g := (mkF m 180 #[.val (.int u0), .val (.int u1), .val (.int u2), .val (.int u3), .val (.int u4), .val (.int u5), .val (.int lo), .val (.int hi), .val (.int u0), .val (.int A1), .val (.int A2), .val (.int A3), .val (.int A4), .val (.int A5), .val (.int A6), .val (.int A7), .val (.int A8), .val (.int A9), .val (.ref b23), .unset, .unset] [(.int (f3 A3 (3 : Int32) lo hi u5)), (.int (3 : Int32)), (.ref b23)])) rfl rfl (hb hby at_180)
  have Z31 : n0 ≤ h31.size := Nat.le_trans Z29 (Keep.of_wr W31).1
  have N31 := Fr.snoc X31 N30 g_b23
  refine Goes.of st31 ?_
  show Goes _ _ _ _ _ _ _ (T31.setTop (mkF m 181 #[.val (.int u0), .val (.int u1), .val (.int u2), .val (.int u3), .val (.int u4), .val (.int u5), .val (.int lo), .val (.int hi), .val (.int u0), .val (.int A1), .val (.int A2), .val (.int A3), .val (.int A4), .val (.int A5), .val (.int A6), .val (.int A7), .val (.int A8), .val (.int A9), .val (.ref b23), .unset, .unset] []))
  refine Goes.of (fun t k => XS.aload X31.here hx rfl (hb hby at_181) rfl rfl k) ?_
  show Goes _ _ _ _ _ _ _ (T31.setTop (mkF m 183 #[.val (.int u0), .val (.int u1), .val (.int u2), .val (.int u3), .val (.int u4), .val (.int u5), .val (.int lo), .val (.int hi), .val (.int u0), .val (.int A1), .val (.int A2), .val (.int A3), .val (.int A4), .val (.int A5), .val (.int A6), .val (.int A7), .val (.int A8), .val (.int A9), .val (.ref b23), .unset, .unset] [(.ref b23)]))
  refine Goes.of (fun t k => XS.iconst X31.here hx rfl (hb hby at_183) k) ?_
  show Goes _ _ _ _ _ _ _ (T31.setTop (mkF m 184 #[.val (.int u0), .val (.int u1), .val (.int u2), .val (.int u3), .val (.int u4), .val (.int u5), .val (.int lo), .val (.int hi), .val (.int u0), .val (.int A1), .val (.int A2), .val (.int A3), .val (.int A4), .val (.int A5), .val (.int A6), .val (.int A7), .val (.int A8), .val (.int A9), .val (.ref b23), .unset, .unset] [(.int (4 : Int32)), (.ref b23)]))
  refine Goes.of (fun t k => XS.iload X31.here hx rfl (hb hby at_184) rfl k) ?_
  show Goes _ _ _ _ _ _ _ (T31.setTop (mkF m 186 #[.val (.int u0), .val (.int u1), .val (.int u2), .val (.int u3), .val (.int u4), .val (.int u5), .val (.int lo), .val (.int hi), .val (.int u0), .val (.int A1), .val (.int A2), .val (.int A3), .val (.int A4), .val (.int A5), .val (.int A6), .val (.int A7), .val (.int A8), .val (.int A9), .val (.ref b23), .unset, .unset] [(.int A4), (.int (4 : Int32)), (.ref b23)]))
  refine Goes.of (fun t k => XS.iconst X31.here hx rfl (hb hby at_186) k) ?_
  show Goes _ _ _ _ _ _ _ (T31.setTop (mkF m 187 #[.val (.int u0), .val (.int u1), .val (.int u2), .val (.int u3), .val (.int u4), .val (.int u5), .val (.int lo), .val (.int hi), .val (.int u0), .val (.int A1), .val (.int A2), .val (.int A3), .val (.int A4), .val (.int A5), .val (.int A6), .val (.int A7), .val (.int A8), .val (.int A9), .val (.ref b23), .unset, .unset] [(.int (4 : Int32)), (.int A4), (.int (4 : Int32)), (.ref b23)]))
  refine Goes.of (fun t k => XS.iload X31.here hx rfl (hb hby at_187) rfl k) ?_
  show Goes _ _ _ _ _ _ _ (T31.setTop (mkF m 189 #[.val (.int u0), .val (.int u1), .val (.int u2), .val (.int u3), .val (.int u4), .val (.int u5), .val (.int lo), .val (.int hi), .val (.int u0), .val (.int A1), .val (.int A2), .val (.int A3), .val (.int A4), .val (.int A5), .val (.int A6), .val (.int A7), .val (.int A8), .val (.int A9), .val (.ref b23), .unset, .unset] [(.int lo), (.int (4 : Int32)), (.int A4), (.int (4 : Int32)), (.ref b23)]))
  refine Goes.of (fun t k => XS.iload X31.here hx rfl (hb hby at_189) rfl k) ?_
  show Goes _ _ _ _ _ _ _ (T31.setTop (mkF m 191 #[.val (.int u0), .val (.int u1), .val (.int u2), .val (.int u3), .val (.int u4), .val (.int u5), .val (.int lo), .val (.int hi), .val (.int u0), .val (.int A1), .val (.int A2), .val (.int A3), .val (.int A4), .val (.int A5), .val (.int A6), .val (.int A7), .val (.int A8), .val (.int A9), .val (.ref b23), .unset, .unset] [(.int hi), (.int lo), (.int (4 : Int32)), (.int A4), (.int (4 : Int32)), (.ref b23)]))
  refine Goes.of (fun t k => XS.iload X31.here hx rfl (hb hby at_191) rfl k) ?_
  show Goes _ _ _ _ _ _ _ (T31.setTop (mkF m 193 #[.val (.int u0), .val (.int u1), .val (.int u2), .val (.int u3), .val (.int u4), .val (.int u5), .val (.int lo), .val (.int hi), .val (.int u0), .val (.int A1), .val (.int A2), .val (.int A3), .val (.int A4), .val (.int A5), .val (.int A6), .val (.int A7), .val (.int A8), .val (.int A9), .val (.ref b23), .unset, .unset] [(.int u5), (.int hi), (.int lo), (.int (4 : Int32)), (.int A4), (.int (4 : Int32)), (.ref b23)]))
  obtain ⟨_, _, ⟨T32, L32, k32, n32⟩, -, X32, ⟨Lc32, hQ32, l32, y32, z32⟩, st32⟩ := Jvm.LawKit.callS X31 hx (y := (⟨"com/example/orderly_twig/orderlytwig/engine/AscendingSearchFirstAtLeastPinLaw", "pick", "(IIIII)I"⟩ : MethodName)) hown (mvT hZ (hw _ (List.mem_of_getElem? (i := 11) rfl))) (mvT hZ (hw _ (List.mem_of_getElem? (i := 12) rfl))) (mvT hZ (hw _ (List.mem_of_getElem? (i := 3) rfl))) (mvT hZ (hw _ (List.mem_of_getElem? (i := 13) rfl))) (by decide) (backOf (W := 2) (rm3 l Z a0 hw [] A4 (4 : Int32) lo hi u5  h31 n0 ) hZ (hw _ (List.mem_of_getElem? (i := 13) rfl)) (hw _ (List.mem_of_getElem? (i := 3) rfl)) (by decide) (by decide)) (g := (mkF m 193 #[.val (.int u0), .val (.int u1), .val (.int u2), .val (.int u3), .val (.int u4), .val (.int u5), .val (.int lo), .val (.int hi), .val (.int u0), .val (.int A1), .val (.int A2), .val (.int A3), .val (.int A4), .val (.int A5), .val (.int A6), .val (.int A7), .val (.int A8), .val (.int A9), .val (.ref b23), .unset, .unset] [(.int u5), (.int hi), (.int lo), (.int (4 : Int32)), (.int A4), (.int (4 : Int32)), (.ref b23)])) rfl (by rw [hml]; rfl) (argsL := [(.int A4), (.int (4 : Int32)), (.int lo), (.int hi), (.int u5)]) (rest := [(.int (4 : Int32)), (.ref b23)]) (lenOf pd_2 rfl) rfl (by show 2 * 0 + _ ≤ _; exact Nat.le_of_eq rfl) (hb hby at_193) (fun _ _ => ⟨rfl, e31, (by decide : 1 + 0 ≤ _), (by decide : 10 + 0 ≤ _)⟩)
  dsimp only [Pt.U, Pt.locs, Pt.cells, Pt.slots] at X32 l32 y32 z32 st32 hQ32
  replace l32 := l32.symm
  replace y32 := y32.symm
  replace z32 := z32.symm
  subst l32 y32 z32
  obtain ⟨rfl, N32q, e32⟩ := hQ32
  have N32 := Fr.app N31 N32q
  refine Goes.of st32 ?_
  show Goes _ _ _ _ _ _ _ (T32.setTop (mkF m 196 #[.val (.int u0), .val (.int u1), .val (.int u2), .val (.int u3), .val (.int u4), .val (.int u5), .val (.int lo), .val (.int hi), .val (.int u0), .val (.int A1), .val (.int A2), .val (.int A3), .val (.int A4), .val (.int A5), .val (.int A6), .val (.int A7), .val (.int A8), .val (.int A9), .val (.ref b23), .unset, .unset] [(.int (f3 A4 (4 : Int32) lo hi u5)), (.int (4 : Int32)), (.ref b23)]))
  obtain ⟨T33, h33, X33, e33, W33, V33, st33⟩ := putI X32 hx hZ e32 V31 (j := (4 : Int32)) (x := (f3 A4 (4 : Int32) lo hi u5)) (i := 4) (by decide) (by decide) (by decide) (g := (mkF m 196 #[.val (.int u0), .val (.int u1), .val (.int u2), .val (.int u3), .val (.int u4), .val (.int u5), .val (.int lo), .val (.int hi), .val (.int u0), .val (.int A1), .val (.int A2), .val (.int A3), .val (.int A4), .val (.int A5), .val (.int A6), .val (.int A7), .val (.int A8), .val (.int A9), .val (.ref b23), .unset, .unset] [(.int (f3 A4 (4 : Int32) lo hi u5)), (.int (4 : Int32)), (.ref b23)])) rfl rfl (hb hby at_196)
  have Z33 : n0 ≤ h33.size := Nat.le_trans Z31 (Keep.of_wr W33).1
  have N33 := Fr.snoc X33 N32 g_b23
  refine Goes.of st33 ?_
  show Goes _ _ _ _ _ _ _ (T33.setTop (mkF m 197 #[.val (.int u0), .val (.int u1), .val (.int u2), .val (.int u3), .val (.int u4), .val (.int u5), .val (.int lo), .val (.int hi), .val (.int u0), .val (.int A1), .val (.int A2), .val (.int A3), .val (.int A4), .val (.int A5), .val (.int A6), .val (.int A7), .val (.int A8), .val (.int A9), .val (.ref b23), .unset, .unset] []))
  refine Goes.of (fun t k => XS.aload X33.here hx rfl (hb hby at_197) rfl rfl k) ?_
  show Goes _ _ _ _ _ _ _ (T33.setTop (mkF m 199 #[.val (.int u0), .val (.int u1), .val (.int u2), .val (.int u3), .val (.int u4), .val (.int u5), .val (.int lo), .val (.int hi), .val (.int u0), .val (.int A1), .val (.int A2), .val (.int A3), .val (.int A4), .val (.int A5), .val (.int A6), .val (.int A7), .val (.int A8), .val (.int A9), .val (.ref b23), .unset, .unset] [(.ref b23)]))
  refine Goes.of (fun t k => XS.iconst X33.here hx rfl (hb hby at_199) k) ?_
  show Goes _ _ _ _ _ _ _ (T33.setTop (mkF m 200 #[.val (.int u0), .val (.int u1), .val (.int u2), .val (.int u3), .val (.int u4), .val (.int u5), .val (.int lo), .val (.int hi), .val (.int u0), .val (.int A1), .val (.int A2), .val (.int A3), .val (.int A4), .val (.int A5), .val (.int A6), .val (.int A7), .val (.int A8), .val (.int A9), .val (.ref b23), .unset, .unset] [(.int (5 : Int32)), (.ref b23)]))
  refine Goes.of (fun t k => XS.iload X33.here hx rfl (hb hby at_200) rfl k) ?_
  show Goes _ _ _ _ _ _ _ (T33.setTop (mkF m 202 #[.val (.int u0), .val (.int u1), .val (.int u2), .val (.int u3), .val (.int u4), .val (.int u5), .val (.int lo), .val (.int hi), .val (.int u0), .val (.int A1), .val (.int A2), .val (.int A3), .val (.int A4), .val (.int A5), .val (.int A6), .val (.int A7), .val (.int A8), .val (.int A9), .val (.ref b23), .unset, .unset] [(.int A5), (.int (5 : Int32)), (.ref b23)]))
  refine Goes.of (fun t k => XS.iconst X33.here hx rfl (hb hby at_202) k) ?_
  show Goes _ _ _ _ _ _ _ (T33.setTop (mkF m 203 #[.val (.int u0), .val (.int u1), .val (.int u2), .val (.int u3), .val (.int u4), .val (.int u5), .val (.int lo), .val (.int hi), .val (.int u0), .val (.int A1), .val (.int A2), .val (.int A3), .val (.int A4), .val (.int A5), .val (.int A6), .val (.int A7), .val (.int A8), .val (.int A9), .val (.ref b23), .unset, .unset] [(.int (5 : Int32)), (.int A5), (.int (5 : Int32)), (.ref b23)]))
  refine Goes.of (fun t k => XS.iload X33.here hx rfl (hb hby at_203) rfl k) ?_
  show Goes _ _ _ _ _ _ _ (T33.setTop (mkF m 205 #[.val (.int u0), .val (.int u1), .val (.int u2), .val (.int u3), .val (.int u4), .val (.int u5), .val (.int lo), .val (.int hi), .val (.int u0), .val (.int A1), .val (.int A2), .val (.int A3), .val (.int A4), .val (.int A5), .val (.int A6), .val (.int A7), .val (.int A8), .val (.int A9), .val (.ref b23), .unset, .unset] [(.int lo), (.int (5 : Int32)), (.int A5), (.int (5 : Int32)), (.ref b23)]))
  refine Goes.of (fun t k => XS.iload X33.here hx rfl (hb hby at_205) rfl k) ?_
  show Goes _ _ _ _ _ _ _ (T33.setTop (mkF m 207 #[.val (.int u0), .val (.int u1), .val (.int u2), .val (.int u3), .val (.int u4), .val (.int u5), .val (.int lo), .val (.int hi), .val (.int u0), .val (.int A1), .val (.int A2), .val (.int A3), .val (.int A4), .val (.int A5), .val (.int A6), .val (.int A7), .val (.int A8), .val (.int A9), .val (.ref b23), .unset, .unset] [(.int hi), (.int lo), (.int (5 : Int32)), (.int A5), (.int (5 : Int32)), (.ref b23)]))
  refine Goes.of (fun t k => XS.iload X33.here hx rfl (hb hby at_207) rfl k) ?_
  show Goes _ _ _ _ _ _ _ (T33.setTop (mkF m 209 #[.val (.int u0), .val (.int u1), .val (.int u2), .val (.int u3), .val (.int u4), .val (.int u5), .val (.int lo), .val (.int hi), .val (.int u0), .val (.int A1), .val (.int A2), .val (.int A3), .val (.int A4), .val (.int A5), .val (.int A6), .val (.int A7), .val (.int A8), .val (.int A9), .val (.ref b23), .unset, .unset] [(.int u5), (.int hi), (.int lo), (.int (5 : Int32)), (.int A5), (.int (5 : Int32)), (.ref b23)]))
  obtain ⟨_, _, ⟨T34, L34, k34, n34⟩, -, X34, ⟨Lc34, hQ34, l34, y34, z34⟩, st34⟩ := Jvm.LawKit.callS X33 hx (y := (⟨"com/example/orderly_twig/orderlytwig/engine/AscendingSearchFirstAtLeastPinLaw", "pick", "(IIIII)I"⟩ : MethodName)) hown (mvT hZ (hw _ (List.mem_of_getElem? (i := 11) rfl))) (mvT hZ (hw _ (List.mem_of_getElem? (i := 12) rfl))) (mvT hZ (hw _ (List.mem_of_getElem? (i := 3) rfl))) (mvT hZ (hw _ (List.mem_of_getElem? (i := 13) rfl))) (by decide) (backOf (W := 2) (rm3 l Z a0 hw [] A5 (5 : Int32) lo hi u5  h33 n0 ) hZ (hw _ (List.mem_of_getElem? (i := 13) rfl)) (hw _ (List.mem_of_getElem? (i := 3) rfl)) (by decide) (by decide)) (g := (mkF m 209 #[.val (.int u0), .val (.int u1), .val (.int u2), .val (.int u3), .val (.int u4), .val (.int u5), .val (.int lo), .val (.int hi), .val (.int u0), .val (.int A1), .val (.int A2), .val (.int A3), .val (.int A4), .val (.int A5), .val (.int A6), .val (.int A7), .val (.int A8), .val (.int A9), .val (.ref b23), .unset, .unset] [(.int u5), (.int hi), (.int lo), (.int (5 : Int32)), (.int A5), (.int (5 : Int32)), (.ref b23)])) rfl (by rw [hml]; rfl) (argsL := [(.int A5), (.int (5 : Int32)), (.int lo), (.int hi), (.int u5)]) (rest := [(.int (5 : Int32)), (.ref b23)]) (lenOf pd_2 rfl) rfl (by show 2 * 0 + _ ≤ _; exact Nat.le_of_eq rfl) (hb hby at_209) (fun _ _ => ⟨rfl, e33, (by decide : 1 + 0 ≤ _), (by decide : 10 + 0 ≤ _)⟩)
  dsimp only [Pt.U, Pt.locs, Pt.cells, Pt.slots] at X34 l34 y34 z34 st34 hQ34
  replace l34 := l34.symm
  replace y34 := y34.symm
  replace z34 := z34.symm
  subst l34 y34 z34
  obtain ⟨rfl, N34q, e34⟩ := hQ34
  have N34 := Fr.app N33 N34q
  refine Goes.of st34 ?_
  show Goes _ _ _ _ _ _ _ (T34.setTop (mkF m 212 #[.val (.int u0), .val (.int u1), .val (.int u2), .val (.int u3), .val (.int u4), .val (.int u5), .val (.int lo), .val (.int hi), .val (.int u0), .val (.int A1), .val (.int A2), .val (.int A3), .val (.int A4), .val (.int A5), .val (.int A6), .val (.int A7), .val (.int A8), .val (.int A9), .val (.ref b23), .unset, .unset] [(.int (f3 A5 (5 : Int32) lo hi u5)), (.int (5 : Int32)), (.ref b23)]))
  obtain ⟨T35, h35, X35, e35, W35, V35, st35⟩ := putI X34 hx hZ e34 V33 (j := (5 : Int32)) (x := (f3 A5 (5 : Int32) lo hi u5)) (i := 5) (by decide) (by decide) (by decide) (g := (mkF m 212 #[.val (.int u0), .val (.int u1), .val (.int u2), .val (.int u3), .val (.int u4), .val (.int u5), .val (.int lo), .val (.int hi), .val (.int u0), .val (.int A1), .val (.int A2), .val (.int A3), .val (.int A4), .val (.int A5), .val (.int A6), .val (.int A7), .val (.int A8), .val (.int A9), .val (.ref b23), .unset, .unset] [(.int (f3 A5 (5 : Int32) lo hi u5)), (.int (5 : Int32)), (.ref b23)])) rfl rfl (hb hby at_212)
  have Z35 : n0 ≤ h35.size := Nat.le_trans Z33 (Keep.of_wr W35).1
  have N35 := Fr.snoc X35 N34 g_b23
  refine Goes.of st35 ?_
  show Goes _ _ _ _ _ _ _ (T35.setTop (mkF m 213 #[.val (.int u0), .val (.int u1), .val (.int u2), .val (.int u3), .val (.int u4), .val (.int u5), .val (.int lo), .val (.int hi), .val (.int u0), .val (.int A1), .val (.int A2), .val (.int A3), .val (.int A4), .val (.int A5), .val (.int A6), .val (.int A7), .val (.int A8), .val (.int A9), .val (.ref b23), .unset, .unset] []))
  refine Goes.of (fun t k => XS.aload X35.here hx rfl (hb hby at_213) rfl rfl k) ?_
  show Goes _ _ _ _ _ _ _ (T35.setTop (mkF m 215 #[.val (.int u0), .val (.int u1), .val (.int u2), .val (.int u3), .val (.int u4), .val (.int u5), .val (.int lo), .val (.int hi), .val (.int u0), .val (.int A1), .val (.int A2), .val (.int A3), .val (.int A4), .val (.int A5), .val (.int A6), .val (.int A7), .val (.int A8), .val (.int A9), .val (.ref b23), .unset, .unset] [(.ref b23)]))
  refine Goes.of (fun t k => XS.bipush X35.here hx rfl (hb hby at_215) k) ?_
  show Goes _ _ _ _ _ _ _ (T35.setTop (mkF m 217 #[.val (.int u0), .val (.int u1), .val (.int u2), .val (.int u3), .val (.int u4), .val (.int u5), .val (.int lo), .val (.int hi), .val (.int u0), .val (.int A1), .val (.int A2), .val (.int A3), .val (.int A4), .val (.int A5), .val (.int A6), .val (.int A7), .val (.int A8), .val (.int A9), .val (.ref b23), .unset, .unset] [(.int (6 : Int32)), (.ref b23)]))
  refine Goes.of (fun t k => XS.iload X35.here hx rfl (hb hby at_217) rfl k) ?_
  show Goes _ _ _ _ _ _ _ (T35.setTop (mkF m 219 #[.val (.int u0), .val (.int u1), .val (.int u2), .val (.int u3), .val (.int u4), .val (.int u5), .val (.int lo), .val (.int hi), .val (.int u0), .val (.int A1), .val (.int A2), .val (.int A3), .val (.int A4), .val (.int A5), .val (.int A6), .val (.int A7), .val (.int A8), .val (.int A9), .val (.ref b23), .unset, .unset] [(.int A6), (.int (6 : Int32)), (.ref b23)]))
  refine Goes.of (fun t k => XS.bipush X35.here hx rfl (hb hby at_219) k) ?_
  show Goes _ _ _ _ _ _ _ (T35.setTop (mkF m 221 #[.val (.int u0), .val (.int u1), .val (.int u2), .val (.int u3), .val (.int u4), .val (.int u5), .val (.int lo), .val (.int hi), .val (.int u0), .val (.int A1), .val (.int A2), .val (.int A3), .val (.int A4), .val (.int A5), .val (.int A6), .val (.int A7), .val (.int A8), .val (.int A9), .val (.ref b23), .unset, .unset] [(.int (6 : Int32)), (.int A6), (.int (6 : Int32)), (.ref b23)]))
  refine Goes.of (fun t k => XS.iload X35.here hx rfl (hb hby at_221) rfl k) ?_
  show Goes _ _ _ _ _ _ _ (T35.setTop (mkF m 223 #[.val (.int u0), .val (.int u1), .val (.int u2), .val (.int u3), .val (.int u4), .val (.int u5), .val (.int lo), .val (.int hi), .val (.int u0), .val (.int A1), .val (.int A2), .val (.int A3), .val (.int A4), .val (.int A5), .val (.int A6), .val (.int A7), .val (.int A8), .val (.int A9), .val (.ref b23), .unset, .unset] [(.int lo), (.int (6 : Int32)), (.int A6), (.int (6 : Int32)), (.ref b23)]))
  refine Goes.of (fun t k => XS.iload X35.here hx rfl (hb hby at_223) rfl k) ?_
  show Goes _ _ _ _ _ _ _ (T35.setTop (mkF m 225 #[.val (.int u0), .val (.int u1), .val (.int u2), .val (.int u3), .val (.int u4), .val (.int u5), .val (.int lo), .val (.int hi), .val (.int u0), .val (.int A1), .val (.int A2), .val (.int A3), .val (.int A4), .val (.int A5), .val (.int A6), .val (.int A7), .val (.int A8), .val (.int A9), .val (.ref b23), .unset, .unset] [(.int hi), (.int lo), (.int (6 : Int32)), (.int A6), (.int (6 : Int32)), (.ref b23)]))
  refine Goes.of (fun t k => XS.iload X35.here hx rfl (hb hby at_225) rfl k) ?_
  show Goes _ _ _ _ _ _ _ (T35.setTop (mkF m 227 #[.val (.int u0), .val (.int u1), .val (.int u2), .val (.int u3), .val (.int u4), .val (.int u5), .val (.int lo), .val (.int hi), .val (.int u0), .val (.int A1), .val (.int A2), .val (.int A3), .val (.int A4), .val (.int A5), .val (.int A6), .val (.int A7), .val (.int A8), .val (.int A9), .val (.ref b23), .unset, .unset] [(.int u5), (.int hi), (.int lo), (.int (6 : Int32)), (.int A6), (.int (6 : Int32)), (.ref b23)]))
  obtain ⟨_, _, ⟨T36, L36, k36, n36⟩, -, X36, ⟨Lc36, hQ36, l36, y36, z36⟩, st36⟩ := Jvm.LawKit.callS X35 hx (y := (⟨"com/example/orderly_twig/orderlytwig/engine/AscendingSearchFirstAtLeastPinLaw", "pick", "(IIIII)I"⟩ : MethodName)) hown (mvT hZ (hw _ (List.mem_of_getElem? (i := 11) rfl))) (mvT hZ (hw _ (List.mem_of_getElem? (i := 12) rfl))) (mvT hZ (hw _ (List.mem_of_getElem? (i := 3) rfl))) (mvT hZ (hw _ (List.mem_of_getElem? (i := 13) rfl))) (by decide) (backOf (W := 2) (rm3 l Z a0 hw [] A6 (6 : Int32) lo hi u5  h35 n0 ) hZ (hw _ (List.mem_of_getElem? (i := 13) rfl)) (hw _ (List.mem_of_getElem? (i := 3) rfl)) (by decide) (by decide)) (g := (mkF m 227 #[.val (.int u0), .val (.int u1), .val (.int u2), .val (.int u3), .val (.int u4), .val (.int u5), .val (.int lo), .val (.int hi), .val (.int u0), .val (.int A1), .val (.int A2), .val (.int A3), .val (.int A4), .val (.int A5), .val (.int A6), .val (.int A7), .val (.int A8), .val (.int A9), .val (.ref b23), .unset, .unset] [(.int u5), (.int hi), (.int lo), (.int (6 : Int32)), (.int A6), (.int (6 : Int32)), (.ref b23)])) rfl (by rw [hml]; rfl) (argsL := [(.int A6), (.int (6 : Int32)), (.int lo), (.int hi), (.int u5)]) (rest := [(.int (6 : Int32)), (.ref b23)]) (lenOf pd_2 rfl) rfl (by show 2 * 0 + _ ≤ _; exact Nat.le_of_eq rfl) (hb hby at_227) (fun _ _ => ⟨rfl, e35, (by decide : 1 + 0 ≤ _), (by decide : 10 + 0 ≤ _)⟩)
  dsimp only [Pt.U, Pt.locs, Pt.cells, Pt.slots] at X36 l36 y36 z36 st36 hQ36
  replace l36 := l36.symm
  replace y36 := y36.symm
  replace z36 := z36.symm
  subst l36 y36 z36
  obtain ⟨rfl, N36q, e36⟩ := hQ36
  have N36 := Fr.app N35 N36q
  refine Goes.of st36 ?_
  show Goes _ _ _ _ _ _ _ (T36.setTop (mkF m 230 #[.val (.int u0), .val (.int u1), .val (.int u2), .val (.int u3), .val (.int u4), .val (.int u5), .val (.int lo), .val (.int hi), .val (.int u0), .val (.int A1), .val (.int A2), .val (.int A3), .val (.int A4), .val (.int A5), .val (.int A6), .val (.int A7), .val (.int A8), .val (.int A9), .val (.ref b23), .unset, .unset] [(.int (f3 A6 (6 : Int32) lo hi u5)), (.int (6 : Int32)), (.ref b23)]))
  obtain ⟨T37, h37, X37, e37, W37, V37, st37⟩ := putI X36 hx hZ e36 V35 (j := (6 : Int32)) (x := (f3 A6 (6 : Int32) lo hi u5)) (i := 6) (by decide) (by decide) (by decide) (g := (mkF m 230 #[.val (.int u0), .val (.int u1), .val (.int u2), .val (.int u3), .val (.int u4), .val (.int u5), .val (.int lo), .val (.int hi), .val (.int u0), .val (.int A1), .val (.int A2), .val (.int A3), .val (.int A4), .val (.int A5), .val (.int A6), .val (.int A7), .val (.int A8), .val (.int A9), .val (.ref b23), .unset, .unset] [(.int (f3 A6 (6 : Int32) lo hi u5)), (.int (6 : Int32)), (.ref b23)])) rfl rfl (hb hby at_230)
  have Z37 : n0 ≤ h37.size := Nat.le_trans Z35 (Keep.of_wr W37).1
  have N37 := Fr.snoc X37 N36 g_b23
  refine Goes.of st37 ?_
  show Goes _ _ _ _ _ _ _ (T37.setTop (mkF m 231 #[.val (.int u0), .val (.int u1), .val (.int u2), .val (.int u3), .val (.int u4), .val (.int u5), .val (.int lo), .val (.int hi), .val (.int u0), .val (.int A1), .val (.int A2), .val (.int A3), .val (.int A4), .val (.int A5), .val (.int A6), .val (.int A7), .val (.int A8), .val (.int A9), .val (.ref b23), .unset, .unset] []))
  refine Goes.of (fun t k => XS.aload X37.here hx rfl (hb hby at_231) rfl rfl k) ?_
  show Goes _ _ _ _ _ _ _ (T37.setTop (mkF m 233 #[.val (.int u0), .val (.int u1), .val (.int u2), .val (.int u3), .val (.int u4), .val (.int u5), .val (.int lo), .val (.int hi), .val (.int u0), .val (.int A1), .val (.int A2), .val (.int A3), .val (.int A4), .val (.int A5), .val (.int A6), .val (.int A7), .val (.int A8), .val (.int A9), .val (.ref b23), .unset, .unset] [(.ref b23)]))
  refine Goes.of (fun t k => XS.bipush X37.here hx rfl (hb hby at_233) k) ?_
  show Goes _ _ _ _ _ _ _ (T37.setTop (mkF m 235 #[.val (.int u0), .val (.int u1), .val (.int u2), .val (.int u3), .val (.int u4), .val (.int u5), .val (.int lo), .val (.int hi), .val (.int u0), .val (.int A1), .val (.int A2), .val (.int A3), .val (.int A4), .val (.int A5), .val (.int A6), .val (.int A7), .val (.int A8), .val (.int A9), .val (.ref b23), .unset, .unset] [(.int (7 : Int32)), (.ref b23)]))
  refine Goes.of (fun t k => XS.iload X37.here hx rfl (hb hby at_235) rfl k) ?_
  show Goes _ _ _ _ _ _ _ (T37.setTop (mkF m 237 #[.val (.int u0), .val (.int u1), .val (.int u2), .val (.int u3), .val (.int u4), .val (.int u5), .val (.int lo), .val (.int hi), .val (.int u0), .val (.int A1), .val (.int A2), .val (.int A3), .val (.int A4), .val (.int A5), .val (.int A6), .val (.int A7), .val (.int A8), .val (.int A9), .val (.ref b23), .unset, .unset] [(.int A7), (.int (7 : Int32)), (.ref b23)]))
  refine Goes.of (fun t k => XS.bipush X37.here hx rfl (hb hby at_237) k) ?_
  show Goes _ _ _ _ _ _ _ (T37.setTop (mkF m 239 #[.val (.int u0), .val (.int u1), .val (.int u2), .val (.int u3), .val (.int u4), .val (.int u5), .val (.int lo), .val (.int hi), .val (.int u0), .val (.int A1), .val (.int A2), .val (.int A3), .val (.int A4), .val (.int A5), .val (.int A6), .val (.int A7), .val (.int A8), .val (.int A9), .val (.ref b23), .unset, .unset] [(.int (7 : Int32)), (.int A7), (.int (7 : Int32)), (.ref b23)]))
  refine Goes.of (fun t k => XS.iload X37.here hx rfl (hb hby at_239) rfl k) ?_
  show Goes _ _ _ _ _ _ _ (T37.setTop (mkF m 241 #[.val (.int u0), .val (.int u1), .val (.int u2), .val (.int u3), .val (.int u4), .val (.int u5), .val (.int lo), .val (.int hi), .val (.int u0), .val (.int A1), .val (.int A2), .val (.int A3), .val (.int A4), .val (.int A5), .val (.int A6), .val (.int A7), .val (.int A8), .val (.int A9), .val (.ref b23), .unset, .unset] [(.int lo), (.int (7 : Int32)), (.int A7), (.int (7 : Int32)), (.ref b23)]))
  refine Goes.of (fun t k => XS.iload X37.here hx rfl (hb hby at_241) rfl k) ?_
  show Goes _ _ _ _ _ _ _ (T37.setTop (mkF m 243 #[.val (.int u0), .val (.int u1), .val (.int u2), .val (.int u3), .val (.int u4), .val (.int u5), .val (.int lo), .val (.int hi), .val (.int u0), .val (.int A1), .val (.int A2), .val (.int A3), .val (.int A4), .val (.int A5), .val (.int A6), .val (.int A7), .val (.int A8), .val (.int A9), .val (.ref b23), .unset, .unset] [(.int hi), (.int lo), (.int (7 : Int32)), (.int A7), (.int (7 : Int32)), (.ref b23)]))
  refine Goes.of (fun t k => XS.iload X37.here hx rfl (hb hby at_243) rfl k) ?_
  show Goes _ _ _ _ _ _ _ (T37.setTop (mkF m 245 #[.val (.int u0), .val (.int u1), .val (.int u2), .val (.int u3), .val (.int u4), .val (.int u5), .val (.int lo), .val (.int hi), .val (.int u0), .val (.int A1), .val (.int A2), .val (.int A3), .val (.int A4), .val (.int A5), .val (.int A6), .val (.int A7), .val (.int A8), .val (.int A9), .val (.ref b23), .unset, .unset] [(.int u5), (.int hi), (.int lo), (.int (7 : Int32)), (.int A7), (.int (7 : Int32)), (.ref b23)]))
  obtain ⟨_, _, ⟨T38, L38, k38, n38⟩, -, X38, ⟨Lc38, hQ38, l38, y38, z38⟩, st38⟩ := Jvm.LawKit.callS X37 hx (y := (⟨"com/example/orderly_twig/orderlytwig/engine/AscendingSearchFirstAtLeastPinLaw", "pick", "(IIIII)I"⟩ : MethodName)) hown (mvT hZ (hw _ (List.mem_of_getElem? (i := 11) rfl))) (mvT hZ (hw _ (List.mem_of_getElem? (i := 12) rfl))) (mvT hZ (hw _ (List.mem_of_getElem? (i := 3) rfl))) (mvT hZ (hw _ (List.mem_of_getElem? (i := 13) rfl))) (by decide) (backOf (W := 2) (rm3 l Z a0 hw [] A7 (7 : Int32) lo hi u5  h37 n0 ) hZ (hw _ (List.mem_of_getElem? (i := 13) rfl)) (hw _ (List.mem_of_getElem? (i := 3) rfl)) (by decide) (by decide)) (g := (mkF m 245 #[.val (.int u0), .val (.int u1), .val (.int u2), .val (.int u3), .val (.int u4), .val (.int u5), .val (.int lo), .val (.int hi), .val (.int u0), .val (.int A1), .val (.int A2), .val (.int A3), .val (.int A4), .val (.int A5), .val (.int A6), .val (.int A7), .val (.int A8), .val (.int A9), .val (.ref b23), .unset, .unset] [(.int u5), (.int hi), (.int lo), (.int (7 : Int32)), (.int A7), (.int (7 : Int32)), (.ref b23)])) rfl (by rw [hml]; rfl) (argsL := [(.int A7), (.int (7 : Int32)), (.int lo), (.int hi), (.int u5)]) (rest := [(.int (7 : Int32)), (.ref b23)]) (lenOf pd_2 rfl) rfl (by show 2 * 0 + _ ≤ _; exact Nat.le_of_eq rfl) (hb hby at_245) (fun _ _ => ⟨rfl, e37, (by decide : 1 + 0 ≤ _), (by decide : 10 + 0 ≤ _)⟩)
  dsimp only [Pt.U, Pt.locs, Pt.cells, Pt.slots] at X38 l38 y38 z38 st38 hQ38
  replace l38 := l38.symm
  replace y38 := y38.symm
  replace z38 := z38.symm
  subst l38 y38 z38
  obtain ⟨rfl, N38q, e38⟩ := hQ38
  have N38 := Fr.app N37 N38q
  refine Goes.of st38 ?_
  show Goes _ _ _ _ _ _ _ (T38.setTop (mkF m 248 #[.val (.int u0), .val (.int u1), .val (.int u2), .val (.int u3), .val (.int u4), .val (.int u5), .val (.int lo), .val (.int hi), .val (.int u0), .val (.int A1), .val (.int A2), .val (.int A3), .val (.int A4), .val (.int A5), .val (.int A6), .val (.int A7), .val (.int A8), .val (.int A9), .val (.ref b23), .unset, .unset] [(.int (f3 A7 (7 : Int32) lo hi u5)), (.int (7 : Int32)), (.ref b23)]))
  obtain ⟨T39, h39, X39, e39, W39, V39, st39⟩ := putI X38 hx hZ e38 V37 (j := (7 : Int32)) (x := (f3 A7 (7 : Int32) lo hi u5)) (i := 7) (by decide) (by decide) (by decide) (g := (mkF m 248 #[.val (.int u0), .val (.int u1), .val (.int u2), .val (.int u3), .val (.int u4), .val (.int u5), .val (.int lo), .val (.int hi), .val (.int u0), .val (.int A1), .val (.int A2), .val (.int A3), .val (.int A4), .val (.int A5), .val (.int A6), .val (.int A7), .val (.int A8), .val (.int A9), .val (.ref b23), .unset, .unset] [(.int (f3 A7 (7 : Int32) lo hi u5)), (.int (7 : Int32)), (.ref b23)])) rfl rfl (hb hby at_248)
  have Z39 : n0 ≤ h39.size := Nat.le_trans Z37 (Keep.of_wr W39).1
  have N39 := Fr.snoc X39 N38 g_b23
  refine Goes.of st39 ?_
  show Goes _ _ _ _ _ _ _ (T39.setTop (mkF m 249 #[.val (.int u0), .val (.int u1), .val (.int u2), .val (.int u3), .val (.int u4), .val (.int u5), .val (.int lo), .val (.int hi), .val (.int u0), .val (.int A1), .val (.int A2), .val (.int A3), .val (.int A4), .val (.int A5), .val (.int A6), .val (.int A7), .val (.int A8), .val (.int A9), .val (.ref b23), .unset, .unset] []))
  refine Goes.of (fun t k => XS.aload X39.here hx rfl (hb hby at_249) rfl rfl k) ?_
  show Goes _ _ _ _ _ _ _ (T39.setTop (mkF m 251 #[.val (.int u0), .val (.int u1), .val (.int u2), .val (.int u3), .val (.int u4), .val (.int u5), .val (.int lo), .val (.int hi), .val (.int u0), .val (.int A1), .val (.int A2), .val (.int A3), .val (.int A4), .val (.int A5), .val (.int A6), .val (.int A7), .val (.int A8), .val (.int A9), .val (.ref b23), .unset, .unset] [(.ref b23)]))
  refine Goes.of (fun t k => XS.bipush X39.here hx rfl (hb hby at_251) k) ?_
  show Goes _ _ _ _ _ _ _ (T39.setTop (mkF m 253 #[.val (.int u0), .val (.int u1), .val (.int u2), .val (.int u3), .val (.int u4), .val (.int u5), .val (.int lo), .val (.int hi), .val (.int u0), .val (.int A1), .val (.int A2), .val (.int A3), .val (.int A4), .val (.int A5), .val (.int A6), .val (.int A7), .val (.int A8), .val (.int A9), .val (.ref b23), .unset, .unset] [(.int (8 : Int32)), (.ref b23)]))
  refine Goes.of (fun t k => XS.iload X39.here hx rfl (hb hby at_253) rfl k) ?_
  show Goes _ _ _ _ _ _ _ (T39.setTop (mkF m 255 #[.val (.int u0), .val (.int u1), .val (.int u2), .val (.int u3), .val (.int u4), .val (.int u5), .val (.int lo), .val (.int hi), .val (.int u0), .val (.int A1), .val (.int A2), .val (.int A3), .val (.int A4), .val (.int A5), .val (.int A6), .val (.int A7), .val (.int A8), .val (.int A9), .val (.ref b23), .unset, .unset] [(.int A8), (.int (8 : Int32)), (.ref b23)]))
  refine Goes.of (fun t k => XS.bipush X39.here hx rfl (hb hby at_255) k) ?_
  show Goes _ _ _ _ _ _ _ (T39.setTop (mkF m 257 #[.val (.int u0), .val (.int u1), .val (.int u2), .val (.int u3), .val (.int u4), .val (.int u5), .val (.int lo), .val (.int hi), .val (.int u0), .val (.int A1), .val (.int A2), .val (.int A3), .val (.int A4), .val (.int A5), .val (.int A6), .val (.int A7), .val (.int A8), .val (.int A9), .val (.ref b23), .unset, .unset] [(.int (8 : Int32)), (.int A8), (.int (8 : Int32)), (.ref b23)]))
  refine Goes.of (fun t k => XS.iload X39.here hx rfl (hb hby at_257) rfl k) ?_
  show Goes _ _ _ _ _ _ _ (T39.setTop (mkF m 259 #[.val (.int u0), .val (.int u1), .val (.int u2), .val (.int u3), .val (.int u4), .val (.int u5), .val (.int lo), .val (.int hi), .val (.int u0), .val (.int A1), .val (.int A2), .val (.int A3), .val (.int A4), .val (.int A5), .val (.int A6), .val (.int A7), .val (.int A8), .val (.int A9), .val (.ref b23), .unset, .unset] [(.int lo), (.int (8 : Int32)), (.int A8), (.int (8 : Int32)), (.ref b23)]))
  refine Goes.of (fun t k => XS.iload X39.here hx rfl (hb hby at_259) rfl k) ?_
  show Goes _ _ _ _ _ _ _ (T39.setTop (mkF m 261 #[.val (.int u0), .val (.int u1), .val (.int u2), .val (.int u3), .val (.int u4), .val (.int u5), .val (.int lo), .val (.int hi), .val (.int u0), .val (.int A1), .val (.int A2), .val (.int A3), .val (.int A4), .val (.int A5), .val (.int A6), .val (.int A7), .val (.int A8), .val (.int A9), .val (.ref b23), .unset, .unset] [(.int hi), (.int lo), (.int (8 : Int32)), (.int A8), (.int (8 : Int32)), (.ref b23)]))
  refine Goes.of (fun t k => XS.iload X39.here hx rfl (hb hby at_261) rfl k) ?_
  show Goes _ _ _ _ _ _ _ (T39.setTop (mkF m 263 #[.val (.int u0), .val (.int u1), .val (.int u2), .val (.int u3), .val (.int u4), .val (.int u5), .val (.int lo), .val (.int hi), .val (.int u0), .val (.int A1), .val (.int A2), .val (.int A3), .val (.int A4), .val (.int A5), .val (.int A6), .val (.int A7), .val (.int A8), .val (.int A9), .val (.ref b23), .unset, .unset] [(.int u5), (.int hi), (.int lo), (.int (8 : Int32)), (.int A8), (.int (8 : Int32)), (.ref b23)]))
  obtain ⟨_, _, ⟨T40, L40, k40, n40⟩, -, X40, ⟨Lc40, hQ40, l40, y40, z40⟩, st40⟩ := Jvm.LawKit.callS X39 hx (y := (⟨"com/example/orderly_twig/orderlytwig/engine/AscendingSearchFirstAtLeastPinLaw", "pick", "(IIIII)I"⟩ : MethodName)) hown (mvT hZ (hw _ (List.mem_of_getElem? (i := 11) rfl))) (mvT hZ (hw _ (List.mem_of_getElem? (i := 12) rfl))) (mvT hZ (hw _ (List.mem_of_getElem? (i := 3) rfl))) (mvT hZ (hw _ (List.mem_of_getElem? (i := 13) rfl))) (by decide) (backOf (W := 2) (rm3 l Z a0 hw [] A8 (8 : Int32) lo hi u5  h39 n0 ) hZ (hw _ (List.mem_of_getElem? (i := 13) rfl)) (hw _ (List.mem_of_getElem? (i := 3) rfl)) (by decide) (by decide)) (g := (mkF m 263 #[.val (.int u0), .val (.int u1), .val (.int u2), .val (.int u3), .val (.int u4), .val (.int u5), .val (.int lo), .val (.int hi), .val (.int u0), .val (.int A1), .val (.int A2), .val (.int A3), .val (.int A4), .val (.int A5), .val (.int A6), .val (.int A7), .val (.int A8), .val (.int A9), .val (.ref b23), .unset, .unset] [(.int u5), (.int hi), (.int lo), (.int (8 : Int32)), (.int A8), (.int (8 : Int32)), (.ref b23)])) rfl (by rw [hml]; rfl) (argsL := [(.int A8), (.int (8 : Int32)), (.int lo), (.int hi), (.int u5)]) (rest := [(.int (8 : Int32)), (.ref b23)]) (lenOf pd_2 rfl) rfl (by show 2 * 0 + _ ≤ _; exact Nat.le_of_eq rfl) (hb hby at_263) (fun _ _ => ⟨rfl, e39, (by decide : 1 + 0 ≤ _), (by decide : 10 + 0 ≤ _)⟩)
  dsimp only [Pt.U, Pt.locs, Pt.cells, Pt.slots] at X40 l40 y40 z40 st40 hQ40
  replace l40 := l40.symm
  replace y40 := y40.symm
  replace z40 := z40.symm
  subst l40 y40 z40
  obtain ⟨rfl, N40q, e40⟩ := hQ40
  have N40 := Fr.app N39 N40q
  refine Goes.of st40 ?_
  show Goes _ _ _ _ _ _ _ (T40.setTop (mkF m 266 #[.val (.int u0), .val (.int u1), .val (.int u2), .val (.int u3), .val (.int u4), .val (.int u5), .val (.int lo), .val (.int hi), .val (.int u0), .val (.int A1), .val (.int A2), .val (.int A3), .val (.int A4), .val (.int A5), .val (.int A6), .val (.int A7), .val (.int A8), .val (.int A9), .val (.ref b23), .unset, .unset] [(.int (f3 A8 (8 : Int32) lo hi u5)), (.int (8 : Int32)), (.ref b23)]))
  obtain ⟨T41, h41, X41, e41, W41, V41, st41⟩ := putI X40 hx hZ e40 V39 (j := (8 : Int32)) (x := (f3 A8 (8 : Int32) lo hi u5)) (i := 8) (by decide) (by decide) (by decide) (g := (mkF m 266 #[.val (.int u0), .val (.int u1), .val (.int u2), .val (.int u3), .val (.int u4), .val (.int u5), .val (.int lo), .val (.int hi), .val (.int u0), .val (.int A1), .val (.int A2), .val (.int A3), .val (.int A4), .val (.int A5), .val (.int A6), .val (.int A7), .val (.int A8), .val (.int A9), .val (.ref b23), .unset, .unset] [(.int (f3 A8 (8 : Int32) lo hi u5)), (.int (8 : Int32)), (.ref b23)])) rfl rfl (hb hby at_266)
  have Z41 : n0 ≤ h41.size := Nat.le_trans Z39 (Keep.of_wr W41).1
  have N41 := Fr.snoc X41 N40 g_b23
  refine Goes.of st41 ?_
  show Goes _ _ _ _ _ _ _ (T41.setTop (mkF m 267 #[.val (.int u0), .val (.int u1), .val (.int u2), .val (.int u3), .val (.int u4), .val (.int u5), .val (.int lo), .val (.int hi), .val (.int u0), .val (.int A1), .val (.int A2), .val (.int A3), .val (.int A4), .val (.int A5), .val (.int A6), .val (.int A7), .val (.int A8), .val (.int A9), .val (.ref b23), .unset, .unset] []))
  refine Goes.of (fun t k => XS.aload X41.here hx rfl (hb hby at_267) rfl rfl k) ?_
  show Goes _ _ _ _ _ _ _ (T41.setTop (mkF m 269 #[.val (.int u0), .val (.int u1), .val (.int u2), .val (.int u3), .val (.int u4), .val (.int u5), .val (.int lo), .val (.int hi), .val (.int u0), .val (.int A1), .val (.int A2), .val (.int A3), .val (.int A4), .val (.int A5), .val (.int A6), .val (.int A7), .val (.int A8), .val (.int A9), .val (.ref b23), .unset, .unset] [(.ref b23)]))
  refine Goes.of (fun t k => XS.bipush X41.here hx rfl (hb hby at_269) k) ?_
  show Goes _ _ _ _ _ _ _ (T41.setTop (mkF m 271 #[.val (.int u0), .val (.int u1), .val (.int u2), .val (.int u3), .val (.int u4), .val (.int u5), .val (.int lo), .val (.int hi), .val (.int u0), .val (.int A1), .val (.int A2), .val (.int A3), .val (.int A4), .val (.int A5), .val (.int A6), .val (.int A7), .val (.int A8), .val (.int A9), .val (.ref b23), .unset, .unset] [(.int (9 : Int32)), (.ref b23)]))
  refine Goes.of (fun t k => XS.iload X41.here hx rfl (hb hby at_271) rfl k) ?_
  show Goes _ _ _ _ _ _ _ (T41.setTop (mkF m 273 #[.val (.int u0), .val (.int u1), .val (.int u2), .val (.int u3), .val (.int u4), .val (.int u5), .val (.int lo), .val (.int hi), .val (.int u0), .val (.int A1), .val (.int A2), .val (.int A3), .val (.int A4), .val (.int A5), .val (.int A6), .val (.int A7), .val (.int A8), .val (.int A9), .val (.ref b23), .unset, .unset] [(.int A9), (.int (9 : Int32)), (.ref b23)]))
  refine Goes.of (fun t k => XS.bipush X41.here hx rfl (hb hby at_273) k) ?_
  show Goes _ _ _ _ _ _ _ (T41.setTop (mkF m 275 #[.val (.int u0), .val (.int u1), .val (.int u2), .val (.int u3), .val (.int u4), .val (.int u5), .val (.int lo), .val (.int hi), .val (.int u0), .val (.int A1), .val (.int A2), .val (.int A3), .val (.int A4), .val (.int A5), .val (.int A6), .val (.int A7), .val (.int A8), .val (.int A9), .val (.ref b23), .unset, .unset] [(.int (9 : Int32)), (.int A9), (.int (9 : Int32)), (.ref b23)]))
  refine Goes.of (fun t k => XS.iload X41.here hx rfl (hb hby at_275) rfl k) ?_
  show Goes _ _ _ _ _ _ _ (T41.setTop (mkF m 277 #[.val (.int u0), .val (.int u1), .val (.int u2), .val (.int u3), .val (.int u4), .val (.int u5), .val (.int lo), .val (.int hi), .val (.int u0), .val (.int A1), .val (.int A2), .val (.int A3), .val (.int A4), .val (.int A5), .val (.int A6), .val (.int A7), .val (.int A8), .val (.int A9), .val (.ref b23), .unset, .unset] [(.int lo), (.int (9 : Int32)), (.int A9), (.int (9 : Int32)), (.ref b23)]))
  refine Goes.of (fun t k => XS.iload X41.here hx rfl (hb hby at_277) rfl k) ?_
  show Goes _ _ _ _ _ _ _ (T41.setTop (mkF m 279 #[.val (.int u0), .val (.int u1), .val (.int u2), .val (.int u3), .val (.int u4), .val (.int u5), .val (.int lo), .val (.int hi), .val (.int u0), .val (.int A1), .val (.int A2), .val (.int A3), .val (.int A4), .val (.int A5), .val (.int A6), .val (.int A7), .val (.int A8), .val (.int A9), .val (.ref b23), .unset, .unset] [(.int hi), (.int lo), (.int (9 : Int32)), (.int A9), (.int (9 : Int32)), (.ref b23)]))
  refine Goes.of (fun t k => XS.iload X41.here hx rfl (hb hby at_279) rfl k) ?_
  show Goes _ _ _ _ _ _ _ (T41.setTop (mkF m 281 #[.val (.int u0), .val (.int u1), .val (.int u2), .val (.int u3), .val (.int u4), .val (.int u5), .val (.int lo), .val (.int hi), .val (.int u0), .val (.int A1), .val (.int A2), .val (.int A3), .val (.int A4), .val (.int A5), .val (.int A6), .val (.int A7), .val (.int A8), .val (.int A9), .val (.ref b23), .unset, .unset] [(.int u5), (.int hi), (.int lo), (.int (9 : Int32)), (.int A9), (.int (9 : Int32)), (.ref b23)]))
  obtain ⟨_, _, ⟨T42, L42, k42, n42⟩, -, X42, ⟨Lc42, hQ42, l42, y42, z42⟩, st42⟩ := Jvm.LawKit.callS X41 hx (y := (⟨"com/example/orderly_twig/orderlytwig/engine/AscendingSearchFirstAtLeastPinLaw", "pick", "(IIIII)I"⟩ : MethodName)) hown (mvT hZ (hw _ (List.mem_of_getElem? (i := 11) rfl))) (mvT hZ (hw _ (List.mem_of_getElem? (i := 12) rfl))) (mvT hZ (hw _ (List.mem_of_getElem? (i := 3) rfl))) (mvT hZ (hw _ (List.mem_of_getElem? (i := 13) rfl))) (by decide) (backOf (W := 2) (rm3 l Z a0 hw [] A9 (9 : Int32) lo hi u5  h41 n0 ) hZ (hw _ (List.mem_of_getElem? (i := 13) rfl)) (hw _ (List.mem_of_getElem? (i := 3) rfl)) (by decide) (by decide)) (g := (mkF m 281 #[.val (.int u0), .val (.int u1), .val (.int u2), .val (.int u3), .val (.int u4), .val (.int u5), .val (.int lo), .val (.int hi), .val (.int u0), .val (.int A1), .val (.int A2), .val (.int A3), .val (.int A4), .val (.int A5), .val (.int A6), .val (.int A7), .val (.int A8), .val (.int A9), .val (.ref b23), .unset, .unset] [(.int u5), (.int hi), (.int lo), (.int (9 : Int32)), (.int A9), (.int (9 : Int32)), (.ref b23)])) rfl (by rw [hml]; rfl) (argsL := [(.int A9), (.int (9 : Int32)), (.int lo), (.int hi), (.int u5)]) (rest := [(.int (9 : Int32)), (.ref b23)]) (lenOf pd_2 rfl) rfl (by show 2 * 0 + _ ≤ _; exact Nat.le_of_eq rfl) (hb hby at_281) (fun _ _ => ⟨rfl, e41, (by decide : 1 + 0 ≤ _), (by decide : 10 + 0 ≤ _)⟩)
  dsimp only [Pt.U, Pt.locs, Pt.cells, Pt.slots] at X42 l42 y42 z42 st42 hQ42
  replace l42 := l42.symm
  replace y42 := y42.symm
  replace z42 := z42.symm
  subst l42 y42 z42
  obtain ⟨rfl, N42q, e42⟩ := hQ42
  have N42 := Fr.app N41 N42q
  refine Goes.of st42 ?_
  show Goes _ _ _ _ _ _ _ (T42.setTop (mkF m 284 #[.val (.int u0), .val (.int u1), .val (.int u2), .val (.int u3), .val (.int u4), .val (.int u5), .val (.int lo), .val (.int hi), .val (.int u0), .val (.int A1), .val (.int A2), .val (.int A3), .val (.int A4), .val (.int A5), .val (.int A6), .val (.int A7), .val (.int A8), .val (.int A9), .val (.ref b23), .unset, .unset] [(.int (f3 A9 (9 : Int32) lo hi u5)), (.int (9 : Int32)), (.ref b23)]))
  obtain ⟨T43, h43, X43, e43, W43, V43, st43⟩ := putI X42 hx hZ e42 V41 (j := (9 : Int32)) (x := (f3 A9 (9 : Int32) lo hi u5)) (i := 9) (by decide) (by decide) (by decide) (g := (mkF m 284 #[.val (.int u0), .val (.int u1), .val (.int u2), .val (.int u3), .val (.int u4), .val (.int u5), .val (.int lo), .val (.int hi), .val (.int u0), .val (.int A1), .val (.int A2), .val (.int A3), .val (.int A4), .val (.int A5), .val (.int A6), .val (.int A7), .val (.int A8), .val (.int A9), .val (.ref b23), .unset, .unset] [(.int (f3 A9 (9 : Int32) lo hi u5)), (.int (9 : Int32)), (.ref b23)])) rfl rfl (hb hby at_284)
  have Z43 : n0 ≤ h43.size := Nat.le_trans Z41 (Keep.of_wr W43).1
  have N43 := Fr.snoc X43 N42 g_b23
  refine Goes.of st43 ?_
  show Goes _ _ _ _ _ _ _ (T43.setTop (mkF m 285 #[.val (.int u0), .val (.int u1), .val (.int u2), .val (.int u3), .val (.int u4), .val (.int u5), .val (.int lo), .val (.int hi), .val (.int u0), .val (.int A1), .val (.int A2), .val (.int A3), .val (.int A4), .val (.int A5), .val (.int A6), .val (.int A7), .val (.int A8), .val (.int A9), .val (.ref b23), .unset, .unset] []))
  refine Goes.of (fun t k => XS.iload X43.here hx rfl (hb hby at_285) rfl k) ?_
  show Goes _ _ _ _ _ _ _ (T43.setTop (mkF m 287 #[.val (.int u0), .val (.int u1), .val (.int u2), .val (.int u3), .val (.int u4), .val (.int u5), .val (.int lo), .val (.int hi), .val (.int u0), .val (.int A1), .val (.int A2), .val (.int A3), .val (.int A4), .val (.int A5), .val (.int A6), .val (.int A7), .val (.int A8), .val (.int A9), .val (.ref b23), .unset, .unset] [(.int lo)]))
  refine Goes.of (fun t k => XS.iload X43.here hx rfl (hb hby at_287) rfl k) ?_
  show Goes _ _ _ _ _ _ _ (T43.setTop (mkF m 289 #[.val (.int u0), .val (.int u1), .val (.int u2), .val (.int u3), .val (.int u4), .val (.int u5), .val (.int lo), .val (.int hi), .val (.int u0), .val (.int A1), .val (.int A2), .val (.int A3), .val (.int A4), .val (.int A5), .val (.int A6), .val (.int A7), .val (.int A8), .val (.int A9), .val (.ref b23), .unset, .unset] [(.int u0), (.int lo)]))
  refine Goes.of (fun t k => XS.iconst X43.here hx rfl (hb hby at_289) k) ?_
  show Goes _ _ _ _ _ _ _ (T43.setTop (mkF m 290 #[.val (.int u0), .val (.int u1), .val (.int u2), .val (.int u3), .val (.int u4), .val (.int u5), .val (.int lo), .val (.int hi), .val (.int u0), .val (.int A1), .val (.int A2), .val (.int A3), .val (.int A4), .val (.int A5), .val (.int A6), .val (.int A7), .val (.int A8), .val (.int A9), .val (.ref b23), .unset, .unset] [(.int (0 : Int32)), (.int u0), (.int lo)]))
  refine Goes.of (fun t k => XS.iload X43.here hx rfl (hb hby at_290) rfl k) ?_
  show Goes _ _ _ _ _ _ _ (T43.setTop (mkF m 292 #[.val (.int u0), .val (.int u1), .val (.int u2), .val (.int u3), .val (.int u4), .val (.int u5), .val (.int lo), .val (.int hi), .val (.int u0), .val (.int A1), .val (.int A2), .val (.int A3), .val (.int A4), .val (.int A5), .val (.int A6), .val (.int A7), .val (.int A8), .val (.int A9), .val (.ref b23), .unset, .unset] [(.int lo), (.int (0 : Int32)), (.int u0), (.int lo)]))
  refine Goes.of (fun t k => XS.iload X43.here hx rfl (hb hby at_292) rfl k) ?_
  show Goes _ _ _ _ _ _ _ (T43.setTop (mkF m 294 #[.val (.int u0), .val (.int u1), .val (.int u2), .val (.int u3), .val (.int u4), .val (.int u5), .val (.int lo), .val (.int hi), .val (.int u0), .val (.int A1), .val (.int A2), .val (.int A3), .val (.int A4), .val (.int A5), .val (.int A6), .val (.int A7), .val (.int A8), .val (.int A9), .val (.ref b23), .unset, .unset] [(.int hi), (.int lo), (.int (0 : Int32)), (.int u0), (.int lo)]))
  refine Goes.of (fun t k => XS.iload X43.here hx rfl (hb hby at_294) rfl k) ?_
  show Goes _ _ _ _ _ _ _ (T43.setTop (mkF m 296 #[.val (.int u0), .val (.int u1), .val (.int u2), .val (.int u3), .val (.int u4), .val (.int u5), .val (.int lo), .val (.int hi), .val (.int u0), .val (.int A1), .val (.int A2), .val (.int A3), .val (.int A4), .val (.int A5), .val (.int A6), .val (.int A7), .val (.int A8), .val (.int A9), .val (.ref b23), .unset, .unset] [(.int u4), (.int hi), (.int lo), (.int (0 : Int32)), (.int u0), (.int lo)]))
  obtain ⟨_, _, ⟨T44, L44, k44, n44⟩, -, X44, ⟨Lc44, hQ44, l44, y44, z44⟩, st44⟩ := Jvm.LawKit.callS X43 hx (y := (⟨"com/example/orderly_twig/orderlytwig/engine/AscendingSearchFirstAtLeastPinLaw", "lt", "(IIIII)I"⟩ : MethodName)) hown (mvT hZ (hw _ (List.mem_of_getElem? (i := 14) rfl))) (mvT hZ (hw _ (List.mem_of_getElem? (i := 15) rfl))) (mvT hZ (hw _ (List.mem_of_getElem? (i := 3) rfl))) (mvT hZ (hw _ (List.mem_of_getElem? (i := 16) rfl))) (by decide) (backOf (W := 1) (rm4 l Z a0 hw [] u0 (0 : Int32) lo hi u4  h43 n0 ) hZ (hw _ (List.mem_of_getElem? (i := 16) rfl)) (hw _ (List.mem_of_getElem? (i := 3) rfl)) (by decide) (by decide)) (g := (mkF m 296 #[.val (.int u0), .val (.int u1), .val (.int u2), .val (.int u3), .val (.int u4), .val (.int u5), .val (.int lo), .val (.int hi), .val (.int u0), .val (.int A1), .val (.int A2), .val (.int A3), .val (.int A4), .val (.int A5), .val (.int A6), .val (.int A7), .val (.int A8), .val (.int A9), .val (.ref b23), .unset, .unset] [(.int u4), (.int hi), (.int lo), (.int (0 : Int32)), (.int u0), (.int lo)])) rfl (by rw [hml]; rfl) (argsL := [(.int u0), (.int (0 : Int32)), (.int lo), (.int hi), (.int u4)]) (rest := [(.int lo)]) (lenOf pd_2 rfl) rfl (by show 2 * 0 + _ ≤ _; exact Nat.le_of_eq rfl) (hb hby at_296) (fun _ _ => ⟨rfl, e43, (by decide : 1 + 0 ≤ _), (by decide : 10 + 0 ≤ _)⟩)
  dsimp only [Pt.U, Pt.locs, Pt.cells, Pt.slots] at X44 l44 y44 z44 st44 hQ44
  replace l44 := l44.symm
  replace y44 := y44.symm
  replace z44 := z44.symm
  subst l44 y44 z44
  obtain ⟨rfl, N44q, e44⟩ := hQ44
  have N44 := Fr.app N43 N44q
  refine Goes.of st44 ?_
  show Goes _ _ _ _ _ _ _ (T44.setTop (mkF m 299 #[.val (.int u0), .val (.int u1), .val (.int u2), .val (.int u3), .val (.int u4), .val (.int u5), .val (.int lo), .val (.int hi), .val (.int u0), .val (.int A1), .val (.int A2), .val (.int A3), .val (.int A4), .val (.int A5), .val (.int A6), .val (.int A7), .val (.int A8), .val (.int A9), .val (.ref b23), .unset, .unset] [(.int (f4 u0 (0 : Int32) lo hi u4)), (.int lo)]))
  refine Goes.of (fun t k => XS.iadd X44.here hx rfl (hb hby at_299) rfl k) ?_
  show Goes _ _ _ _ _ _ _ (T44.setTop (mkF m 300 #[.val (.int u0), .val (.int u1), .val (.int u2), .val (.int u3), .val (.int u4), .val (.int u5), .val (.int lo), .val (.int hi), .val (.int u0), .val (.int A1), .val (.int A2), .val (.int A3), .val (.int A4), .val (.int A5), .val (.int A6), .val (.int A7), .val (.int A8), .val (.int A9), .val (.ref b23), .unset, .unset] [(.int (lo + (f4 u0 (0 : Int32) lo hi u4)))]))
  refine Goes.of (fun t k => XS.iload X44.here hx rfl (hb hby at_300) rfl k) ?_
  show Goes _ _ _ _ _ _ _ (T44.setTop (mkF m 302 #[.val (.int u0), .val (.int u1), .val (.int u2), .val (.int u3), .val (.int u4), .val (.int u5), .val (.int lo), .val (.int hi), .val (.int u0), .val (.int A1), .val (.int A2), .val (.int A3), .val (.int A4), .val (.int A5), .val (.int A6), .val (.int A7), .val (.int A8), .val (.int A9), .val (.ref b23), .unset, .unset] [(.int A1), (.int (lo + (f4 u0 (0 : Int32) lo hi u4)))]))
  refine Goes.of (fun t k => XS.iconst X44.here hx rfl (hb hby at_302) k) ?_
  show Goes _ _ _ _ _ _ _ (T44.setTop (mkF m 303 #[.val (.int u0), .val (.int u1), .val (.int u2), .val (.int u3), .val (.int u4), .val (.int u5), .val (.int lo), .val (.int hi), .val (.int u0), .val (.int A1), .val (.int A2), .val (.int A3), .val (.int A4), .val (.int A5), .val (.int A6), .val (.int A7), .val (.int A8), .val (.int A9), .val (.ref b23), .unset, .unset] [(.int (1 : Int32)), (.int A1), (.int (lo + (f4 u0 (0 : Int32) lo hi u4)))]))
  refine Goes.of (fun t k => XS.iload X44.here hx rfl (hb hby at_303) rfl k) ?_
  show Goes _ _ _ _ _ _ _ (T44.setTop (mkF m 305 #[.val (.int u0), .val (.int u1), .val (.int u2), .val (.int u3), .val (.int u4), .val (.int u5), .val (.int lo), .val (.int hi), .val (.int u0), .val (.int A1), .val (.int A2), .val (.int A3), .val (.int A4), .val (.int A5), .val (.int A6), .val (.int A7), .val (.int A8), .val (.int A9), .val (.ref b23), .unset, .unset] [(.int lo), (.int (1 : Int32)), (.int A1), (.int (lo + (f4 u0 (0 : Int32) lo hi u4)))]))
  refine Goes.of (fun t k => XS.iload X44.here hx rfl (hb hby at_305) rfl k) ?_
  show Goes _ _ _ _ _ _ _ (T44.setTop (mkF m 307 #[.val (.int u0), .val (.int u1), .val (.int u2), .val (.int u3), .val (.int u4), .val (.int u5), .val (.int lo), .val (.int hi), .val (.int u0), .val (.int A1), .val (.int A2), .val (.int A3), .val (.int A4), .val (.int A5), .val (.int A6), .val (.int A7), .val (.int A8), .val (.int A9), .val (.ref b23), .unset, .unset] [(.int hi), (.int lo), (.int (1 : Int32)), (.int A1), (.int (lo + (f4 u0 (0 : Int32) lo hi u4)))]))
  refine Goes.of (fun t k => XS.iload X44.here hx rfl (hb hby at_307) rfl k) ?_
  show Goes _ _ _ _ _ _ _ (T44.setTop (mkF m 309 #[.val (.int u0), .val (.int u1), .val (.int u2), .val (.int u3), .val (.int u4), .val (.int u5), .val (.int lo), .val (.int hi), .val (.int u0), .val (.int A1), .val (.int A2), .val (.int A3), .val (.int A4), .val (.int A5), .val (.int A6), .val (.int A7), .val (.int A8), .val (.int A9), .val (.ref b23), .unset, .unset] [(.int u4), (.int hi), (.int lo), (.int (1 : Int32)), (.int A1), (.int (lo + (f4 u0 (0 : Int32) lo hi u4)))]))
  obtain ⟨_, _, ⟨T45, L45, k45, n45⟩, -, X45, ⟨Lc45, hQ45, l45, y45, z45⟩, st45⟩ := Jvm.LawKit.callS X44 hx (y := (⟨"com/example/orderly_twig/orderlytwig/engine/AscendingSearchFirstAtLeastPinLaw", "lt", "(IIIII)I"⟩ : MethodName)) hown (mvT hZ (hw _ (List.mem_of_getElem? (i := 14) rfl))) (mvT hZ (hw _ (List.mem_of_getElem? (i := 15) rfl))) (mvT hZ (hw _ (List.mem_of_getElem? (i := 3) rfl))) (mvT hZ (hw _ (List.mem_of_getElem? (i := 16) rfl))) (by decide) (backOf (W := 1) (rm4 l Z a0 hw [] A1 (1 : Int32) lo hi u4  h43 n0 ) hZ (hw _ (List.mem_of_getElem? (i := 16) rfl)) (hw _ (List.mem_of_getElem? (i := 3) rfl)) (by decide) (by decide)) (g := (mkF m 309 #[.val (.int u0), .val (.int u1), .val (.int u2), .val (.int u3), .val (.int u4), .val (.int u5), .val (.int lo), .val (.int hi), .val (.int u0), .val (.int A1), .val (.int A2), .val (.int A3), .val (.int A4), .val (.int A5), .val (.int A6), .val (.int A7), .val (.int A8), .val (.int A9), .val (.ref b23), .unset, .unset] [(.int u4), (.int hi), (.int lo), (.int (1 : Int32)), (.int A1), (.int (lo + (f4 u0 (0 : Int32) lo hi u4)))])) rfl (by rw [hml]; rfl) (argsL := [(.int A1), (.int (1 : Int32)), (.int lo), (.int hi), (.int u4)]) (rest := [(.int (lo + (f4 u0 (0 : Int32) lo hi u4)))]) (lenOf pd_2 rfl) rfl (by show 2 * 0 + _ ≤ _; exact Nat.le_of_eq rfl) (hb hby at_309) (fun _ _ => ⟨rfl, e44, (by decide : 1 + 0 ≤ _), (by decide : 10 + 0 ≤ _)⟩)
  dsimp only [Pt.U, Pt.locs, Pt.cells, Pt.slots] at X45 l45 y45 z45 st45 hQ45
  replace l45 := l45.symm
  replace y45 := y45.symm
  replace z45 := z45.symm
  subst l45 y45 z45
  obtain ⟨rfl, N45q, e45⟩ := hQ45
  have N45 := Fr.app N44 N45q
  refine Goes.of st45 ?_
  show Goes _ _ _ _ _ _ _ (T45.setTop (mkF m 312 #[.val (.int u0), .val (.int u1), .val (.int u2), .val (.int u3), .val (.int u4), .val (.int u5), .val (.int lo), .val (.int hi), .val (.int u0), .val (.int A1), .val (.int A2), .val (.int A3), .val (.int A4), .val (.int A5), .val (.int A6), .val (.int A7), .val (.int A8), .val (.int A9), .val (.ref b23), .unset, .unset] [(.int (f4 A1 (1 : Int32) lo hi u4)), (.int (lo + (f4 u0 (0 : Int32) lo hi u4)))]))
  refine Goes.of (fun t k => XS.iadd X45.here hx rfl (hb hby at_312) rfl k) ?_
  show Goes _ _ _ _ _ _ _ (T45.setTop (mkF m 313 #[.val (.int u0), .val (.int u1), .val (.int u2), .val (.int u3), .val (.int u4), .val (.int u5), .val (.int lo), .val (.int hi), .val (.int u0), .val (.int A1), .val (.int A2), .val (.int A3), .val (.int A4), .val (.int A5), .val (.int A6), .val (.int A7), .val (.int A8), .val (.int A9), .val (.ref b23), .unset, .unset] [(.int ((lo + (f4 u0 (0 : Int32) lo hi u4)) + (f4 A1 (1 : Int32) lo hi u4)))]))
  refine Goes.of (fun t k => XS.iload X45.here hx rfl (hb hby at_313) rfl k) ?_
  show Goes _ _ _ _ _ _ _ (T45.setTop (mkF m 315 #[.val (.int u0), .val (.int u1), .val (.int u2), .val (.int u3), .val (.int u4), .val (.int u5), .val (.int lo), .val (.int hi), .val (.int u0), .val (.int A1), .val (.int A2), .val (.int A3), .val (.int A4), .val (.int A5), .val (.int A6), .val (.int A7), .val (.int A8), .val (.int A9), .val (.ref b23), .unset, .unset] [(.int A2), (.int ((lo + (f4 u0 (0 : Int32) lo hi u4)) + (f4 A1 (1 : Int32) lo hi u4)))]))
  refine Goes.of (fun t k => XS.iconst X45.here hx rfl (hb hby at_315) k) ?_
  show Goes _ _ _ _ _ _ _ (T45.setTop (mkF m 316 #[.val (.int u0), .val (.int u1), .val (.int u2), .val (.int u3), .val (.int u4), .val (.int u5), .val (.int lo), .val (.int hi), .val (.int u0), .val (.int A1), .val (.int A2), .val (.int A3), .val (.int A4), .val (.int A5), .val (.int A6), .val (.int A7), .val (.int A8), .val (.int A9), .val (.ref b23), .unset, .unset] [(.int (2 : Int32)), (.int A2), (.int ((lo + (f4 u0 (0 : Int32) lo hi u4)) + (f4 A1 (1 : Int32) lo hi u4)))]))
  refine Goes.of (fun t k => XS.iload X45.here hx rfl (hb hby at_316) rfl k) ?_
  show Goes _ _ _ _ _ _ _ (T45.setTop (mkF m 318 #[.val (.int u0), .val (.int u1), .val (.int u2), .val (.int u3), .val (.int u4), .val (.int u5), .val (.int lo), .val (.int hi), .val (.int u0), .val (.int A1), .val (.int A2), .val (.int A3), .val (.int A4), .val (.int A5), .val (.int A6), .val (.int A7), .val (.int A8), .val (.int A9), .val (.ref b23), .unset, .unset] [(.int lo), (.int (2 : Int32)), (.int A2), (.int ((lo + (f4 u0 (0 : Int32) lo hi u4)) + (f4 A1 (1 : Int32) lo hi u4)))]))
  refine Goes.of (fun t k => XS.iload X45.here hx rfl (hb hby at_318) rfl k) ?_
  show Goes _ _ _ _ _ _ _ (T45.setTop (mkF m 320 #[.val (.int u0), .val (.int u1), .val (.int u2), .val (.int u3), .val (.int u4), .val (.int u5), .val (.int lo), .val (.int hi), .val (.int u0), .val (.int A1), .val (.int A2), .val (.int A3), .val (.int A4), .val (.int A5), .val (.int A6), .val (.int A7), .val (.int A8), .val (.int A9), .val (.ref b23), .unset, .unset] [(.int hi), (.int lo), (.int (2 : Int32)), (.int A2), (.int ((lo + (f4 u0 (0 : Int32) lo hi u4)) + (f4 A1 (1 : Int32) lo hi u4)))]))
  refine Goes.of (fun t k => XS.iload X45.here hx rfl (hb hby at_320) rfl k) ?_
  show Goes _ _ _ _ _ _ _ (T45.setTop (mkF m 322 #[.val (.int u0), .val (.int u1), .val (.int u2), .val (.int u3), .val (.int u4), .val (.int u5), .val (.int lo), .val (.int hi), .val (.int u0), .val (.int A1), .val (.int A2), .val (.int A3), .val (.int A4), .val (.int A5), .val (.int A6), .val (.int A7), .val (.int A8), .val (.int A9), .val (.ref b23), .unset, .unset] [(.int u4), (.int hi), (.int lo), (.int (2 : Int32)), (.int A2), (.int ((lo + (f4 u0 (0 : Int32) lo hi u4)) + (f4 A1 (1 : Int32) lo hi u4)))]))
  obtain ⟨_, _, ⟨T46, L46, k46, n46⟩, -, X46, ⟨Lc46, hQ46, l46, y46, z46⟩, st46⟩ := Jvm.LawKit.callS X45 hx (y := (⟨"com/example/orderly_twig/orderlytwig/engine/AscendingSearchFirstAtLeastPinLaw", "lt", "(IIIII)I"⟩ : MethodName)) hown (mvT hZ (hw _ (List.mem_of_getElem? (i := 14) rfl))) (mvT hZ (hw _ (List.mem_of_getElem? (i := 15) rfl))) (mvT hZ (hw _ (List.mem_of_getElem? (i := 3) rfl))) (mvT hZ (hw _ (List.mem_of_getElem? (i := 16) rfl))) (by decide) (backOf (W := 1) (rm4 l Z a0 hw [] A2 (2 : Int32) lo hi u4  h43 n0 ) hZ (hw _ (List.mem_of_getElem? (i := 16) rfl)) (hw _ (List.mem_of_getElem? (i := 3) rfl)) (by decide) (by decide)) (g := (mkF m 322 #[.val (.int u0), .val (.int u1), .val (.int u2), .val (.int u3), .val (.int u4), .val (.int u5), .val (.int lo), .val (.int hi), .val (.int u0), .val (.int A1), .val (.int A2), .val (.int A3), .val (.int A4), .val (.int A5), .val (.int A6), .val (.int A7), .val (.int A8), .val (.int A9), .val (.ref b23), .unset, .unset] [(.int u4), (.int hi), (.int lo), (.int (2 : Int32)), (.int A2), (.int ((lo + (f4 u0 (0 : Int32) lo hi u4)) + (f4 A1 (1 : Int32) lo hi u4)))])) rfl (by rw [hml]; rfl) (argsL := [(.int A2), (.int (2 : Int32)), (.int lo), (.int hi), (.int u4)]) (rest := [(.int ((lo + (f4 u0 (0 : Int32) lo hi u4)) + (f4 A1 (1 : Int32) lo hi u4)))]) (lenOf pd_2 rfl) rfl (by show 2 * 0 + _ ≤ _; exact Nat.le_of_eq rfl) (hb hby at_322) (fun _ _ => ⟨rfl, e45, (by decide : 1 + 0 ≤ _), (by decide : 10 + 0 ≤ _)⟩)
  dsimp only [Pt.U, Pt.locs, Pt.cells, Pt.slots] at X46 l46 y46 z46 st46 hQ46
  replace l46 := l46.symm
  replace y46 := y46.symm
  replace z46 := z46.symm
  subst l46 y46 z46
  obtain ⟨rfl, N46q, e46⟩ := hQ46
  have N46 := Fr.app N45 N46q
  refine Goes.of st46 ?_
  show Goes _ _ _ _ _ _ _ (T46.setTop (mkF m 325 #[.val (.int u0), .val (.int u1), .val (.int u2), .val (.int u3), .val (.int u4), .val (.int u5), .val (.int lo), .val (.int hi), .val (.int u0), .val (.int A1), .val (.int A2), .val (.int A3), .val (.int A4), .val (.int A5), .val (.int A6), .val (.int A7), .val (.int A8), .val (.int A9), .val (.ref b23), .unset, .unset] [(.int (f4 A2 (2 : Int32) lo hi u4)), (.int ((lo + (f4 u0 (0 : Int32) lo hi u4)) + (f4 A1 (1 : Int32) lo hi u4)))]))
  refine Goes.of (fun t k => XS.iadd X46.here hx rfl (hb hby at_325) rfl k) ?_
  show Goes _ _ _ _ _ _ _ (T46.setTop (mkF m 326 #[.val (.int u0), .val (.int u1), .val (.int u2), .val (.int u3), .val (.int u4), .val (.int u5), .val (.int lo), .val (.int hi), .val (.int u0), .val (.int A1), .val (.int A2), .val (.int A3), .val (.int A4), .val (.int A5), .val (.int A6), .val (.int A7), .val (.int A8), .val (.int A9), .val (.ref b23), .unset, .unset] [(.int (((lo + (f4 u0 (0 : Int32) lo hi u4)) + (f4 A1 (1 : Int32) lo hi u4)) + (f4 A2 (2 : Int32) lo hi u4)))]))
  refine Goes.of (fun t k => XS.iload X46.here hx rfl (hb hby at_326) rfl k) ?_
  show Goes _ _ _ _ _ _ _ (T46.setTop (mkF m 328 #[.val (.int u0), .val (.int u1), .val (.int u2), .val (.int u3), .val (.int u4), .val (.int u5), .val (.int lo), .val (.int hi), .val (.int u0), .val (.int A1), .val (.int A2), .val (.int A3), .val (.int A4), .val (.int A5), .val (.int A6), .val (.int A7), .val (.int A8), .val (.int A9), .val (.ref b23), .unset, .unset] [(.int A3), (.int (((lo + (f4 u0 (0 : Int32) lo hi u4)) + (f4 A1 (1 : Int32) lo hi u4)) + (f4 A2 (2 : Int32) lo hi u4)))]))
  refine Goes.of (fun t k => XS.iconst X46.here hx rfl (hb hby at_328) k) ?_
  show Goes _ _ _ _ _ _ _ (T46.setTop (mkF m 329 #[.val (.int u0), .val (.int u1), .val (.int u2), .val (.int u3), .val (.int u4), .val (.int u5), .val (.int lo), .val (.int hi), .val (.int u0), .val (.int A1), .val (.int A2), .val (.int A3), .val (.int A4), .val (.int A5), .val (.int A6), .val (.int A7), .val (.int A8), .val (.int A9), .val (.ref b23), .unset, .unset] [(.int (3 : Int32)), (.int A3), (.int (((lo + (f4 u0 (0 : Int32) lo hi u4)) + (f4 A1 (1 : Int32) lo hi u4)) + (f4 A2 (2 : Int32) lo hi u4)))]))
  refine Goes.of (fun t k => XS.iload X46.here hx rfl (hb hby at_329) rfl k) ?_
  show Goes _ _ _ _ _ _ _ (T46.setTop (mkF m 331 #[.val (.int u0), .val (.int u1), .val (.int u2), .val (.int u3), .val (.int u4), .val (.int u5), .val (.int lo), .val (.int hi), .val (.int u0), .val (.int A1), .val (.int A2), .val (.int A3), .val (.int A4), .val (.int A5), .val (.int A6), .val (.int A7), .val (.int A8), .val (.int A9), .val (.ref b23), .unset, .unset] [(.int lo), (.int (3 : Int32)), (.int A3), (.int (((lo + (f4 u0 (0 : Int32) lo hi u4)) + (f4 A1 (1 : Int32) lo hi u4)) + (f4 A2 (2 : Int32) lo hi u4)))]))
  refine Goes.of (fun t k => XS.iload X46.here hx rfl (hb hby at_331) rfl k) ?_
  show Goes _ _ _ _ _ _ _ (T46.setTop (mkF m 333 #[.val (.int u0), .val (.int u1), .val (.int u2), .val (.int u3), .val (.int u4), .val (.int u5), .val (.int lo), .val (.int hi), .val (.int u0), .val (.int A1), .val (.int A2), .val (.int A3), .val (.int A4), .val (.int A5), .val (.int A6), .val (.int A7), .val (.int A8), .val (.int A9), .val (.ref b23), .unset, .unset] [(.int hi), (.int lo), (.int (3 : Int32)), (.int A3), (.int (((lo + (f4 u0 (0 : Int32) lo hi u4)) + (f4 A1 (1 : Int32) lo hi u4)) + (f4 A2 (2 : Int32) lo hi u4)))]))
  refine Goes.of (fun t k => XS.iload X46.here hx rfl (hb hby at_333) rfl k) ?_
  show Goes _ _ _ _ _ _ _ (T46.setTop (mkF m 335 #[.val (.int u0), .val (.int u1), .val (.int u2), .val (.int u3), .val (.int u4), .val (.int u5), .val (.int lo), .val (.int hi), .val (.int u0), .val (.int A1), .val (.int A2), .val (.int A3), .val (.int A4), .val (.int A5), .val (.int A6), .val (.int A7), .val (.int A8), .val (.int A9), .val (.ref b23), .unset, .unset] [(.int u4), (.int hi), (.int lo), (.int (3 : Int32)), (.int A3), (.int (((lo + (f4 u0 (0 : Int32) lo hi u4)) + (f4 A1 (1 : Int32) lo hi u4)) + (f4 A2 (2 : Int32) lo hi u4)))]))
  obtain ⟨_, _, ⟨T47, L47, k47, n47⟩, -, X47, ⟨Lc47, hQ47, l47, y47, z47⟩, st47⟩ := Jvm.LawKit.callS X46 hx (y := (⟨"com/example/orderly_twig/orderlytwig/engine/AscendingSearchFirstAtLeastPinLaw", "lt", "(IIIII)I"⟩ : MethodName)) hown (mvT hZ (hw _ (List.mem_of_getElem? (i := 14) rfl))) (mvT hZ (hw _ (List.mem_of_getElem? (i := 15) rfl))) (mvT hZ (hw _ (List.mem_of_getElem? (i := 3) rfl))) (mvT hZ (hw _ (List.mem_of_getElem? (i := 16) rfl))) (by decide) (backOf (W := 1) (rm4 l Z a0 hw [] A3 (3 : Int32) lo hi u4  h43 n0 ) hZ (hw _ (List.mem_of_getElem? (i := 16) rfl)) (hw _ (List.mem_of_getElem? (i := 3) rfl)) (by decide) (by decide)) (g := (mkF m 335 #[.val (.int u0), .val (.int u1), .val (.int u2), .val (.int u3), .val (.int u4), .val (.int u5), .val (.int lo), .val (.int hi), .val (.int u0), .val (.int A1), .val (.int A2), .val (.int A3), .val (.int A4), .val (.int A5), .val (.int A6), .val (.int A7), .val (.int A8), .val (.int A9), .val (.ref b23), .unset, .unset] [(.int u4), (.int hi), (.int lo), (.int (3 : Int32)), (.int A3), (.int (((lo + (f4 u0 (0 : Int32) lo hi u4)) + (f4 A1 (1 : Int32) lo hi u4)) + (f4 A2 (2 : Int32) lo hi u4)))])) rfl (by rw [hml]; rfl) (argsL := [(.int A3), (.int (3 : Int32)), (.int lo), (.int hi), (.int u4)]) (rest := [(.int (((lo + (f4 u0 (0 : Int32) lo hi u4)) + (f4 A1 (1 : Int32) lo hi u4)) + (f4 A2 (2 : Int32) lo hi u4)))]) (lenOf pd_2 rfl) rfl (by show 2 * 0 + _ ≤ _; exact Nat.le_of_eq rfl) (hb hby at_335) (fun _ _ => ⟨rfl, e46, (by decide : 1 + 0 ≤ _), (by decide : 10 + 0 ≤ _)⟩)
  dsimp only [Pt.U, Pt.locs, Pt.cells, Pt.slots] at X47 l47 y47 z47 st47 hQ47
  replace l47 := l47.symm
  replace y47 := y47.symm
  replace z47 := z47.symm
  subst l47 y47 z47
  obtain ⟨rfl, N47q, e47⟩ := hQ47
  have N47 := Fr.app N46 N47q
  refine Goes.of st47 ?_
  show Goes _ _ _ _ _ _ _ (T47.setTop (mkF m 338 #[.val (.int u0), .val (.int u1), .val (.int u2), .val (.int u3), .val (.int u4), .val (.int u5), .val (.int lo), .val (.int hi), .val (.int u0), .val (.int A1), .val (.int A2), .val (.int A3), .val (.int A4), .val (.int A5), .val (.int A6), .val (.int A7), .val (.int A8), .val (.int A9), .val (.ref b23), .unset, .unset] [(.int (f4 A3 (3 : Int32) lo hi u4)), (.int (((lo + (f4 u0 (0 : Int32) lo hi u4)) + (f4 A1 (1 : Int32) lo hi u4)) + (f4 A2 (2 : Int32) lo hi u4)))]))
  refine Goes.of (fun t k => XS.iadd X47.here hx rfl (hb hby at_338) rfl k) ?_
  show Goes _ _ _ _ _ _ _ (T47.setTop (mkF m 339 #[.val (.int u0), .val (.int u1), .val (.int u2), .val (.int u3), .val (.int u4), .val (.int u5), .val (.int lo), .val (.int hi), .val (.int u0), .val (.int A1), .val (.int A2), .val (.int A3), .val (.int A4), .val (.int A5), .val (.int A6), .val (.int A7), .val (.int A8), .val (.int A9), .val (.ref b23), .unset, .unset] [(.int ((((lo + (f4 u0 (0 : Int32) lo hi u4)) + (f4 A1 (1 : Int32) lo hi u4)) + (f4 A2 (2 : Int32) lo hi u4)) + (f4 A3 (3 : Int32) lo hi u4)))]))
  refine Goes.of (fun t k => XS.iload X47.here hx rfl (hb hby at_339) rfl k) ?_
  show Goes _ _ _ _ _ _ _ (T47.setTop (mkF m 341 #[.val (.int u0), .val (.int u1), .val (.int u2), .val (.int u3), .val (.int u4), .val (.int u5), .val (.int lo), .val (.int hi), .val (.int u0), .val (.int A1), .val (.int A2), .val (.int A3), .val (.int A4), .val (.int A5), .val (.int A6), .val (.int A7), .val (.int A8), .val (.int A9), .val (.ref b23), .unset, .unset] [(.int A4), (.int ((((lo + (f4 u0 (0 : Int32) lo hi u4)) + (f4 A1 (1 : Int32) lo hi u4)) + (f4 A2 (2 : Int32) lo hi u4)) + (f4 A3 (3 : Int32) lo hi u4)))]))
  refine Goes.of (fun t k => XS.iconst X47.here hx rfl (hb hby at_341) k) ?_
  show Goes _ _ _ _ _ _ _ (T47.setTop (mkF m 342 #[.val (.int u0), .val (.int u1), .val (.int u2), .val (.int u3), .val (.int u4), .val (.int u5), .val (.int lo), .val (.int hi), .val (.int u0), .val (.int A1), .val (.int A2), .val (.int A3), .val (.int A4), .val (.int A5), .val (.int A6), .val (.int A7), .val (.int A8), .val (.int A9), .val (.ref b23), .unset, .unset] [(.int (4 : Int32)), (.int A4), (.int ((((lo + (f4 u0 (0 : Int32) lo hi u4)) + (f4 A1 (1 : Int32) lo hi u4)) + (f4 A2 (2 : Int32) lo hi u4)) + (f4 A3 (3 : Int32) lo hi u4)))]))
  refine Goes.of (fun t k => XS.iload X47.here hx rfl (hb hby at_342) rfl k) ?_
  show Goes _ _ _ _ _ _ _ (T47.setTop (mkF m 344 #[.val (.int u0), .val (.int u1), .val (.int u2), .val (.int u3), .val (.int u4), .val (.int u5), .val (.int lo), .val (.int hi), .val (.int u0), .val (.int A1), .val (.int A2), .val (.int A3), .val (.int A4), .val (.int A5), .val (.int A6), .val (.int A7), .val (.int A8), .val (.int A9), .val (.ref b23), .unset, .unset] [(.int lo), (.int (4 : Int32)), (.int A4), (.int ((((lo + (f4 u0 (0 : Int32) lo hi u4)) + (f4 A1 (1 : Int32) lo hi u4)) + (f4 A2 (2 : Int32) lo hi u4)) + (f4 A3 (3 : Int32) lo hi u4)))]))
  refine Goes.of (fun t k => XS.iload X47.here hx rfl (hb hby at_344) rfl k) ?_
  show Goes _ _ _ _ _ _ _ (T47.setTop (mkF m 346 #[.val (.int u0), .val (.int u1), .val (.int u2), .val (.int u3), .val (.int u4), .val (.int u5), .val (.int lo), .val (.int hi), .val (.int u0), .val (.int A1), .val (.int A2), .val (.int A3), .val (.int A4), .val (.int A5), .val (.int A6), .val (.int A7), .val (.int A8), .val (.int A9), .val (.ref b23), .unset, .unset] [(.int hi), (.int lo), (.int (4 : Int32)), (.int A4), (.int ((((lo + (f4 u0 (0 : Int32) lo hi u4)) + (f4 A1 (1 : Int32) lo hi u4)) + (f4 A2 (2 : Int32) lo hi u4)) + (f4 A3 (3 : Int32) lo hi u4)))]))
  refine Goes.of (fun t k => XS.iload X47.here hx rfl (hb hby at_346) rfl k) ?_
  show Goes _ _ _ _ _ _ _ (T47.setTop (mkF m 348 #[.val (.int u0), .val (.int u1), .val (.int u2), .val (.int u3), .val (.int u4), .val (.int u5), .val (.int lo), .val (.int hi), .val (.int u0), .val (.int A1), .val (.int A2), .val (.int A3), .val (.int A4), .val (.int A5), .val (.int A6), .val (.int A7), .val (.int A8), .val (.int A9), .val (.ref b23), .unset, .unset] [(.int u4), (.int hi), (.int lo), (.int (4 : Int32)), (.int A4), (.int ((((lo + (f4 u0 (0 : Int32) lo hi u4)) + (f4 A1 (1 : Int32) lo hi u4)) + (f4 A2 (2 : Int32) lo hi u4)) + (f4 A3 (3 : Int32) lo hi u4)))]))
  obtain ⟨_, _, ⟨T48, L48, k48, n48⟩, -, X48, ⟨Lc48, hQ48, l48, y48, z48⟩, st48⟩ := Jvm.LawKit.callS X47 hx (y := (⟨"com/example/orderly_twig/orderlytwig/engine/AscendingSearchFirstAtLeastPinLaw", "lt", "(IIIII)I"⟩ : MethodName)) hown (mvT hZ (hw _ (List.mem_of_getElem? (i := 14) rfl))) (mvT hZ (hw _ (List.mem_of_getElem? (i := 15) rfl))) (mvT hZ (hw _ (List.mem_of_getElem? (i := 3) rfl))) (mvT hZ (hw _ (List.mem_of_getElem? (i := 16) rfl))) (by decide) (backOf (W := 1) (rm4 l Z a0 hw [] A4 (4 : Int32) lo hi u4  h43 n0 ) hZ (hw _ (List.mem_of_getElem? (i := 16) rfl)) (hw _ (List.mem_of_getElem? (i := 3) rfl)) (by decide) (by decide)) (g := (mkF m 348 #[.val (.int u0), .val (.int u1), .val (.int u2), .val (.int u3), .val (.int u4), .val (.int u5), .val (.int lo), .val (.int hi), .val (.int u0), .val (.int A1), .val (.int A2), .val (.int A3), .val (.int A4), .val (.int A5), .val (.int A6), .val (.int A7), .val (.int A8), .val (.int A9), .val (.ref b23), .unset, .unset] [(.int u4), (.int hi), (.int lo), (.int (4 : Int32)), (.int A4), (.int ((((lo + (f4 u0 (0 : Int32) lo hi u4)) + (f4 A1 (1 : Int32) lo hi u4)) + (f4 A2 (2 : Int32) lo hi u4)) + (f4 A3 (3 : Int32) lo hi u4)))])) rfl (by rw [hml]; rfl) (argsL := [(.int A4), (.int (4 : Int32)), (.int lo), (.int hi), (.int u4)]) (rest := [(.int ((((lo + (f4 u0 (0 : Int32) lo hi u4)) + (f4 A1 (1 : Int32) lo hi u4)) + (f4 A2 (2 : Int32) lo hi u4)) + (f4 A3 (3 : Int32) lo hi u4)))]) (lenOf pd_2 rfl) rfl (by show 2 * 0 + _ ≤ _; exact Nat.le_of_eq rfl) (hb hby at_348) (fun _ _ => ⟨rfl, e47, (by decide : 1 + 0 ≤ _), (by decide : 10 + 0 ≤ _)⟩)
  dsimp only [Pt.U, Pt.locs, Pt.cells, Pt.slots] at X48 l48 y48 z48 st48 hQ48
  replace l48 := l48.symm
  replace y48 := y48.symm
  replace z48 := z48.symm
  subst l48 y48 z48
  obtain ⟨rfl, N48q, e48⟩ := hQ48
  have N48 := Fr.app N47 N48q
  refine Goes.of st48 ?_
  show Goes _ _ _ _ _ _ _ (T48.setTop (mkF m 351 #[.val (.int u0), .val (.int u1), .val (.int u2), .val (.int u3), .val (.int u4), .val (.int u5), .val (.int lo), .val (.int hi), .val (.int u0), .val (.int A1), .val (.int A2), .val (.int A3), .val (.int A4), .val (.int A5), .val (.int A6), .val (.int A7), .val (.int A8), .val (.int A9), .val (.ref b23), .unset, .unset] [(.int (f4 A4 (4 : Int32) lo hi u4)), (.int ((((lo + (f4 u0 (0 : Int32) lo hi u4)) + (f4 A1 (1 : Int32) lo hi u4)) + (f4 A2 (2 : Int32) lo hi u4)) + (f4 A3 (3 : Int32) lo hi u4)))]))
  refine Goes.of (fun t k => XS.iadd X48.here hx rfl (hb hby at_351) rfl k) ?_
  show Goes _ _ _ _ _ _ _ (T48.setTop (mkF m 352 #[.val (.int u0), .val (.int u1), .val (.int u2), .val (.int u3), .val (.int u4), .val (.int u5), .val (.int lo), .val (.int hi), .val (.int u0), .val (.int A1), .val (.int A2), .val (.int A3), .val (.int A4), .val (.int A5), .val (.int A6), .val (.int A7), .val (.int A8), .val (.int A9), .val (.ref b23), .unset, .unset] [(.int (((((lo + (f4 u0 (0 : Int32) lo hi u4)) + (f4 A1 (1 : Int32) lo hi u4)) + (f4 A2 (2 : Int32) lo hi u4)) + (f4 A3 (3 : Int32) lo hi u4)) + (f4 A4 (4 : Int32) lo hi u4)))]))
  refine Goes.of (fun t k => XS.iload X48.here hx rfl (hb hby at_352) rfl k) ?_
  show Goes _ _ _ _ _ _ _ (T48.setTop (mkF m 354 #[.val (.int u0), .val (.int u1), .val (.int u2), .val (.int u3), .val (.int u4), .val (.int u5), .val (.int lo), .val (.int hi), .val (.int u0), .val (.int A1), .val (.int A2), .val (.int A3), .val (.int A4), .val (.int A5), .val (.int A6), .val (.int A7), .val (.int A8), .val (.int A9), .val (.ref b23), .unset, .unset] [(.int A5), (.int (((((lo + (f4 u0 (0 : Int32) lo hi u4)) + (f4 A1 (1 : Int32) lo hi u4)) + (f4 A2 (2 : Int32) lo hi u4)) + (f4 A3 (3 : Int32) lo hi u4)) + (f4 A4 (4 : Int32) lo hi u4)))]))
  refine Goes.of (fun t k => XS.iconst X48.here hx rfl (hb hby at_354) k) ?_
  show Goes _ _ _ _ _ _ _ (T48.setTop (mkF m 355 #[.val (.int u0), .val (.int u1), .val (.int u2), .val (.int u3), .val (.int u4), .val (.int u5), .val (.int lo), .val (.int hi), .val (.int u0), .val (.int A1), .val (.int A2), .val (.int A3), .val (.int A4), .val (.int A5), .val (.int A6), .val (.int A7), .val (.int A8), .val (.int A9), .val (.ref b23), .unset, .unset] [(.int (5 : Int32)), (.int A5), (.int (((((lo + (f4 u0 (0 : Int32) lo hi u4)) + (f4 A1 (1 : Int32) lo hi u4)) + (f4 A2 (2 : Int32) lo hi u4)) + (f4 A3 (3 : Int32) lo hi u4)) + (f4 A4 (4 : Int32) lo hi u4)))]))
  refine Goes.of (fun t k => XS.iload X48.here hx rfl (hb hby at_355) rfl k) ?_
  show Goes _ _ _ _ _ _ _ (T48.setTop (mkF m 357 #[.val (.int u0), .val (.int u1), .val (.int u2), .val (.int u3), .val (.int u4), .val (.int u5), .val (.int lo), .val (.int hi), .val (.int u0), .val (.int A1), .val (.int A2), .val (.int A3), .val (.int A4), .val (.int A5), .val (.int A6), .val (.int A7), .val (.int A8), .val (.int A9), .val (.ref b23), .unset, .unset] [(.int lo), (.int (5 : Int32)), (.int A5), (.int (((((lo + (f4 u0 (0 : Int32) lo hi u4)) + (f4 A1 (1 : Int32) lo hi u4)) + (f4 A2 (2 : Int32) lo hi u4)) + (f4 A3 (3 : Int32) lo hi u4)) + (f4 A4 (4 : Int32) lo hi u4)))]))
  refine Goes.of (fun t k => XS.iload X48.here hx rfl (hb hby at_357) rfl k) ?_
  show Goes _ _ _ _ _ _ _ (T48.setTop (mkF m 359 #[.val (.int u0), .val (.int u1), .val (.int u2), .val (.int u3), .val (.int u4), .val (.int u5), .val (.int lo), .val (.int hi), .val (.int u0), .val (.int A1), .val (.int A2), .val (.int A3), .val (.int A4), .val (.int A5), .val (.int A6), .val (.int A7), .val (.int A8), .val (.int A9), .val (.ref b23), .unset, .unset] [(.int hi), (.int lo), (.int (5 : Int32)), (.int A5), (.int (((((lo + (f4 u0 (0 : Int32) lo hi u4)) + (f4 A1 (1 : Int32) lo hi u4)) + (f4 A2 (2 : Int32) lo hi u4)) + (f4 A3 (3 : Int32) lo hi u4)) + (f4 A4 (4 : Int32) lo hi u4)))]))
  refine Goes.of (fun t k => XS.iload X48.here hx rfl (hb hby at_359) rfl k) ?_
  show Goes _ _ _ _ _ _ _ (T48.setTop (mkF m 361 #[.val (.int u0), .val (.int u1), .val (.int u2), .val (.int u3), .val (.int u4), .val (.int u5), .val (.int lo), .val (.int hi), .val (.int u0), .val (.int A1), .val (.int A2), .val (.int A3), .val (.int A4), .val (.int A5), .val (.int A6), .val (.int A7), .val (.int A8), .val (.int A9), .val (.ref b23), .unset, .unset] [(.int u4), (.int hi), (.int lo), (.int (5 : Int32)), (.int A5), (.int (((((lo + (f4 u0 (0 : Int32) lo hi u4)) + (f4 A1 (1 : Int32) lo hi u4)) + (f4 A2 (2 : Int32) lo hi u4)) + (f4 A3 (3 : Int32) lo hi u4)) + (f4 A4 (4 : Int32) lo hi u4)))]))
  obtain ⟨_, _, ⟨T49, L49, k49, n49⟩, -, X49, ⟨Lc49, hQ49, l49, y49, z49⟩, st49⟩ := Jvm.LawKit.callS X48 hx (y := (⟨"com/example/orderly_twig/orderlytwig/engine/AscendingSearchFirstAtLeastPinLaw", "lt", "(IIIII)I"⟩ : MethodName)) hown (mvT hZ (hw _ (List.mem_of_getElem? (i := 14) rfl))) (mvT hZ (hw _ (List.mem_of_getElem? (i := 15) rfl))) (mvT hZ (hw _ (List.mem_of_getElem? (i := 3) rfl))) (mvT hZ (hw _ (List.mem_of_getElem? (i := 16) rfl))) (by decide) (backOf (W := 1) (rm4 l Z a0 hw [] A5 (5 : Int32) lo hi u4  h43 n0 ) hZ (hw _ (List.mem_of_getElem? (i := 16) rfl)) (hw _ (List.mem_of_getElem? (i := 3) rfl)) (by decide) (by decide)) (g := (mkF m 361 #[.val (.int u0), .val (.int u1), .val (.int u2), .val (.int u3), .val (.int u4), .val (.int u5), .val (.int lo), .val (.int hi), .val (.int u0), .val (.int A1), .val (.int A2), .val (.int A3), .val (.int A4), .val (.int A5), .val (.int A6), .val (.int A7), .val (.int A8), .val (.int A9), .val (.ref b23), .unset, .unset] [(.int u4), (.int hi), (.int lo), (.int (5 : Int32)), (.int A5), (.int (((((lo + (f4 u0 (0 : Int32) lo hi u4)) + (f4 A1 (1 : Int32) lo hi u4)) + (f4 A2 (2 : Int32) lo hi u4)) + (f4 A3 (3 : Int32) lo hi u4)) + (f4 A4 (4 : Int32) lo hi u4)))])) rfl (by rw [hml]; rfl) (argsL := [(.int A5), (.int (5 : Int32)), (.int lo), (.int hi), (.int u4)]) (rest := [(.int (((((lo + (f4 u0 (0 : Int32) lo hi u4)) + (f4 A1 (1 : Int32) lo hi u4)) + (f4 A2 (2 : Int32) lo hi u4)) + (f4 A3 (3 : Int32) lo hi u4)) + (f4 A4 (4 : Int32) lo hi u4)))]) (lenOf pd_2 rfl) rfl (by show 2 * 0 + _ ≤ _; exact Nat.le_of_eq rfl) (hb hby at_361) (fun _ _ => ⟨rfl, e48, (by decide : 1 + 0 ≤ _), (by decide : 10 + 0 ≤ _)⟩)
  dsimp only [Pt.U, Pt.locs, Pt.cells, Pt.slots] at X49 l49 y49 z49 st49 hQ49
  replace l49 := l49.symm
  replace y49 := y49.symm
  replace z49 := z49.symm
  subst l49 y49 z49
  obtain ⟨rfl, N49q, e49⟩ := hQ49
  have N49 := Fr.app N48 N49q
  refine Goes.of st49 ?_
  show Goes _ _ _ _ _ _ _ (T49.setTop (mkF m 364 #[.val (.int u0), .val (.int u1), .val (.int u2), .val (.int u3), .val (.int u4), .val (.int u5), .val (.int lo), .val (.int hi), .val (.int u0), .val (.int A1), .val (.int A2), .val (.int A3), .val (.int A4), .val (.int A5), .val (.int A6), .val (.int A7), .val (.int A8), .val (.int A9), .val (.ref b23), .unset, .unset] [(.int (f4 A5 (5 : Int32) lo hi u4)), (.int (((((lo + (f4 u0 (0 : Int32) lo hi u4)) + (f4 A1 (1 : Int32) lo hi u4)) + (f4 A2 (2 : Int32) lo hi u4)) + (f4 A3 (3 : Int32) lo hi u4)) + (f4 A4 (4 : Int32) lo hi u4)))]))
  refine Goes.of (fun t k => XS.iadd X49.here hx rfl (hb hby at_364) rfl k) ?_
  show Goes _ _ _ _ _ _ _ (T49.setTop (mkF m 365 #[.val (.int u0), .val (.int u1), .val (.int u2), .val (.int u3), .val (.int u4), .val (.int u5), .val (.int lo), .val (.int hi), .val (.int u0), .val (.int A1), .val (.int A2), .val (.int A3), .val (.int A4), .val (.int A5), .val (.int A6), .val (.int A7), .val (.int A8), .val (.int A9), .val (.ref b23), .unset, .unset] [(.int ((((((lo + (f4 u0 (0 : Int32) lo hi u4)) + (f4 A1 (1 : Int32) lo hi u4)) + (f4 A2 (2 : Int32) lo hi u4)) + (f4 A3 (3 : Int32) lo hi u4)) + (f4 A4 (4 : Int32) lo hi u4)) + (f4 A5 (5 : Int32) lo hi u4)))]))
  refine Goes.of (fun t k => XS.iload X49.here hx rfl (hb hby at_365) rfl k) ?_
  show Goes _ _ _ _ _ _ _ (T49.setTop (mkF m 367 #[.val (.int u0), .val (.int u1), .val (.int u2), .val (.int u3), .val (.int u4), .val (.int u5), .val (.int lo), .val (.int hi), .val (.int u0), .val (.int A1), .val (.int A2), .val (.int A3), .val (.int A4), .val (.int A5), .val (.int A6), .val (.int A7), .val (.int A8), .val (.int A9), .val (.ref b23), .unset, .unset] [(.int A6), (.int ((((((lo + (f4 u0 (0 : Int32) lo hi u4)) + (f4 A1 (1 : Int32) lo hi u4)) + (f4 A2 (2 : Int32) lo hi u4)) + (f4 A3 (3 : Int32) lo hi u4)) + (f4 A4 (4 : Int32) lo hi u4)) + (f4 A5 (5 : Int32) lo hi u4)))]))
  refine Goes.of (fun t k => XS.bipush X49.here hx rfl (hb hby at_367) k) ?_
  show Goes _ _ _ _ _ _ _ (T49.setTop (mkF m 369 #[.val (.int u0), .val (.int u1), .val (.int u2), .val (.int u3), .val (.int u4), .val (.int u5), .val (.int lo), .val (.int hi), .val (.int u0), .val (.int A1), .val (.int A2), .val (.int A3), .val (.int A4), .val (.int A5), .val (.int A6), .val (.int A7), .val (.int A8), .val (.int A9), .val (.ref b23), .unset, .unset] [(.int (6 : Int32)), (.int A6), (.int ((((((lo + (f4 u0 (0 : Int32) lo hi u4)) + (f4 A1 (1 : Int32) lo hi u4)) + (f4 A2 (2 : Int32) lo hi u4)) + (f4 A3 (3 : Int32) lo hi u4)) + (f4 A4 (4 : Int32) lo hi u4)) + (f4 A5 (5 : Int32) lo hi u4)))]))
  refine Goes.of (fun t k => XS.iload X49.here hx rfl (hb hby at_369) rfl k) ?_
  show Goes _ _ _ _ _ _ _ (T49.setTop (mkF m 371 #[.val (.int u0), .val (.int u1), .val (.int u2), .val (.int u3), .val (.int u4), .val (.int u5), .val (.int lo), .val (.int hi), .val (.int u0), .val (.int A1), .val (.int A2), .val (.int A3), .val (.int A4), .val (.int A5), .val (.int A6), .val (.int A7), .val (.int A8), .val (.int A9), .val (.ref b23), .unset, .unset] [(.int lo), (.int (6 : Int32)), (.int A6), (.int ((((((lo + (f4 u0 (0 : Int32) lo hi u4)) + (f4 A1 (1 : Int32) lo hi u4)) + (f4 A2 (2 : Int32) lo hi u4)) + (f4 A3 (3 : Int32) lo hi u4)) + (f4 A4 (4 : Int32) lo hi u4)) + (f4 A5 (5 : Int32) lo hi u4)))]))
  refine Goes.of (fun t k => XS.iload X49.here hx rfl (hb hby at_371) rfl k) ?_
  show Goes _ _ _ _ _ _ _ (T49.setTop (mkF m 373 #[.val (.int u0), .val (.int u1), .val (.int u2), .val (.int u3), .val (.int u4), .val (.int u5), .val (.int lo), .val (.int hi), .val (.int u0), .val (.int A1), .val (.int A2), .val (.int A3), .val (.int A4), .val (.int A5), .val (.int A6), .val (.int A7), .val (.int A8), .val (.int A9), .val (.ref b23), .unset, .unset] [(.int hi), (.int lo), (.int (6 : Int32)), (.int A6), (.int ((((((lo + (f4 u0 (0 : Int32) lo hi u4)) + (f4 A1 (1 : Int32) lo hi u4)) + (f4 A2 (2 : Int32) lo hi u4)) + (f4 A3 (3 : Int32) lo hi u4)) + (f4 A4 (4 : Int32) lo hi u4)) + (f4 A5 (5 : Int32) lo hi u4)))]))
  refine Goes.of (fun t k => XS.iload X49.here hx rfl (hb hby at_373) rfl k) ?_
  show Goes _ _ _ _ _ _ _ (T49.setTop (mkF m 375 #[.val (.int u0), .val (.int u1), .val (.int u2), .val (.int u3), .val (.int u4), .val (.int u5), .val (.int lo), .val (.int hi), .val (.int u0), .val (.int A1), .val (.int A2), .val (.int A3), .val (.int A4), .val (.int A5), .val (.int A6), .val (.int A7), .val (.int A8), .val (.int A9), .val (.ref b23), .unset, .unset] [(.int u4), (.int hi), (.int lo), (.int (6 : Int32)), (.int A6), (.int ((((((lo + (f4 u0 (0 : Int32) lo hi u4)) + (f4 A1 (1 : Int32) lo hi u4)) + (f4 A2 (2 : Int32) lo hi u4)) + (f4 A3 (3 : Int32) lo hi u4)) + (f4 A4 (4 : Int32) lo hi u4)) + (f4 A5 (5 : Int32) lo hi u4)))]))
  obtain ⟨_, _, ⟨T50, L50, k50, n50⟩, -, X50, ⟨Lc50, hQ50, l50, y50, z50⟩, st50⟩ := Jvm.LawKit.callS X49 hx (y := (⟨"com/example/orderly_twig/orderlytwig/engine/AscendingSearchFirstAtLeastPinLaw", "lt", "(IIIII)I"⟩ : MethodName)) hown (mvT hZ (hw _ (List.mem_of_getElem? (i := 14) rfl))) (mvT hZ (hw _ (List.mem_of_getElem? (i := 15) rfl))) (mvT hZ (hw _ (List.mem_of_getElem? (i := 3) rfl))) (mvT hZ (hw _ (List.mem_of_getElem? (i := 16) rfl))) (by decide) (backOf (W := 1) (rm4 l Z a0 hw [] A6 (6 : Int32) lo hi u4  h43 n0 ) hZ (hw _ (List.mem_of_getElem? (i := 16) rfl)) (hw _ (List.mem_of_getElem? (i := 3) rfl)) (by decide) (by decide)) (g := (mkF m 375 #[.val (.int u0), .val (.int u1), .val (.int u2), .val (.int u3), .val (.int u4), .val (.int u5), .val (.int lo), .val (.int hi), .val (.int u0), .val (.int A1), .val (.int A2), .val (.int A3), .val (.int A4), .val (.int A5), .val (.int A6), .val (.int A7), .val (.int A8), .val (.int A9), .val (.ref b23), .unset, .unset] [(.int u4), (.int hi), (.int lo), (.int (6 : Int32)), (.int A6), (.int ((((((lo + (f4 u0 (0 : Int32) lo hi u4)) + (f4 A1 (1 : Int32) lo hi u4)) + (f4 A2 (2 : Int32) lo hi u4)) + (f4 A3 (3 : Int32) lo hi u4)) + (f4 A4 (4 : Int32) lo hi u4)) + (f4 A5 (5 : Int32) lo hi u4)))])) rfl (by rw [hml]; rfl) (argsL := [(.int A6), (.int (6 : Int32)), (.int lo), (.int hi), (.int u4)]) (rest := [(.int ((((((lo + (f4 u0 (0 : Int32) lo hi u4)) + (f4 A1 (1 : Int32) lo hi u4)) + (f4 A2 (2 : Int32) lo hi u4)) + (f4 A3 (3 : Int32) lo hi u4)) + (f4 A4 (4 : Int32) lo hi u4)) + (f4 A5 (5 : Int32) lo hi u4)))]) (lenOf pd_2 rfl) rfl (by show 2 * 0 + _ ≤ _; exact Nat.le_of_eq rfl) (hb hby at_375) (fun _ _ => ⟨rfl, e49, (by decide : 1 + 0 ≤ _), (by decide : 10 + 0 ≤ _)⟩)
  dsimp only [Pt.U, Pt.locs, Pt.cells, Pt.slots] at X50 l50 y50 z50 st50 hQ50
  replace l50 := l50.symm
  replace y50 := y50.symm
  replace z50 := z50.symm
  subst l50 y50 z50
  obtain ⟨rfl, N50q, e50⟩ := hQ50
  have N50 := Fr.app N49 N50q
  refine Goes.of st50 ?_
  show Goes _ _ _ _ _ _ _ (T50.setTop (mkF m 378 #[.val (.int u0), .val (.int u1), .val (.int u2), .val (.int u3), .val (.int u4), .val (.int u5), .val (.int lo), .val (.int hi), .val (.int u0), .val (.int A1), .val (.int A2), .val (.int A3), .val (.int A4), .val (.int A5), .val (.int A6), .val (.int A7), .val (.int A8), .val (.int A9), .val (.ref b23), .unset, .unset] [(.int (f4 A6 (6 : Int32) lo hi u4)), (.int ((((((lo + (f4 u0 (0 : Int32) lo hi u4)) + (f4 A1 (1 : Int32) lo hi u4)) + (f4 A2 (2 : Int32) lo hi u4)) + (f4 A3 (3 : Int32) lo hi u4)) + (f4 A4 (4 : Int32) lo hi u4)) + (f4 A5 (5 : Int32) lo hi u4)))]))
  refine Goes.of (fun t k => XS.iadd X50.here hx rfl (hb hby at_378) rfl k) ?_
  show Goes _ _ _ _ _ _ _ (T50.setTop (mkF m 379 #[.val (.int u0), .val (.int u1), .val (.int u2), .val (.int u3), .val (.int u4), .val (.int u5), .val (.int lo), .val (.int hi), .val (.int u0), .val (.int A1), .val (.int A2), .val (.int A3), .val (.int A4), .val (.int A5), .val (.int A6), .val (.int A7), .val (.int A8), .val (.int A9), .val (.ref b23), .unset, .unset] [(.int (((((((lo + (f4 u0 (0 : Int32) lo hi u4)) + (f4 A1 (1 : Int32) lo hi u4)) + (f4 A2 (2 : Int32) lo hi u4)) + (f4 A3 (3 : Int32) lo hi u4)) + (f4 A4 (4 : Int32) lo hi u4)) + (f4 A5 (5 : Int32) lo hi u4)) + (f4 A6 (6 : Int32) lo hi u4)))]))
  refine Goes.of (fun t k => XS.iload X50.here hx rfl (hb hby at_379) rfl k) ?_
  show Goes _ _ _ _ _ _ _ (T50.setTop (mkF m 381 #[.val (.int u0), .val (.int u1), .val (.int u2), .val (.int u3), .val (.int u4), .val (.int u5), .val (.int lo), .val (.int hi), .val (.int u0), .val (.int A1), .val (.int A2), .val (.int A3), .val (.int A4), .val (.int A5), .val (.int A6), .val (.int A7), .val (.int A8), .val (.int A9), .val (.ref b23), .unset, .unset] [(.int A7), (.int (((((((lo + (f4 u0 (0 : Int32) lo hi u4)) + (f4 A1 (1 : Int32) lo hi u4)) + (f4 A2 (2 : Int32) lo hi u4)) + (f4 A3 (3 : Int32) lo hi u4)) + (f4 A4 (4 : Int32) lo hi u4)) + (f4 A5 (5 : Int32) lo hi u4)) + (f4 A6 (6 : Int32) lo hi u4)))]))
  refine Goes.of (fun t k => XS.bipush X50.here hx rfl (hb hby at_381) k) ?_
  show Goes _ _ _ _ _ _ _ (T50.setTop (mkF m 383 #[.val (.int u0), .val (.int u1), .val (.int u2), .val (.int u3), .val (.int u4), .val (.int u5), .val (.int lo), .val (.int hi), .val (.int u0), .val (.int A1), .val (.int A2), .val (.int A3), .val (.int A4), .val (.int A5), .val (.int A6), .val (.int A7), .val (.int A8), .val (.int A9), .val (.ref b23), .unset, .unset] [(.int (7 : Int32)), (.int A7), (.int (((((((lo + (f4 u0 (0 : Int32) lo hi u4)) + (f4 A1 (1 : Int32) lo hi u4)) + (f4 A2 (2 : Int32) lo hi u4)) + (f4 A3 (3 : Int32) lo hi u4)) + (f4 A4 (4 : Int32) lo hi u4)) + (f4 A5 (5 : Int32) lo hi u4)) + (f4 A6 (6 : Int32) lo hi u4)))]))
  refine Goes.of (fun t k => XS.iload X50.here hx rfl (hb hby at_383) rfl k) ?_
  show Goes _ _ _ _ _ _ _ (T50.setTop (mkF m 385 #[.val (.int u0), .val (.int u1), .val (.int u2), .val (.int u3), .val (.int u4), .val (.int u5), .val (.int lo), .val (.int hi), .val (.int u0), .val (.int A1), .val (.int A2), .val (.int A3), .val (.int A4), .val (.int A5), .val (.int A6), .val (.int A7), .val (.int A8), .val (.int A9), .val (.ref b23), .unset, .unset] [(.int lo), (.int (7 : Int32)), (.int A7), (.int (((((((lo + (f4 u0 (0 : Int32) lo hi u4)) + (f4 A1 (1 : Int32) lo hi u4)) + (f4 A2 (2 : Int32) lo hi u4)) + (f4 A3 (3 : Int32) lo hi u4)) + (f4 A4 (4 : Int32) lo hi u4)) + (f4 A5 (5 : Int32) lo hi u4)) + (f4 A6 (6 : Int32) lo hi u4)))]))
  refine Goes.of (fun t k => XS.iload X50.here hx rfl (hb hby at_385) rfl k) ?_
  show Goes _ _ _ _ _ _ _ (T50.setTop (mkF m 387 #[.val (.int u0), .val (.int u1), .val (.int u2), .val (.int u3), .val (.int u4), .val (.int u5), .val (.int lo), .val (.int hi), .val (.int u0), .val (.int A1), .val (.int A2), .val (.int A3), .val (.int A4), .val (.int A5), .val (.int A6), .val (.int A7), .val (.int A8), .val (.int A9), .val (.ref b23), .unset, .unset] [(.int hi), (.int lo), (.int (7 : Int32)), (.int A7), (.int (((((((lo + (f4 u0 (0 : Int32) lo hi u4)) + (f4 A1 (1 : Int32) lo hi u4)) + (f4 A2 (2 : Int32) lo hi u4)) + (f4 A3 (3 : Int32) lo hi u4)) + (f4 A4 (4 : Int32) lo hi u4)) + (f4 A5 (5 : Int32) lo hi u4)) + (f4 A6 (6 : Int32) lo hi u4)))]))
  refine Goes.of (fun t k => XS.iload X50.here hx rfl (hb hby at_387) rfl k) ?_
  show Goes _ _ _ _ _ _ _ (T50.setTop (mkF m 389 #[.val (.int u0), .val (.int u1), .val (.int u2), .val (.int u3), .val (.int u4), .val (.int u5), .val (.int lo), .val (.int hi), .val (.int u0), .val (.int A1), .val (.int A2), .val (.int A3), .val (.int A4), .val (.int A5), .val (.int A6), .val (.int A7), .val (.int A8), .val (.int A9), .val (.ref b23), .unset, .unset] [(.int u4), (.int hi), (.int lo), (.int (7 : Int32)), (.int A7), (.int (((((((lo + (f4 u0 (0 : Int32) lo hi u4)) + (f4 A1 (1 : Int32) lo hi u4)) + (f4 A2 (2 : Int32) lo hi u4)) + (f4 A3 (3 : Int32) lo hi u4)) + (f4 A4 (4 : Int32) lo hi u4)) + (f4 A5 (5 : Int32) lo hi u4)) + (f4 A6 (6 : Int32) lo hi u4)))]))
  obtain ⟨_, _, ⟨T51, L51, k51, n51⟩, -, X51, ⟨Lc51, hQ51, l51, y51, z51⟩, st51⟩ := Jvm.LawKit.callS X50 hx (y := (⟨"com/example/orderly_twig/orderlytwig/engine/AscendingSearchFirstAtLeastPinLaw", "lt", "(IIIII)I"⟩ : MethodName)) hown (mvT hZ (hw _ (List.mem_of_getElem? (i := 14) rfl))) (mvT hZ (hw _ (List.mem_of_getElem? (i := 15) rfl))) (mvT hZ (hw _ (List.mem_of_getElem? (i := 3) rfl))) (mvT hZ (hw _ (List.mem_of_getElem? (i := 16) rfl))) (by decide) (backOf (W := 1) (rm4 l Z a0 hw [] A7 (7 : Int32) lo hi u4  h43 n0 ) hZ (hw _ (List.mem_of_getElem? (i := 16) rfl)) (hw _ (List.mem_of_getElem? (i := 3) rfl)) (by decide) (by decide)) (g := (mkF m 389 #[.val (.int u0), .val (.int u1), .val (.int u2), .val (.int u3), .val (.int u4), .val (.int u5), .val (.int lo), .val (.int hi), .val (.int u0), .val (.int A1), .val (.int A2), .val (.int A3), .val (.int A4), .val (.int A5), .val (.int A6), .val (.int A7), .val (.int A8), .val (.int A9), .val (.ref b23), .unset, .unset] [(.int u4), (.int hi), (.int lo), (.int (7 : Int32)), (.int A7), (.int (((((((lo + (f4 u0 (0 : Int32) lo hi u4)) + (f4 A1 (1 : Int32) lo hi u4)) + (f4 A2 (2 : Int32) lo hi u4)) + (f4 A3 (3 : Int32) lo hi u4)) + (f4 A4 (4 : Int32) lo hi u4)) + (f4 A5 (5 : Int32) lo hi u4)) + (f4 A6 (6 : Int32) lo hi u4)))])) rfl (by rw [hml]; rfl) (argsL := [(.int A7), (.int (7 : Int32)), (.int lo), (.int hi), (.int u4)]) (rest := [(.int (((((((lo + (f4 u0 (0 : Int32) lo hi u4)) + (f4 A1 (1 : Int32) lo hi u4)) + (f4 A2 (2 : Int32) lo hi u4)) + (f4 A3 (3 : Int32) lo hi u4)) + (f4 A4 (4 : Int32) lo hi u4)) + (f4 A5 (5 : Int32) lo hi u4)) + (f4 A6 (6 : Int32) lo hi u4)))]) (lenOf pd_2 rfl) rfl (by show 2 * 0 + _ ≤ _; exact Nat.le_of_eq rfl) (hb hby at_389) (fun _ _ => ⟨rfl, e50, (by decide : 1 + 0 ≤ _), (by decide : 10 + 0 ≤ _)⟩)
  dsimp only [Pt.U, Pt.locs, Pt.cells, Pt.slots] at X51 l51 y51 z51 st51 hQ51
  replace l51 := l51.symm
  replace y51 := y51.symm
  replace z51 := z51.symm
  subst l51 y51 z51
  obtain ⟨rfl, N51q, e51⟩ := hQ51
  have N51 := Fr.app N50 N51q
  refine Goes.of st51 ?_
  show Goes _ _ _ _ _ _ _ (T51.setTop (mkF m 392 #[.val (.int u0), .val (.int u1), .val (.int u2), .val (.int u3), .val (.int u4), .val (.int u5), .val (.int lo), .val (.int hi), .val (.int u0), .val (.int A1), .val (.int A2), .val (.int A3), .val (.int A4), .val (.int A5), .val (.int A6), .val (.int A7), .val (.int A8), .val (.int A9), .val (.ref b23), .unset, .unset] [(.int (f4 A7 (7 : Int32) lo hi u4)), (.int (((((((lo + (f4 u0 (0 : Int32) lo hi u4)) + (f4 A1 (1 : Int32) lo hi u4)) + (f4 A2 (2 : Int32) lo hi u4)) + (f4 A3 (3 : Int32) lo hi u4)) + (f4 A4 (4 : Int32) lo hi u4)) + (f4 A5 (5 : Int32) lo hi u4)) + (f4 A6 (6 : Int32) lo hi u4)))]))
  refine Goes.of (fun t k => XS.iadd X51.here hx rfl (hb hby at_392) rfl k) ?_
  show Goes _ _ _ _ _ _ _ (T51.setTop (mkF m 393 #[.val (.int u0), .val (.int u1), .val (.int u2), .val (.int u3), .val (.int u4), .val (.int u5), .val (.int lo), .val (.int hi), .val (.int u0), .val (.int A1), .val (.int A2), .val (.int A3), .val (.int A4), .val (.int A5), .val (.int A6), .val (.int A7), .val (.int A8), .val (.int A9), .val (.ref b23), .unset, .unset] [(.int ((((((((lo + (f4 u0 (0 : Int32) lo hi u4)) + (f4 A1 (1 : Int32) lo hi u4)) + (f4 A2 (2 : Int32) lo hi u4)) + (f4 A3 (3 : Int32) lo hi u4)) + (f4 A4 (4 : Int32) lo hi u4)) + (f4 A5 (5 : Int32) lo hi u4)) + (f4 A6 (6 : Int32) lo hi u4)) + (f4 A7 (7 : Int32) lo hi u4)))]))
  refine Goes.of (fun t k => XS.iload X51.here hx rfl (hb hby at_393) rfl k) ?_
  show Goes _ _ _ _ _ _ _ (T51.setTop (mkF m 395 #[.val (.int u0), .val (.int u1), .val (.int u2), .val (.int u3), .val (.int u4), .val (.int u5), .val (.int lo), .val (.int hi), .val (.int u0), .val (.int A1), .val (.int A2), .val (.int A3), .val (.int A4), .val (.int A5), .val (.int A6), .val (.int A7), .val (.int A8), .val (.int A9), .val (.ref b23), .unset, .unset] [(.int A8), (.int ((((((((lo + (f4 u0 (0 : Int32) lo hi u4)) + (f4 A1 (1 : Int32) lo hi u4)) + (f4 A2 (2 : Int32) lo hi u4)) + (f4 A3 (3 : Int32) lo hi u4)) + (f4 A4 (4 : Int32) lo hi u4)) + (f4 A5 (5 : Int32) lo hi u4)) + (f4 A6 (6 : Int32) lo hi u4)) + (f4 A7 (7 : Int32) lo hi u4)))]))
  refine Goes.of (fun t k => XS.bipush X51.here hx rfl (hb hby at_395) k) ?_
  show Goes _ _ _ _ _ _ _ (T51.setTop (mkF m 397 #[.val (.int u0), .val (.int u1), .val (.int u2), .val (.int u3), .val (.int u4), .val (.int u5), .val (.int lo), .val (.int hi), .val (.int u0), .val (.int A1), .val (.int A2), .val (.int A3), .val (.int A4), .val (.int A5), .val (.int A6), .val (.int A7), .val (.int A8), .val (.int A9), .val (.ref b23), .unset, .unset] [(.int (8 : Int32)), (.int A8), (.int ((((((((lo + (f4 u0 (0 : Int32) lo hi u4)) + (f4 A1 (1 : Int32) lo hi u4)) + (f4 A2 (2 : Int32) lo hi u4)) + (f4 A3 (3 : Int32) lo hi u4)) + (f4 A4 (4 : Int32) lo hi u4)) + (f4 A5 (5 : Int32) lo hi u4)) + (f4 A6 (6 : Int32) lo hi u4)) + (f4 A7 (7 : Int32) lo hi u4)))]))
  refine Goes.of (fun t k => XS.iload X51.here hx rfl (hb hby at_397) rfl k) ?_
  show Goes _ _ _ _ _ _ _ (T51.setTop (mkF m 399 #[.val (.int u0), .val (.int u1), .val (.int u2), .val (.int u3), .val (.int u4), .val (.int u5), .val (.int lo), .val (.int hi), .val (.int u0), .val (.int A1), .val (.int A2), .val (.int A3), .val (.int A4), .val (.int A5), .val (.int A6), .val (.int A7), .val (.int A8), .val (.int A9), .val (.ref b23), .unset, .unset] [(.int lo), (.int (8 : Int32)), (.int A8), (.int ((((((((lo + (f4 u0 (0 : Int32) lo hi u4)) + (f4 A1 (1 : Int32) lo hi u4)) + (f4 A2 (2 : Int32) lo hi u4)) + (f4 A3 (3 : Int32) lo hi u4)) + (f4 A4 (4 : Int32) lo hi u4)) + (f4 A5 (5 : Int32) lo hi u4)) + (f4 A6 (6 : Int32) lo hi u4)) + (f4 A7 (7 : Int32) lo hi u4)))]))
  refine Goes.of (fun t k => XS.iload X51.here hx rfl (hb hby at_399) rfl k) ?_
  show Goes _ _ _ _ _ _ _ (T51.setTop (mkF m 401 #[.val (.int u0), .val (.int u1), .val (.int u2), .val (.int u3), .val (.int u4), .val (.int u5), .val (.int lo), .val (.int hi), .val (.int u0), .val (.int A1), .val (.int A2), .val (.int A3), .val (.int A4), .val (.int A5), .val (.int A6), .val (.int A7), .val (.int A8), .val (.int A9), .val (.ref b23), .unset, .unset] [(.int hi), (.int lo), (.int (8 : Int32)), (.int A8), (.int ((((((((lo + (f4 u0 (0 : Int32) lo hi u4)) + (f4 A1 (1 : Int32) lo hi u4)) + (f4 A2 (2 : Int32) lo hi u4)) + (f4 A3 (3 : Int32) lo hi u4)) + (f4 A4 (4 : Int32) lo hi u4)) + (f4 A5 (5 : Int32) lo hi u4)) + (f4 A6 (6 : Int32) lo hi u4)) + (f4 A7 (7 : Int32) lo hi u4)))]))
  refine Goes.of (fun t k => XS.iload X51.here hx rfl (hb hby at_401) rfl k) ?_
  show Goes _ _ _ _ _ _ _ (T51.setTop (mkF m 403 #[.val (.int u0), .val (.int u1), .val (.int u2), .val (.int u3), .val (.int u4), .val (.int u5), .val (.int lo), .val (.int hi), .val (.int u0), .val (.int A1), .val (.int A2), .val (.int A3), .val (.int A4), .val (.int A5), .val (.int A6), .val (.int A7), .val (.int A8), .val (.int A9), .val (.ref b23), .unset, .unset] [(.int u4), (.int hi), (.int lo), (.int (8 : Int32)), (.int A8), (.int ((((((((lo + (f4 u0 (0 : Int32) lo hi u4)) + (f4 A1 (1 : Int32) lo hi u4)) + (f4 A2 (2 : Int32) lo hi u4)) + (f4 A3 (3 : Int32) lo hi u4)) + (f4 A4 (4 : Int32) lo hi u4)) + (f4 A5 (5 : Int32) lo hi u4)) + (f4 A6 (6 : Int32) lo hi u4)) + (f4 A7 (7 : Int32) lo hi u4)))]))
  obtain ⟨_, _, ⟨T52, L52, k52, n52⟩, -, X52, ⟨Lc52, hQ52, l52, y52, z52⟩, st52⟩ := Jvm.LawKit.callS X51 hx (y := (⟨"com/example/orderly_twig/orderlytwig/engine/AscendingSearchFirstAtLeastPinLaw", "lt", "(IIIII)I"⟩ : MethodName)) hown (mvT hZ (hw _ (List.mem_of_getElem? (i := 14) rfl))) (mvT hZ (hw _ (List.mem_of_getElem? (i := 15) rfl))) (mvT hZ (hw _ (List.mem_of_getElem? (i := 3) rfl))) (mvT hZ (hw _ (List.mem_of_getElem? (i := 16) rfl))) (by decide) (backOf (W := 1) (rm4 l Z a0 hw [] A8 (8 : Int32) lo hi u4  h43 n0 ) hZ (hw _ (List.mem_of_getElem? (i := 16) rfl)) (hw _ (List.mem_of_getElem? (i := 3) rfl)) (by decide) (by decide)) (g := (mkF m 403 #[.val (.int u0), .val (.int u1), .val (.int u2), .val (.int u3), .val (.int u4), .val (.int u5), .val (.int lo), .val (.int hi), .val (.int u0), .val (.int A1), .val (.int A2), .val (.int A3), .val (.int A4), .val (.int A5), .val (.int A6), .val (.int A7), .val (.int A8), .val (.int A9), .val (.ref b23), .unset, .unset] [(.int u4), (.int hi), (.int lo), (.int (8 : Int32)), (.int A8), (.int ((((((((lo + (f4 u0 (0 : Int32) lo hi u4)) + (f4 A1 (1 : Int32) lo hi u4)) + (f4 A2 (2 : Int32) lo hi u4)) + (f4 A3 (3 : Int32) lo hi u4)) + (f4 A4 (4 : Int32) lo hi u4)) + (f4 A5 (5 : Int32) lo hi u4)) + (f4 A6 (6 : Int32) lo hi u4)) + (f4 A7 (7 : Int32) lo hi u4)))])) rfl (by rw [hml]; rfl) (argsL := [(.int A8), (.int (8 : Int32)), (.int lo), (.int hi), (.int u4)]) (rest := [(.int ((((((((lo + (f4 u0 (0 : Int32) lo hi u4)) + (f4 A1 (1 : Int32) lo hi u4)) + (f4 A2 (2 : Int32) lo hi u4)) + (f4 A3 (3 : Int32) lo hi u4)) + (f4 A4 (4 : Int32) lo hi u4)) + (f4 A5 (5 : Int32) lo hi u4)) + (f4 A6 (6 : Int32) lo hi u4)) + (f4 A7 (7 : Int32) lo hi u4)))]) (lenOf pd_2 rfl) rfl (by show 2 * 0 + _ ≤ _; exact Nat.le_of_eq rfl) (hb hby at_403) (fun _ _ => ⟨rfl, e51, (by decide : 1 + 0 ≤ _), (by decide : 10 + 0 ≤ _)⟩)
  dsimp only [Pt.U, Pt.locs, Pt.cells, Pt.slots] at X52 l52 y52 z52 st52 hQ52
  replace l52 := l52.symm
  replace y52 := y52.symm
  replace z52 := z52.symm
  subst l52 y52 z52
  obtain ⟨rfl, N52q, e52⟩ := hQ52
  have N52 := Fr.app N51 N52q
  refine Goes.of st52 ?_
  show Goes _ _ _ _ _ _ _ (T52.setTop (mkF m 406 #[.val (.int u0), .val (.int u1), .val (.int u2), .val (.int u3), .val (.int u4), .val (.int u5), .val (.int lo), .val (.int hi), .val (.int u0), .val (.int A1), .val (.int A2), .val (.int A3), .val (.int A4), .val (.int A5), .val (.int A6), .val (.int A7), .val (.int A8), .val (.int A9), .val (.ref b23), .unset, .unset] [(.int (f4 A8 (8 : Int32) lo hi u4)), (.int ((((((((lo + (f4 u0 (0 : Int32) lo hi u4)) + (f4 A1 (1 : Int32) lo hi u4)) + (f4 A2 (2 : Int32) lo hi u4)) + (f4 A3 (3 : Int32) lo hi u4)) + (f4 A4 (4 : Int32) lo hi u4)) + (f4 A5 (5 : Int32) lo hi u4)) + (f4 A6 (6 : Int32) lo hi u4)) + (f4 A7 (7 : Int32) lo hi u4)))]))
  refine Goes.of (fun t k => XS.iadd X52.here hx rfl (hb hby at_406) rfl k) ?_
  show Goes _ _ _ _ _ _ _ (T52.setTop (mkF m 407 #[.val (.int u0), .val (.int u1), .val (.int u2), .val (.int u3), .val (.int u4), .val (.int u5), .val (.int lo), .val (.int hi), .val (.int u0), .val (.int A1), .val (.int A2), .val (.int A3), .val (.int A4), .val (.int A5), .val (.int A6), .val (.int A7), .val (.int A8), .val (.int A9), .val (.ref b23), .unset, .unset] [(.int (((((((((lo + (f4 u0 (0 : Int32) lo hi u4)) + (f4 A1 (1 : Int32) lo hi u4)) + (f4 A2 (2 : Int32) lo hi u4)) + (f4 A3 (3 : Int32) lo hi u4)) + (f4 A4 (4 : Int32) lo hi u4)) + (f4 A5 (5 : Int32) lo hi u4)) + (f4 A6 (6 : Int32) lo hi u4)) + (f4 A7 (7 : Int32) lo hi u4)) + (f4 A8 (8 : Int32) lo hi u4)))]))
  refine Goes.of (fun t k => XS.iload X52.here hx rfl (hb hby at_407) rfl k) ?_
  show Goes _ _ _ _ _ _ _ (T52.setTop (mkF m 409 #[.val (.int u0), .val (.int u1), .val (.int u2), .val (.int u3), .val (.int u4), .val (.int u5), .val (.int lo), .val (.int hi), .val (.int u0), .val (.int A1), .val (.int A2), .val (.int A3), .val (.int A4), .val (.int A5), .val (.int A6), .val (.int A7), .val (.int A8), .val (.int A9), .val (.ref b23), .unset, .unset] [(.int A9), (.int (((((((((lo + (f4 u0 (0 : Int32) lo hi u4)) + (f4 A1 (1 : Int32) lo hi u4)) + (f4 A2 (2 : Int32) lo hi u4)) + (f4 A3 (3 : Int32) lo hi u4)) + (f4 A4 (4 : Int32) lo hi u4)) + (f4 A5 (5 : Int32) lo hi u4)) + (f4 A6 (6 : Int32) lo hi u4)) + (f4 A7 (7 : Int32) lo hi u4)) + (f4 A8 (8 : Int32) lo hi u4)))]))
  refine Goes.of (fun t k => XS.bipush X52.here hx rfl (hb hby at_409) k) ?_
  show Goes _ _ _ _ _ _ _ (T52.setTop (mkF m 411 #[.val (.int u0), .val (.int u1), .val (.int u2), .val (.int u3), .val (.int u4), .val (.int u5), .val (.int lo), .val (.int hi), .val (.int u0), .val (.int A1), .val (.int A2), .val (.int A3), .val (.int A4), .val (.int A5), .val (.int A6), .val (.int A7), .val (.int A8), .val (.int A9), .val (.ref b23), .unset, .unset] [(.int (9 : Int32)), (.int A9), (.int (((((((((lo + (f4 u0 (0 : Int32) lo hi u4)) + (f4 A1 (1 : Int32) lo hi u4)) + (f4 A2 (2 : Int32) lo hi u4)) + (f4 A3 (3 : Int32) lo hi u4)) + (f4 A4 (4 : Int32) lo hi u4)) + (f4 A5 (5 : Int32) lo hi u4)) + (f4 A6 (6 : Int32) lo hi u4)) + (f4 A7 (7 : Int32) lo hi u4)) + (f4 A8 (8 : Int32) lo hi u4)))]))
  refine Goes.of (fun t k => XS.iload X52.here hx rfl (hb hby at_411) rfl k) ?_
  show Goes _ _ _ _ _ _ _ (T52.setTop (mkF m 413 #[.val (.int u0), .val (.int u1), .val (.int u2), .val (.int u3), .val (.int u4), .val (.int u5), .val (.int lo), .val (.int hi), .val (.int u0), .val (.int A1), .val (.int A2), .val (.int A3), .val (.int A4), .val (.int A5), .val (.int A6), .val (.int A7), .val (.int A8), .val (.int A9), .val (.ref b23), .unset, .unset] [(.int lo), (.int (9 : Int32)), (.int A9), (.int (((((((((lo + (f4 u0 (0 : Int32) lo hi u4)) + (f4 A1 (1 : Int32) lo hi u4)) + (f4 A2 (2 : Int32) lo hi u4)) + (f4 A3 (3 : Int32) lo hi u4)) + (f4 A4 (4 : Int32) lo hi u4)) + (f4 A5 (5 : Int32) lo hi u4)) + (f4 A6 (6 : Int32) lo hi u4)) + (f4 A7 (7 : Int32) lo hi u4)) + (f4 A8 (8 : Int32) lo hi u4)))]))
  refine Goes.of (fun t k => XS.iload X52.here hx rfl (hb hby at_413) rfl k) ?_
  show Goes _ _ _ _ _ _ _ (T52.setTop (mkF m 415 #[.val (.int u0), .val (.int u1), .val (.int u2), .val (.int u3), .val (.int u4), .val (.int u5), .val (.int lo), .val (.int hi), .val (.int u0), .val (.int A1), .val (.int A2), .val (.int A3), .val (.int A4), .val (.int A5), .val (.int A6), .val (.int A7), .val (.int A8), .val (.int A9), .val (.ref b23), .unset, .unset] [(.int hi), (.int lo), (.int (9 : Int32)), (.int A9), (.int (((((((((lo + (f4 u0 (0 : Int32) lo hi u4)) + (f4 A1 (1 : Int32) lo hi u4)) + (f4 A2 (2 : Int32) lo hi u4)) + (f4 A3 (3 : Int32) lo hi u4)) + (f4 A4 (4 : Int32) lo hi u4)) + (f4 A5 (5 : Int32) lo hi u4)) + (f4 A6 (6 : Int32) lo hi u4)) + (f4 A7 (7 : Int32) lo hi u4)) + (f4 A8 (8 : Int32) lo hi u4)))]))
  refine Goes.of (fun t k => XS.iload X52.here hx rfl (hb hby at_415) rfl k) ?_
  show Goes _ _ _ _ _ _ _ (T52.setTop (mkF m 417 #[.val (.int u0), .val (.int u1), .val (.int u2), .val (.int u3), .val (.int u4), .val (.int u5), .val (.int lo), .val (.int hi), .val (.int u0), .val (.int A1), .val (.int A2), .val (.int A3), .val (.int A4), .val (.int A5), .val (.int A6), .val (.int A7), .val (.int A8), .val (.int A9), .val (.ref b23), .unset, .unset] [(.int u4), (.int hi), (.int lo), (.int (9 : Int32)), (.int A9), (.int (((((((((lo + (f4 u0 (0 : Int32) lo hi u4)) + (f4 A1 (1 : Int32) lo hi u4)) + (f4 A2 (2 : Int32) lo hi u4)) + (f4 A3 (3 : Int32) lo hi u4)) + (f4 A4 (4 : Int32) lo hi u4)) + (f4 A5 (5 : Int32) lo hi u4)) + (f4 A6 (6 : Int32) lo hi u4)) + (f4 A7 (7 : Int32) lo hi u4)) + (f4 A8 (8 : Int32) lo hi u4)))]))
  obtain ⟨_, _, ⟨T53, L53, k53, n53⟩, -, X53, ⟨Lc53, hQ53, l53, y53, z53⟩, st53⟩ := Jvm.LawKit.callS X52 hx (y := (⟨"com/example/orderly_twig/orderlytwig/engine/AscendingSearchFirstAtLeastPinLaw", "lt", "(IIIII)I"⟩ : MethodName)) hown (mvT hZ (hw _ (List.mem_of_getElem? (i := 14) rfl))) (mvT hZ (hw _ (List.mem_of_getElem? (i := 15) rfl))) (mvT hZ (hw _ (List.mem_of_getElem? (i := 3) rfl))) (mvT hZ (hw _ (List.mem_of_getElem? (i := 16) rfl))) (by decide) (backOf (W := 1) (rm4 l Z a0 hw [] A9 (9 : Int32) lo hi u4  h43 n0 ) hZ (hw _ (List.mem_of_getElem? (i := 16) rfl)) (hw _ (List.mem_of_getElem? (i := 3) rfl)) (by decide) (by decide)) (g := (mkF m 417 #[.val (.int u0), .val (.int u1), .val (.int u2), .val (.int u3), .val (.int u4), .val (.int u5), .val (.int lo), .val (.int hi), .val (.int u0), .val (.int A1), .val (.int A2), .val (.int A3), .val (.int A4), .val (.int A5), .val (.int A6), .val (.int A7), .val (.int A8), .val (.int A9), .val (.ref b23), .unset, .unset] [(.int u4), (.int hi), (.int lo), (.int (9 : Int32)), (.int A9), (.int (((((((((lo + (f4 u0 (0 : Int32) lo hi u4)) + (f4 A1 (1 : Int32) lo hi u4)) + (f4 A2 (2 : Int32) lo hi u4)) + (f4 A3 (3 : Int32) lo hi u4)) + (f4 A4 (4 : Int32) lo hi u4)) + (f4 A5 (5 : Int32) lo hi u4)) + (f4 A6 (6 : Int32) lo hi u4)) + (f4 A7 (7 : Int32) lo hi u4)) + (f4 A8 (8 : Int32) lo hi u4)))])) rfl (by rw [hml]; rfl) (argsL := [(.int A9), (.int (9 : Int32)), (.int lo), (.int hi), (.int u4)]) (rest := [(.int (((((((((lo + (f4 u0 (0 : Int32) lo hi u4)) + (f4 A1 (1 : Int32) lo hi u4)) + (f4 A2 (2 : Int32) lo hi u4)) + (f4 A3 (3 : Int32) lo hi u4)) + (f4 A4 (4 : Int32) lo hi u4)) + (f4 A5 (5 : Int32) lo hi u4)) + (f4 A6 (6 : Int32) lo hi u4)) + (f4 A7 (7 : Int32) lo hi u4)) + (f4 A8 (8 : Int32) lo hi u4)))]) (lenOf pd_2 rfl) rfl (by show 2 * 0 + _ ≤ _; exact Nat.le_of_eq rfl) (hb hby at_417) (fun _ _ => ⟨rfl, e52, (by decide : 1 + 0 ≤ _), (by decide : 10 + 0 ≤ _)⟩)
  dsimp only [Pt.U, Pt.locs, Pt.cells, Pt.slots] at X53 l53 y53 z53 st53 hQ53
  replace l53 := l53.symm
  replace y53 := y53.symm
  replace z53 := z53.symm
  subst l53 y53 z53
  obtain ⟨rfl, N53q, e53⟩ := hQ53
  have N53 := Fr.app N52 N53q
  refine Goes.of st53 ?_
  show Goes _ _ _ _ _ _ _ (T53.setTop (mkF m 420 #[.val (.int u0), .val (.int u1), .val (.int u2), .val (.int u3), .val (.int u4), .val (.int u5), .val (.int lo), .val (.int hi), .val (.int u0), .val (.int A1), .val (.int A2), .val (.int A3), .val (.int A4), .val (.int A5), .val (.int A6), .val (.int A7), .val (.int A8), .val (.int A9), .val (.ref b23), .unset, .unset] [(.int (f4 A9 (9 : Int32) lo hi u4)), (.int (((((((((lo + (f4 u0 (0 : Int32) lo hi u4)) + (f4 A1 (1 : Int32) lo hi u4)) + (f4 A2 (2 : Int32) lo hi u4)) + (f4 A3 (3 : Int32) lo hi u4)) + (f4 A4 (4 : Int32) lo hi u4)) + (f4 A5 (5 : Int32) lo hi u4)) + (f4 A6 (6 : Int32) lo hi u4)) + (f4 A7 (7 : Int32) lo hi u4)) + (f4 A8 (8 : Int32) lo hi u4)))]))
  refine Goes.of (fun t k => XS.iadd X53.here hx rfl (hb hby at_420) rfl k) ?_
  show Goes _ _ _ _ _ _ _ (T53.setTop (mkF m 421 #[.val (.int u0), .val (.int u1), .val (.int u2), .val (.int u3), .val (.int u4), .val (.int u5), .val (.int lo), .val (.int hi), .val (.int u0), .val (.int A1), .val (.int A2), .val (.int A3), .val (.int A4), .val (.int A5), .val (.int A6), .val (.int A7), .val (.int A8), .val (.int A9), .val (.ref b23), .unset, .unset] [(.int ((((((((((lo + (f4 u0 (0 : Int32) lo hi u4)) + (f4 A1 (1 : Int32) lo hi u4)) + (f4 A2 (2 : Int32) lo hi u4)) + (f4 A3 (3 : Int32) lo hi u4)) + (f4 A4 (4 : Int32) lo hi u4)) + (f4 A5 (5 : Int32) lo hi u4)) + (f4 A6 (6 : Int32) lo hi u4)) + (f4 A7 (7 : Int32) lo hi u4)) + (f4 A8 (8 : Int32) lo hi u4)) + (f4 A9 (9 : Int32) lo hi u4)))]))
  refine Goes.of (fun t k => XS.istore X53.here hx rfl (hb hby at_421) rfl (l' := #[.val (.int u0), .val (.int u1), .val (.int u2), .val (.int u3), .val (.int u4), .val (.int u5), .val (.int lo), .val (.int hi), .val (.int u0), .val (.int A1), .val (.int A2), .val (.int A3), .val (.int A4), .val (.int A5), .val (.int A6), .val (.int A7), .val (.int A8), .val (.int A9), .val (.ref b23), .val (.int ((((((((((lo + (f4 u0 (0 : Int32) lo hi u4)) + (f4 A1 (1 : Int32) lo hi u4)) + (f4 A2 (2 : Int32) lo hi u4)) + (f4 A3 (3 : Int32) lo hi u4)) + (f4 A4 (4 : Int32) lo hi u4)) + (f4 A5 (5 : Int32) lo hi u4)) + (f4 A6 (6 : Int32) lo hi u4)) + (f4 A7 (7 : Int32) lo hi u4)) + (f4 A8 (8 : Int32) lo hi u4)) + (f4 A9 (9 : Int32) lo hi u4))), .unset]) rfl k) ?_
  show Goes _ _ _ _ _ _ _ (T53.setTop (mkF m 423 #[.val (.int u0), .val (.int u1), .val (.int u2), .val (.int u3), .val (.int u4), .val (.int u5), .val (.int lo), .val (.int hi), .val (.int u0), .val (.int A1), .val (.int A2), .val (.int A3), .val (.int A4), .val (.int A5), .val (.int A6), .val (.int A7), .val (.int A8), .val (.int A9), .val (.ref b23), .val (.int ((((((((((lo + (f4 u0 (0 : Int32) lo hi u4)) + (f4 A1 (1 : Int32) lo hi u4)) + (f4 A2 (2 : Int32) lo hi u4)) + (f4 A3 (3 : Int32) lo hi u4)) + (f4 A4 (4 : Int32) lo hi u4)) + (f4 A5 (5 : Int32) lo hi u4)) + (f4 A6 (6 : Int32) lo hi u4)) + (f4 A7 (7 : Int32) lo hi u4)) + (f4 A8 (8 : Int32) lo hi u4)) + (f4 A9 (9 : Int32) lo hi u4))), .unset] []))
  obtain ⟨ex, hy_ex⟩ : ∃ z, z = ((((((((((lo + (f4 u0 (0 : Int32) lo hi u4)) + (f4 A1 (1 : Int32) lo hi u4)) + (f4 A2 (2 : Int32) lo hi u4)) + (f4 A3 (3 : Int32) lo hi u4)) + (f4 A4 (4 : Int32) lo hi u4)) + (f4 A5 (5 : Int32) lo hi u4)) + (f4 A6 (6 : Int32) lo hi u4)) + (f4 A7 (7 : Int32) lo hi u4)) + (f4 A8 (8 : Int32) lo hi u4)) + (f4 A9 (9 : Int32) lo hi u4)) := ⟨_, rfl⟩
  rw [← hy_ex]
  show Goes _ _ _ _ _ _ _ (T53.setTop (mkF m 423 #[.val (.int u0), .val (.int u1), .val (.int u2), .val (.int u3), .val (.int u4), .val (.int u5), .val (.int lo), .val (.int hi), .val (.int u0), .val (.int A1), .val (.int A2), .val (.int A3), .val (.int A4), .val (.int A5), .val (.int A6), .val (.int A7), .val (.int A8), .val (.int A9), .val (.ref b23), .val (.int ex), .unset] []))
  obtain ⟨vf, hf_vf⟩ : ∃ f : Nat → Int32, f = (upd (upd (upd (upd (upd (upd (upd (upd (upd (upd (fun _ => 0) 0 (f3 u0 (0 : Int32) lo hi u5)) 1 (f3 A1 (1 : Int32) lo hi u5)) 2 (f3 A2 (2 : Int32) lo hi u5)) 3 (f3 A3 (3 : Int32) lo hi u5)) 4 (f3 A4 (4 : Int32) lo hi u5)) 5 (f3 A5 (5 : Int32) lo hi u5)) 6 (f3 A6 (6 : Int32) lo hi u5)) 7 (f3 A7 (7 : Int32) lo hi u5)) 8 (f3 A8 (8 : Int32) lo hi u5)) 9 (f3 A9 (9 : Int32) lo hi u5)) := ⟨_, rfl⟩
  rw [← hf_vf] at V43
  have hv0 : lo.toInt ≤ ((0 : Nat) : Int) → ((0 : Nat) : Int) < hi.toInt → vf 0 = u0 := by
    intro h1 h2
    rw [← own_e0] at h1 h2
    rw [hf_vf]
    exact ((own_upd_ne (by decide)).trans ((own_upd_ne (by decide)).trans ((own_upd_ne (by decide)).trans ((own_upd_ne (by decide)).trans ((own_upd_ne (by decide)).trans ((own_upd_ne (by decide)).trans ((own_upd_ne (by decide)).trans ((own_upd_ne (by decide)).trans ((own_upd_ne (by decide)).trans own_upd_eq))))))))).trans (own_pick u0 (0 : Int32) lo hi u5 h1 h2)
  have hv1 : lo.toInt ≤ ((1 : Nat) : Int) → ((1 : Nat) : Int) < hi.toInt → vf 1 = A1 := by
    intro h1 h2
    rw [← own_e1] at h1 h2
    rw [hf_vf]
    exact ((own_upd_ne (by decide)).trans ((own_upd_ne (by decide)).trans ((own_upd_ne (by decide)).trans ((own_upd_ne (by decide)).trans ((own_upd_ne (by decide)).trans ((own_upd_ne (by decide)).trans ((own_upd_ne (by decide)).trans ((own_upd_ne (by decide)).trans own_upd_eq)))))))).trans (own_pick A1 (1 : Int32) lo hi u5 h1 h2)
  have hv2 : lo.toInt ≤ ((2 : Nat) : Int) → ((2 : Nat) : Int) < hi.toInt → vf 2 = A2 := by
    intro h1 h2
    rw [← own_e2] at h1 h2
    rw [hf_vf]
    exact ((own_upd_ne (by decide)).trans ((own_upd_ne (by decide)).trans ((own_upd_ne (by decide)).trans ((own_upd_ne (by decide)).trans ((own_upd_ne (by decide)).trans ((own_upd_ne (by decide)).trans ((own_upd_ne (by decide)).trans own_upd_eq))))))).trans (own_pick A2 (2 : Int32) lo hi u5 h1 h2)
  have hv3 : lo.toInt ≤ ((3 : Nat) : Int) → ((3 : Nat) : Int) < hi.toInt → vf 3 = A3 := by
    intro h1 h2
    rw [← own_e3] at h1 h2
    rw [hf_vf]
    exact ((own_upd_ne (by decide)).trans ((own_upd_ne (by decide)).trans ((own_upd_ne (by decide)).trans ((own_upd_ne (by decide)).trans ((own_upd_ne (by decide)).trans ((own_upd_ne (by decide)).trans own_upd_eq)))))).trans (own_pick A3 (3 : Int32) lo hi u5 h1 h2)
  have hv4 : lo.toInt ≤ ((4 : Nat) : Int) → ((4 : Nat) : Int) < hi.toInt → vf 4 = A4 := by
    intro h1 h2
    rw [← own_e4] at h1 h2
    rw [hf_vf]
    exact ((own_upd_ne (by decide)).trans ((own_upd_ne (by decide)).trans ((own_upd_ne (by decide)).trans ((own_upd_ne (by decide)).trans ((own_upd_ne (by decide)).trans own_upd_eq))))).trans (own_pick A4 (4 : Int32) lo hi u5 h1 h2)
  have hv5 : lo.toInt ≤ ((5 : Nat) : Int) → ((5 : Nat) : Int) < hi.toInt → vf 5 = A5 := by
    intro h1 h2
    rw [← own_e5] at h1 h2
    rw [hf_vf]
    exact ((own_upd_ne (by decide)).trans ((own_upd_ne (by decide)).trans ((own_upd_ne (by decide)).trans ((own_upd_ne (by decide)).trans own_upd_eq)))).trans (own_pick A5 (5 : Int32) lo hi u5 h1 h2)
  have hv6 : lo.toInt ≤ ((6 : Nat) : Int) → ((6 : Nat) : Int) < hi.toInt → vf 6 = A6 := by
    intro h1 h2
    rw [← own_e6] at h1 h2
    rw [hf_vf]
    exact ((own_upd_ne (by decide)).trans ((own_upd_ne (by decide)).trans ((own_upd_ne (by decide)).trans own_upd_eq))).trans (own_pick A6 (6 : Int32) lo hi u5 h1 h2)
  have hv7 : lo.toInt ≤ ((7 : Nat) : Int) → ((7 : Nat) : Int) < hi.toInt → vf 7 = A7 := by
    intro h1 h2
    rw [← own_e7] at h1 h2
    rw [hf_vf]
    exact ((own_upd_ne (by decide)).trans ((own_upd_ne (by decide)).trans own_upd_eq)).trans (own_pick A7 (7 : Int32) lo hi u5 h1 h2)
  have hv8 : lo.toInt ≤ ((8 : Nat) : Int) → ((8 : Nat) : Int) < hi.toInt → vf 8 = A8 := by
    intro h1 h2
    rw [← own_e8] at h1 h2
    rw [hf_vf]
    exact ((own_upd_ne (by decide)).trans own_upd_eq).trans (own_pick A8 (8 : Int32) lo hi u5 h1 h2)
  have hv9 : lo.toInt ≤ ((9 : Nat) : Int) → ((9 : Nat) : Int) < hi.toInt → vf 9 = A9 := by
    intro h1 h2
    rw [← own_e9] at h1 h2
    rw [hf_vf]
    exact own_upd_eq.trans (own_pick A9 (9 : Int32) lo hi u5 h1 h2)
  have hval : ∀ i : Nat, lo.toInt ≤ i → (i : Int) < hi.toInt → vf i = (own_tab u0 A1 A2 A3 A4 A5 A6 A7 A8 A9) i := by
    intro i h1 h2
    have ci : i = 0 ∨ i = 1 ∨ i = 2 ∨ i = 3 ∨ i = 4 ∨ i = 5 ∨ i = 6 ∨ i = 7 ∨ i = 8 ∨ i = 9 := by omega
    rcases ci with rfl | rfl | rfl | rfl | rfl | rfl | rfl | rfl | rfl | rfl
    · exact (hv0 h1 h2).trans (own_tab0 ..).symm
    · exact (hv1 h1 h2).trans (own_tab1 ..).symm
    · exact (hv2 h1 h2).trans (own_tab2 ..).symm
    · exact (hv3 h1 h2).trans (own_tab3 ..).symm
    · exact (hv4 h1 h2).trans (own_tab4 ..).symm
    · exact (hv5 h1 h2).trans (own_tab5 ..).symm
    · exact (hv6 h1 h2).trans (own_tab6 ..).symm
    · exact (hv7 h1 h2).trans (own_tab7 ..).symm
    · exact (hv8 h1 h2).trans (own_tab8 ..).symm
    · exact (hv9 h1 h2).trans (own_tab9 ..).symm
  have hasc : ∀ i j : Nat, lo.toInt ≤ i → i ≤ j → (j : Int) < hi.toInt → (vf i).toInt ≤ (vf j).toInt := by
    intro i j h1 h2 h3
    rw [hval i h1 (by omega), hval j (by omega) h3]
    exact own_mono u0 A1 A2 A3 A4 A5 A6 A7 A8 A9 m1 m2 m3 m4 m5 m6 m7 m8 m9 i j h2 (by omega)
  refine Goes.of (fun t k => XS.aload X53.here hx rfl (hb hby at_423) rfl rfl k) ?_
  show Goes _ _ _ _ _ _ _ (T53.setTop (mkF m 425 #[.val (.int u0), .val (.int u1), .val (.int u2), .val (.int u3), .val (.int u4), .val (.int u5), .val (.int lo), .val (.int hi), .val (.int u0), .val (.int A1), .val (.int A2), .val (.int A3), .val (.int A4), .val (.int A5), .val (.int A6), .val (.int A7), .val (.int A8), .val (.int A9), .val (.ref b23), .val (.int ex), .unset] [(.ref b23)]))
  refine Goes.of (fun t k => XS.iload X53.here hx rfl (hb hby at_425) rfl k) ?_
  show Goes _ _ _ _ _ _ _ (T53.setTop (mkF m 427 #[.val (.int u0), .val (.int u1), .val (.int u2), .val (.int u3), .val (.int u4), .val (.int u5), .val (.int lo), .val (.int hi), .val (.int u0), .val (.int A1), .val (.int A2), .val (.int A3), .val (.int A4), .val (.int A5), .val (.int A6), .val (.int A7), .val (.int A8), .val (.int A9), .val (.ref b23), .val (.int ex), .unset] [(.int lo), (.ref b23)]))
  refine Goes.of (fun t k => XS.iload X53.here hx rfl (hb hby at_427) rfl k) ?_
  show Goes _ _ _ _ _ _ _ (T53.setTop (mkF m 429 #[.val (.int u0), .val (.int u1), .val (.int u2), .val (.int u3), .val (.int u4), .val (.int u5), .val (.int lo), .val (.int hi), .val (.int u0), .val (.int A1), .val (.int A2), .val (.int A3), .val (.int A4), .val (.int A5), .val (.int A6), .val (.int A7), .val (.int A8), .val (.int A9), .val (.ref b23), .val (.int ex), .unset] [(.int hi), (.int lo), (.ref b23)]))
  refine Goes.of (fun t k => XS.iload X53.here hx rfl (hb hby at_429) rfl k) ?_
  show Goes _ _ _ _ _ _ _ (T53.setTop (mkF m 431 #[.val (.int u0), .val (.int u1), .val (.int u2), .val (.int u3), .val (.int u4), .val (.int u5), .val (.int lo), .val (.int hi), .val (.int u0), .val (.int A1), .val (.int A2), .val (.int A3), .val (.int A4), .val (.int A5), .val (.int A6), .val (.int A7), .val (.int A8), .val (.int A9), .val (.ref b23), .val (.int ex), .unset] [(.int u4), (.int hi), (.int lo), (.ref b23)]))
  obtain ⟨_, _, ⟨T54, L54, k54, n54⟩, -, X54, ⟨Lc54, hQ54, l54, y54, z54⟩, st54⟩ := Jvm.LawKit.callS X53 hx (y := (⟨"com/example/orderly_twig/orderlytwig/engine/AscendingSearch", "firstAtLeast", "([IIII)I"⟩ : MethodName)) hown (mvT hZ (hw _ (List.mem_of_getElem? (i := 17) rfl))) (mvT hZ (hw _ (List.mem_of_getElem? (i := 18) rfl))) (mvT hZ (hw _ (List.mem_of_getElem? (i := 19) rfl))) (mvT hZ (hw _ (List.mem_of_getElem? (i := 20) rfl))) (by decide) (backOf (W := 0) (rm5 l Z a0 hw [] b23 lo hi u4 vf h43 n0 Z43 V43 hx1.1 hx2.1 hx2.2 hasc) hZ (hw _ (List.mem_of_getElem? (i := 20) rfl)) (hw _ (List.mem_of_getElem? (i := 19) rfl)) (by decide) (by decide)) (g := (mkF m 431 #[.val (.int u0), .val (.int u1), .val (.int u2), .val (.int u3), .val (.int u4), .val (.int u5), .val (.int lo), .val (.int hi), .val (.int u0), .val (.int A1), .val (.int A2), .val (.int A3), .val (.int A4), .val (.int A5), .val (.int A6), .val (.int A7), .val (.int A8), .val (.int A9), .val (.ref b23), .val (.int ex), .unset] [(.int u4), (.int hi), (.int lo), (.ref b23)])) rfl (by rw [hml]; rfl) (argsL := [(.ref b23), (.int lo), (.int hi), (.int u4)]) (rest := []) (lenOf pd_3 rfl) rfl (by show 2 * 0 + _ ≤ _; exact Nat.le_of_eq rfl) (hb hby at_431) (fun _ _ => ⟨rfl, e53, (by decide : 1 + 0 ≤ _), (by decide : 10 + 0 ≤ _)⟩)
  dsimp only [Pt.U, Pt.locs, Pt.cells, Pt.slots] at X54 l54 y54 z54 st54 hQ54
  replace l54 := l54.symm
  replace y54 := y54.symm
  replace z54 := z54.symm
  subst l54 y54 z54
  obtain ⟨rr, rfl, N54q, e54, r1, r2, r3, r4⟩ := hQ54
  have N54 := Fr.app N53 N54q
  refine Goes.of st54 ?_
  show Goes _ _ _ _ _ _ _ (T54.setTop (mkF m 434 #[.val (.int u0), .val (.int u1), .val (.int u2), .val (.int u3), .val (.int u4), .val (.int u5), .val (.int lo), .val (.int hi), .val (.int u0), .val (.int A1), .val (.int A2), .val (.int A3), .val (.int A4), .val (.int A5), .val (.int A6), .val (.int A7), .val (.int A8), .val (.int A9), .val (.ref b23), .val (.int ex), .unset] [(.int rr)]))
  refine Goes.of (fun t k => XS.istore X54.here hx rfl (hb hby at_434) rfl (l' := #[.val (.int u0), .val (.int u1), .val (.int u2), .val (.int u3), .val (.int u4), .val (.int u5), .val (.int lo), .val (.int hi), .val (.int u0), .val (.int A1), .val (.int A2), .val (.int A3), .val (.int A4), .val (.int A5), .val (.int A6), .val (.int A7), .val (.int A8), .val (.int A9), .val (.ref b23), .val (.int ex), .val (.int rr)]) rfl k) ?_
  show Goes _ _ _ _ _ _ _ (T54.setTop (mkF m 436 #[.val (.int u0), .val (.int u1), .val (.int u2), .val (.int u3), .val (.int u4), .val (.int u5), .val (.int lo), .val (.int hi), .val (.int u0), .val (.int A1), .val (.int A2), .val (.int A3), .val (.int A4), .val (.int A5), .val (.int A6), .val (.int A7), .val (.int A8), .val (.int A9), .val (.ref b23), .val (.int ex), .val (.int rr)] []))
  have t0 := own_lt1 u0 (0 : Int32) lo hi u4 rr r1 r2 (fun a b => by rw [own_e0] at a b; have q := r3 0 a b; rw [hv0 a (Int.lt_of_lt_of_le b r2)] at q; exact q) (fun a b => by rw [own_e0] at a b; have q := r4 0 a b; rw [hv0 (Int.le_trans r1 a) b] at q; exact q)
  have t1 := own_lt1 A1 (1 : Int32) lo hi u4 rr r1 r2 (fun a b => by rw [own_e1] at a b; have q := r3 1 a b; rw [hv1 a (Int.lt_of_lt_of_le b r2)] at q; exact q) (fun a b => by rw [own_e1] at a b; have q := r4 1 a b; rw [hv1 (Int.le_trans r1 a) b] at q; exact q)
  have t2 := own_lt1 A2 (2 : Int32) lo hi u4 rr r1 r2 (fun a b => by rw [own_e2] at a b; have q := r3 2 a b; rw [hv2 a (Int.lt_of_lt_of_le b r2)] at q; exact q) (fun a b => by rw [own_e2] at a b; have q := r4 2 a b; rw [hv2 (Int.le_trans r1 a) b] at q; exact q)
  have t3 := own_lt1 A3 (3 : Int32) lo hi u4 rr r1 r2 (fun a b => by rw [own_e3] at a b; have q := r3 3 a b; rw [hv3 a (Int.lt_of_lt_of_le b r2)] at q; exact q) (fun a b => by rw [own_e3] at a b; have q := r4 3 a b; rw [hv3 (Int.le_trans r1 a) b] at q; exact q)
  have t4 := own_lt1 A4 (4 : Int32) lo hi u4 rr r1 r2 (fun a b => by rw [own_e4] at a b; have q := r3 4 a b; rw [hv4 a (Int.lt_of_lt_of_le b r2)] at q; exact q) (fun a b => by rw [own_e4] at a b; have q := r4 4 a b; rw [hv4 (Int.le_trans r1 a) b] at q; exact q)
  have t5 := own_lt1 A5 (5 : Int32) lo hi u4 rr r1 r2 (fun a b => by rw [own_e5] at a b; have q := r3 5 a b; rw [hv5 a (Int.lt_of_lt_of_le b r2)] at q; exact q) (fun a b => by rw [own_e5] at a b; have q := r4 5 a b; rw [hv5 (Int.le_trans r1 a) b] at q; exact q)
  have t6 := own_lt1 A6 (6 : Int32) lo hi u4 rr r1 r2 (fun a b => by rw [own_e6] at a b; have q := r3 6 a b; rw [hv6 a (Int.lt_of_lt_of_le b r2)] at q; exact q) (fun a b => by rw [own_e6] at a b; have q := r4 6 a b; rw [hv6 (Int.le_trans r1 a) b] at q; exact q)
  have t7 := own_lt1 A7 (7 : Int32) lo hi u4 rr r1 r2 (fun a b => by rw [own_e7] at a b; have q := r3 7 a b; rw [hv7 a (Int.lt_of_lt_of_le b r2)] at q; exact q) (fun a b => by rw [own_e7] at a b; have q := r4 7 a b; rw [hv7 (Int.le_trans r1 a) b] at q; exact q)
  have t8 := own_lt1 A8 (8 : Int32) lo hi u4 rr r1 r2 (fun a b => by rw [own_e8] at a b; have q := r3 8 a b; rw [hv8 a (Int.lt_of_lt_of_le b r2)] at q; exact q) (fun a b => by rw [own_e8] at a b; have q := r4 8 a b; rw [hv8 (Int.le_trans r1 a) b] at q; exact q)
  have t9 := own_lt1 A9 (9 : Int32) lo hi u4 rr r1 r2 (fun a b => by rw [own_e9] at a b; have q := r3 9 a b; rw [hv9 a (Int.lt_of_lt_of_le b r2)] at q; exact q) (fun a b => by rw [own_e9] at a b; have q := r4 9 a b; rw [hv9 (Int.le_trans r1 a) b] at q; exact q)
  have heq : rr = ex := by
    apply Int32.toInt_inj.mp
    rw [hy_ex]
    exact own_sum _ _ _ _ _ _ _ _ _ _ _ _ hx1.1 r1 (by omega) t0 t1 t2 t3 t4 t5 t6 t7 t8 t9
  refine Goes.of (fun t k => XS.iload X54.here hx rfl (hb hby at_436) rfl k) ?_
  show Goes _ _ _ _ _ _ _ (T54.setTop (mkF m 438 #[.val (.int u0), .val (.int u1), .val (.int u2), .val (.int u3), .val (.int u4), .val (.int u5), .val (.int lo), .val (.int hi), .val (.int u0), .val (.int A1), .val (.int A2), .val (.int A3), .val (.int A4), .val (.int A5), .val (.int A6), .val (.int A7), .val (.int A8), .val (.int A9), .val (.ref b23), .val (.int ex), .val (.int rr)] [(.int rr)]))
  refine Goes.of (fun t k => XS.iload X54.here hx rfl (hb hby at_438) rfl k) ?_
  show Goes _ _ _ _ _ _ _ (T54.setTop (mkF m 440 #[.val (.int u0), .val (.int u1), .val (.int u2), .val (.int u3), .val (.int u4), .val (.int u5), .val (.int lo), .val (.int hi), .val (.int u0), .val (.int A1), .val (.int A2), .val (.int A3), .val (.int A4), .val (.int A5), .val (.int A6), .val (.int A7), .val (.int A8), .val (.int A9), .val (.ref b23), .val (.int ex), .val (.int rr)] [(.int ex), (.int rr)]))
  refine Goes.of (fun t k => XS.icmpNo X54.here hx rfl (hb hby at_440) rfl (teq heq).2 k) ?_
  show Goes _ _ _ _ _ _ _ (T54.setTop (mkF m 443 #[.val (.int u0), .val (.int u1), .val (.int u2), .val (.int u3), .val (.int u4), .val (.int u5), .val (.int lo), .val (.int hi), .val (.int u0), .val (.int A1), .val (.int A2), .val (.int A3), .val (.int A4), .val (.int A5), .val (.int A6), .val (.int A7), .val (.int A8), .val (.int A9), .val (.ref b23), .val (.int ex), .val (.int rr)] []))
  refine Goes.of (fun t k => XS.iconst X54.here hx rfl (hb hby at_443) k) ?_
  show Goes _ _ _ _ _ _ _ (T54.setTop (mkF m 444 #[.val (.int u0), .val (.int u1), .val (.int u2), .val (.int u3), .val (.int u4), .val (.int u5), .val (.int lo), .val (.int hi), .val (.int u0), .val (.int A1), .val (.int A2), .val (.int A3), .val (.int A4), .val (.int A5), .val (.int A6), .val (.int A7), .val (.int A8), .val (.int A9), .val (.ref b23), .val (.int ex), .val (.int rr)] [(.int (1 : Int32))]))
  refine Goes.of (fun t k => XS.goto X54.here hx rfl (pc0 := 444) (pc' := 448) rfl (hb hby at_444) (by decide) (by decide) k) ?_
  show Goes _ _ _ _ _ _ _ (T54.setTop (mkF m 448 #[.val (.int u0), .val (.int u1), .val (.int u2), .val (.int u3), .val (.int u4), .val (.int u5), .val (.int lo), .val (.int hi), .val (.int u0), .val (.int A1), .val (.int A2), .val (.int A3), .val (.int A4), .val (.int A5), .val (.int A6), .val (.int A7), .val (.int A8), .val (.int A9), .val (.ref b23), .val (.int ex), .val (.int rr)] [(.int (1 : Int32))]))
  exact Goes.fin X54 hlk (v := some (.int (1 : Int32))) (fun h => by rw [Bd.returns] at h; cases h) (fun fs hr => retN X54 hx (t := .boolean) Bd.returns (by simp) (hb hby at_448) hr) ⟨rfl, N54⟩ (by decide) (by decide)
set_option maxRecDepth 65536 in
set_option maxHeartbeats 40000000 in
theorem comes_1 {Post : Tables → Env → Array Value → State → Outcome → State → Prop} (hpost : ∀ tb e args s v u, (limb_1_1.after args s (.returned v) u = true ∧ limb_1_2.after args s (.returned v) u = true ∧ True) → FrameEnd s (.returned v) u (Jvm.fieldLocs frame_1_writes args s ++ Jvm.arrayLocs frame_1_arrays args s ++ Jvm.staticLocs frame_1_statics s) 16 128 → Post tb e args s (.returned v) u) :
    ArmFor flags0 classFile x code maxLocals ret World_1 tables_1 room_1 Calls_1 rest_1 Pre_1 Post := by
  intro l hfl _ _ p e ha hc hk s m args below hf hA hF happ hP
  obtain ⟨hcalls, hrest, hpre⟩ := hP
  obtain ⟨-, -, -, hnamed, -, -, -, hat⟩ := (Spec.applies_iff hf).mp happ
  obtain ⟨hg, hn⟩ := and_e (Cond.before_iff.mp (show (Jvm.Cond.and given_1 narrow_1).before args s = true from hpre))
  obtain ⟨g55, g56⟩ := and_e hg
  obtain ⟨g57, g58⟩ := and_e g56
  obtain ⟨g59, g60⟩ := and_e g58
  obtain ⟨g61, g62⟩ := and_e g60
  obtain ⟨g63, g64⟩ := and_e g62
  obtain ⟨g65, g66⟩ := and_e g64
  obtain ⟨w0, w1, w2, w3, w4, w5, rfl⟩ : ∃ w0 w1 w2 w3 w4 w5 : Value, args = #[w0, w1, w2, w3, w4, w5] := by
    have hs : args.size = 6 := by simpa [Cond.value, given_1] using g55
    obtain ⟨L⟩ := args
    match L, hs with
    | [w0, w1, w2, w3, w4, w5], _ => exact ⟨w0, w1, w2, w3, w4, w5, rfl⟩
  have hw := fun d (hd : d ∈ tables_1) => atoms_spec (ws := Jvm.Cond.code x code maxLocals ret :: tables_1) hat d (List.mem_cons_of_mem _ hd)
  obtain ⟨i0, ei0⟩ := is_v g57
  obtain rfl : w0 = (.int i0) := Option.some.inj ei0
  obtain ⟨i1, ei1⟩ := is_v g59
  obtain rfl : w1 = (.int i1) := Option.some.inj ei1
  obtain ⟨i2, ei2⟩ := is_v g61
  obtain rfl : w2 = (.int i2) := Option.some.inj ei2
  obtain ⟨i3, ei3⟩ := is_v g63
  obtain rfl : w3 = (.int i3) := Option.some.inj ei3
  obtain ⟨i4, ei4⟩ := is_v g65
  obtain rfl : w4 = (.int i4) := Option.some.inj ei4
  obtain ⟨i5, ei5⟩ := is_v g66
  obtain rfl : w5 = (.int i5) := Option.some.inj ei5
  obtain ⟨n, o, h1, h2, h3, _, L, rfl, ⟨rfl, N⟩, hq⟩ := rm0 l s _ hw tables_1 i0 i1 i2 i3 i4 i5 s.heap s.heap.size (Nat.le_refl _) p e ha hc hk s m _ below hf ((Spec.applies_iff_loose hf).mp happ).1 ⟨rfl, State.Warmed39.refl s, rfl⟩ trivial
  exact ⟨n, _, h1, h2, h3, hpost _ _ _ _ _ _ ⟨Cond.after_iff.mpr rfl, Cond.after_iff.mpr (eq_i res_at (Term.int_eval (1)) rfl), trivial⟩ ⟨hq.1, hq.2.1, (hq.2.2.sift fun y hy => Or.inr (N y hy)).mono (by decide) (by decide)⟩⟩
theorem main_1_1 : Claimed_1_1 := comes_1 fun _ _ _ _ _ _ h hF => ⟨h.1, hF⟩
theorem main_1_2 : Claimed_1_2 := comes_1 fun _ _ _ _ _ _ h hF => ⟨h.2.1, hF⟩
end Jvm.Pilot.@@N@@
namespace Jvm.Pilot.@@N@@
open Jvm Jvm.ClassFile Sem Op Lib Jvm.Free Jvm.Stand Jvm.Pilot.@@N@@.Jvm.D
/-! MADE BY PROGRAM (witnessworld.py) out of the Statement's table words and the real class files: 10 classes; the members and pool entries that the words name. The judged class is class 1, her method 4. -/
namespace start1
open Jvm.ClassFile
def u (s : String) : CpInfo := .utf8 (stringToUtf16 s)
/-- a pool by its gaps: so many unusable entries, then the entry; so many at the end -/
def gap : Nat → List CpInfo → List CpInfo
  | 0, r => r
  | n + 1, r => .unusable :: gap n r
def poolList (es : List (Nat × CpInfo)) (last : Nat) : List CpInfo := es.foldr (fun e r => gap e.1 (e.2 :: r)) (gap last [])
def pool (es : List (Nat × CpInfo)) (last : Nat) : Array CpInfo := ⟨poolList es last⟩
def fileOf (pool : Array CpInfo) (this : Nat) (attrs : Array Attribute := #[]) (ms : Array MethodInfo := #[]) (fl : Nat := 33) (sup : Nat := 0) (ifs : Array Nat := #[]) (fds : Array FieldInfo := #[]) : ClassFile where
  minorVersion := 0
  majorVersion := 65
  constantPool := pool
  accessFlags := fl
  thisClass := this
  superClass := sup
  interfaces := ifs
  fields := fds
  methods := ms
  attributes := attrs
def plain (name : String) (sup : Option ClassId) : Class where
  name := name
  kind := .ordinary
  loader := none
  accessFlags := 33
  super := sup
  interfaces := #[]
  cf := none
  fields := #[]
  methods := #[]
  instanceTypes := #[]
  staticTypes := #[]
  resolved := #[]
  callSites := []
  init := .initialized
  statics := none
  mirror := none

def pool0 : Array CpInfo := pool [(5, u "<init>"), (0, u "()V"), (1, .class_ 10), (1, u "java/lang/Object")] 113

def k0m0 : Method := { name := "<init>", desc := "()V", sig := { parameters := [], returnType := none }, accessFlags := 1, code := none }
/-- java/lang/Object -/
def k0 : Class := { plain "java/lang/Object" none with
  accessFlags := 33
  interfaces := #[]
  cf := some (fileOf pool0 8 #[] #[{ accessFlags := 1, nameIndex := 5, descriptorIndex := 6, attributes := #[] }] 33 0 #[] #[])
  fields := #[]
  methods := #[k0m0]
  instanceTypes := #[]
  staticTypes := #[]
  resolved := Array.replicate 124 none
  statics := none }

def pool1 : Array CpInfo := pool [(2, .class_ 4), (1, u "java/lang/Object"), (0, u "<init>"), (0, u "()V"), (2, .long 2147483647), (1, .methodref 12 13), (0, .class_ 14), (0, .nameAndType 15 16), (0, u "java/lang/Math"), (0, u "min"), (0, u "(JJ)J"), (0, .integer 2147483647), (0, .methodref 19 20), (0, .class_ 21), (0, .nameAndType 22 23), (0, u "com/example/orderly_twig/orderlytwig/engine/AscendingSearchFirstAtLeastPinLaw"), (0, u "next"), (0, u "(III)I"), (0, .methodref 19 25), (0, .nameAndType 26 27), (0, u "pick"), (0, u "(IIIII)I"), (0, .methodref 19 29), (0, .nameAndType 30 27), (0, u "lt"), (0, .methodref 32 33), (0, .class_ 34), (0, .nameAndType 35 36), (0, u "com/example/orderly_twig/orderlytwig/engine/AscendingSearch"), (0, u "firstAtLeast"), (0, u "([IIII)I"), (3, u "law"), (0, u "(IIIIII)Z")] 4

def k1m0 : Method := { name := "<init>", desc := "()V", sig := { parameters := [], returnType := none }, accessFlags := 2, code := none }
def k1c1 : Code := { maxStack := 5, maxLocals := 5, code := method_2_code, exceptionTable := #[], attributes := #[] }
def k1m1 : Method := { name := "next", desc := "(III)I", sig := { parameters := [.int, .int, .int], returnType := some .int }, accessFlags := 10, code := some k1c1 }
def k1c2 : Code := { maxStack := 2, maxLocals := 5, code := method_3_code, exceptionTable := #[], attributes := #[] }
def k1m2 : Method := { name := "pick", desc := "(IIIII)I", sig := { parameters := [.int, .int, .int, .int, .int], returnType := some .int }, accessFlags := 10, code := some k1c2 }
def k1c3 : Code := { maxStack := 2, maxLocals := 5, code := method_4_code, exceptionTable := #[], attributes := #[] }
def k1m3 : Method := { name := "lt", desc := "(IIIII)I", sig := { parameters := [.int, .int, .int, .int, .int], returnType := some .int }, accessFlags := 10, code := some k1c3 }
def k1c4 : Code := { maxStack := 7, maxLocals := 21, code := code, exceptionTable := #[], attributes := #[] }
def k1m4 : Method := { name := "law", desc := "(IIIIII)Z", sig := { parameters := [.int, .int, .int, .int, .int, .int], returnType := some .boolean }, accessFlags := 9, code := some k1c4 }
/-- com/example/orderly_twig/orderlytwig/engine/AscendingSearchFirstAtLeastPinLaw -/
def k1 : Class := { plain "com/example/orderly_twig/orderlytwig/engine/AscendingSearchFirstAtLeastPinLaw" (some 0) with
  accessFlags := 49
  interfaces := #[]
  cf := some (fileOf pool1 19 #[] #[{ accessFlags := 2, nameIndex := 5, descriptorIndex := 6, attributes := #[] }, { accessFlags := 10, nameIndex := 22, descriptorIndex := 23, attributes := #[] }, { accessFlags := 10, nameIndex := 26, descriptorIndex := 27, attributes := #[] }, { accessFlags := 10, nameIndex := 30, descriptorIndex := 27, attributes := #[] }, { accessFlags := 9, nameIndex := 40, descriptorIndex := 41, attributes := #[] }] 49 2 #[] #[])
  fields := #[]
  methods := #[k1m0, k1m1, k1m2, k1m3, k1m4]
  instanceTypes := #[]
  staticTypes := #[]
  resolved := Array.replicate 46 none
  statics := none }

def pool2 : Array CpInfo := pool [(1, .class_ 2), (0, u "java/lang/Math"), (1, .class_ 6), (1, u "java/lang/Object"), (0, u "<init>"), (0, u "()V"), (89, .class_ 100), (1, u "java/lang/Math$RandomNumberGeneratorHolder"), (20, u "(JJ)J"), (50, u "negativeZeroFloatBits"), (0, u "J"), (2, u "negativeZeroDoubleBits"), (24, u "min"), (43, u "$assertionsDisabled"), (0, u "Z"), (91, u "twoToTheDoubleScaleDown"), (0, u "D"), (4, u "twoToTheDoubleScaleUp"), (9, u "E"), (3, u "PI"), (2, u "TAU"), (2, u "DEGREES_TO_RADIANS"), (0, u "RADIANS_TO_DEGREES")] 94

def k2m0 : Method := { name := "<init>", desc := "()V", sig := { parameters := [], returnType := none }, accessFlags := 2, code := none }
def k2c1 : Code := { maxStack := 4, maxLocals := 4, code := jdk_29_method_70_code, exceptionTable := #[], attributes := #[] }
def k2m1 : Method := { name := "min", desc := "(JJ)J", sig := { parameters := [.long, .long], returnType := some .long }, accessFlags := 9, code := some k2c1 }
/-- java/lang/Math -/
def k2 : Class := { plain "java/lang/Math" (some 0) with
  accessFlags := 49
  interfaces := #[]
  cf := some (fileOf pool2 1 #[.nestMembers #[98]] #[{ accessFlags := 2, nameIndex := 7, descriptorIndex := 8, attributes := #[] }, { accessFlags := 9, nameIndex := 201, descriptorIndex := 121, attributes := #[] }] 49 4 #[] #[{ accessFlags := 25, nameIndex := 354, descriptorIndex := 339, attributes := #[] }, { accessFlags := 25, nameIndex := 358, descriptorIndex := 339, attributes := #[] }, { accessFlags := 25, nameIndex := 361, descriptorIndex := 339, attributes := #[] }, { accessFlags := 26, nameIndex := 364, descriptorIndex := 339, attributes := #[] }, { accessFlags := 26, nameIndex := 365, descriptorIndex := 339, attributes := #[] }, { accessFlags := 26, nameIndex := 172, descriptorIndex := 173, attributes := #[] }, { accessFlags := 26, nameIndex := 176, descriptorIndex := 173, attributes := #[] }, { accessFlags := 8, nameIndex := 344, descriptorIndex := 339, attributes := #[] }, { accessFlags := 8, nameIndex := 338, descriptorIndex := 339, attributes := #[] }, { accessFlags := 4120, nameIndex := 245, descriptorIndex := 246, attributes := #[] }])
  fields := #[{ name := "E", type := .double, accessFlags := 25, slot := 0, constantValue := 0 }, { name := "PI", type := .double, accessFlags := 25, slot := 1, constantValue := 0 }, { name := "TAU", type := .double, accessFlags := 25, slot := 2, constantValue := 0 }, { name := "DEGREES_TO_RADIANS", type := .double, accessFlags := 26, slot := 3, constantValue := 0 }, { name := "RADIANS_TO_DEGREES", type := .double, accessFlags := 26, slot := 4, constantValue := 0 }, { name := "negativeZeroFloatBits", type := .long, accessFlags := 26, slot := 5, constantValue := 0 }, { name := "negativeZeroDoubleBits", type := .long, accessFlags := 26, slot := 6, constantValue := 0 }, { name := "twoToTheDoubleScaleUp", type := .double, accessFlags := 8, slot := 7, constantValue := 0 }, { name := "twoToTheDoubleScaleDown", type := .double, accessFlags := 8, slot := 8, constantValue := 0 }, { name := "$assertionsDisabled", type := .boolean, accessFlags := 4120, slot := 9, constantValue := 0 }]
  methods := #[k2m0, k2m1]
  instanceTypes := #[]
  staticTypes := #[.double, .double, .double, .double, .double, .long, .long, .double, .double, .boolean]
  resolved := Array.replicate 460 none
  statics := none }

def pool3 : Array CpInfo := pool [(2, .class_ 4), (1, u "java/lang/Object"), (0, u "<init>"), (0, u "()V"), (0, .class_ 8), (0, u "com/example/orderly_twig/orderlytwig/engine/AscendingSearch"), (2, u "firstAtLeast"), (0, u "([IIII)I")] 3

def k3m0 : Method := { name := "<init>", desc := "()V", sig := { parameters := [], returnType := none }, accessFlags := 2, code := none }
def k3c1 : Code := { maxStack := 2, maxLocals := 8, code := prog_3_method_2_code, exceptionTable := #[], attributes := #[] }
def k3m1 : Method := { name := "firstAtLeast", desc := "([IIII)I", sig := { parameters := [(.array .int), .int, .int, .int], returnType := some .int }, accessFlags := 8, code := some k3c1 }
/-- com/example/orderly_twig/orderlytwig/engine/AscendingSearch -/
def k3 : Class := { plain "com/example/orderly_twig/orderlytwig/engine/AscendingSearch" (some 0) with
  accessFlags := 48
  interfaces := #[]
  cf := some (fileOf pool3 7 #[] #[{ accessFlags := 2, nameIndex := 5, descriptorIndex := 6, attributes := #[] }, { accessFlags := 8, nameIndex := 11, descriptorIndex := 12, attributes := #[] }] 48 2 #[] #[])
  fields := #[]
  methods := #[k3m0, k3m1]
  instanceTypes := #[]
  staticTypes := #[]
  resolved := Array.replicate 16 none
  statics := none }

def pool4 : Array CpInfo := pool [(1, u "java/lang/Cloneable"), (0, .class_ 1), (0, u "java/lang/Object"), (0, .class_ 3)] 3

/-- java/lang/Cloneable -/
def k4 : Class := { plain "java/lang/Cloneable" (some 0) with
  accessFlags := 1537
  interfaces := #[]
  cf := some (fileOf pool4 2 #[] #[] 1537 4 #[] #[])
  fields := #[]
  methods := #[]
  instanceTypes := #[]
  staticTypes := #[]
  resolved := Array.replicate 8 none
  statics := none }

def pool5 : Array CpInfo := pool [(1, u "java/io/Serializable"), (0, .class_ 1), (0, u "java/lang/Object"), (0, .class_ 3)] 3

/-- java/io/Serializable -/
def k5 : Class := { plain "java/io/Serializable" (some 0) with
  accessFlags := 1537
  interfaces := #[]
  cf := some (fileOf pool5 2 #[] #[] 1537 4 #[] #[])
  fields := #[]
  methods := #[]
  instanceTypes := #[]
  staticTypes := #[]
  resolved := Array.replicate 8 none
  statics := none }

/-- the primitive byte -/
def k6 : Class := { plain "byte" none with kind := .primitive 'B', accessFlags := 0x411 }
/-- [B -/
def k7 : Class := { plain "[B" (some 0) with kind := .array 6 .byte, interfaces := #[4, 5], accessFlags := 1041 }

/-- the primitive int -/
def k8 : Class := { plain "int" none with kind := .primitive 'I', accessFlags := 0x411 }
/-- [I -/
def k9 : Class := { plain "[I" (some 0) with kind := .array 8 .int, interfaces := #[4, 5], accessFlags := 1041 }

def heap : Heap := #[]
def classes : Array Class := #[k0, k1, k2, k3, k4, k5, k6, k7, k8, k9]
def interned : List (Array UInt16 × Addr) := []
def slotsUsed : Nat := 0
def theMethod : MethodId := ⟨1, 4⟩
def args0 : Array Value := #[.int 5, .int 7, .int 3, .int 4, .int 6, .int 9]
def aboutOver (below : List Frame) : State where
  vm := { classes := classes, interned := interned.toArray }
  heap := heap
  slotsUsed := slotsUsed
  threads := #[{ frames := .invoking theMethod args0 :: below }]
def below0 : List Frame := [.native { method := ⟨0, 0⟩, args := #[] }]
def about1 : State := aboutOver below0
def p0 : Program := .bare "" "" ""
def e0 : Env := launch0.env 0 0 0
theorem w_frames : about1.frames = Frame.invoking theMethod args0 :: below0 := rfl
set_option maxRecDepth 65536 in
theorem w_args : argsFit about1.vm theMethod args0 = true := by decide +kernel
set_option maxRecDepth 65536 in
theorem w_heap : heapFits about1 = true := by decide +kernel
set_option maxRecDepth 65536 in
theorem w_runnable : about1.curStatus? = some .runnable := by decide +kernel
set_option maxRecDepth 65536 in
theorem w_alone : about1.alone = true := by decide +kernel
set_option maxRecDepth 65536 in
theorem w_named : about1.methodNamed? x = some theMethod := by decide +kernel
set_option maxRecDepth 65536 in
theorem w_hears : about1.hears theMethod below0 = true := by decide +kernel
set_option maxRecDepth 65536 in
theorem w_ripe : about1.ripe theMethod args0 below0 = true := by decide +kernel
theorem w_running : about1.status = .running := rfl
set_option maxRecDepth 65536 in
theorem w_room : about1.hasRoom e0.platform room_1 = true :=
  launch0.hasRoom_least _ room_1 (by decide +kernel) (by decide +kernel) (by decide +kernel) (by decide +kernel) (by decide +kernel) (by decide +kernel)
theorem allAtoms_all (ts : List Jvm.Cond) (a : Array Jvm.Value) (st : Jvm.State) : (allAtoms ts).before a st = ts.all (fun c => c.before a st) := by
  induction ts with
  | nil => rfl
  | cons c t ih =>
    show (Jvm.Cond.and c (allAtoms t)).before a st = _
    rw [Jvm.Cond.before_and, ih, List.all_cons]
def words1 : List Jvm.Cond := Jvm.Cond.code x code maxLocals ret :: tables_1
/-- a 'code' word, met by the world's own term for the bytes: nothing is compared byte by byte -/
theorem code_word {y : MethodName} {bytes : ByteArray} {mx : Nat} {rt : Option FieldType} {a : Array Value} {s : State} {m : MethodId} {meth : Method} {c : Code} (h1 : s.methodNamed? y = some m) (h2 : s.vm.method? m = some meth) (h3 : meth.code = some c) (h4 : c.code = bytes)
    (h5 : (c.maxLocals == mx && c.exceptionTable.isEmpty && decide (c.maxStack ≤ mostOperands) && decide (meth.sig.returnType = rt) && !meth.locks && decide (parseMethodDescriptor y.desc = some meth.sig)) = true) : (Jvm.Cond.code y bytes mx rt).before a s = true := by
  simp only [Bool.and_eq_true, beq_iff_eq, Bool.not_eq_true', decide_eq_true_eq] at h5
  obtain ⟨⟨⟨⟨⟨g1, g2⟩, g3⟩, g4⟩, g5⟩, g6⟩ := h5
  simp [Cond.before, Cond.holds, Cond.value, h1, h2, h3, h4, g1, g2, g3, g4, g5, g6]
def isCode : Jvm.Cond → Bool
  | .code _ _ _ _ => true
  | _ => false
theorem all_split {L : List Jvm.Cond} {P : Jvm.Cond → Bool} (h1 : L.all (fun c => isCode c || P c) = true) (h2 : ∀ c ∈ L.filter isCode, P c = true) : L.all P = true := by
  refine List.all_eq_true.mpr fun c hc => ?_
  have h := List.all_eq_true.mp h1 c hc
  rcases Bool.eq_false_or_eq_true (isCode c) with hi | hi
  · exact h2 c (List.mem_filter.mpr ⟨hc, hi⟩)
  · simpa [hi] using h
set_option maxRecDepth 65536 in
theorem w_c0 : (Jvm.Cond.code x code maxLocals ret).before args0 about1 = true := code_word (m := ⟨1, 4⟩) (meth := k1m4) (c := k1c4) (by decide +kernel) rfl rfl rfl (by decide +kernel)
set_option maxRecDepth 65536 in
theorem w_c1 : (Jvm.Cond.code ({ cls := "com/example/orderly_twig/orderlytwig/engine/AscendingSearchFirstAtLeastPinLaw", name := "next", desc := "(III)I" } : Jvm.MethodName) method_2_code (5 : Nat) (Option.some Jvm.ClassFile.FieldType.int)).before args0 about1 = true := code_word (m := ⟨1, 1⟩) (meth := k1m1) (c := k1c1) (by decide +kernel) rfl rfl rfl (by decide +kernel)
set_option maxRecDepth 65536 in
theorem w_c2 : (Jvm.Cond.code ({ cls := "java/lang/Math", name := "min", desc := "(JJ)J" } : Jvm.MethodName) jdk_29_method_70_code (4 : Nat) (Option.some Jvm.ClassFile.FieldType.long)).before args0 about1 = true := code_word (m := ⟨2, 1⟩) (meth := k2m1) (c := k2c1) (by decide +kernel) rfl rfl rfl (by decide +kernel)
set_option maxRecDepth 65536 in
theorem w_c3 : (Jvm.Cond.code ({ cls := "com/example/orderly_twig/orderlytwig/engine/AscendingSearchFirstAtLeastPinLaw", name := "pick", desc := "(IIIII)I" } : Jvm.MethodName) method_3_code (5 : Nat) (Option.some Jvm.ClassFile.FieldType.int)).before args0 about1 = true := code_word (m := ⟨1, 2⟩) (meth := k1m2) (c := k1c2) (by decide +kernel) rfl rfl rfl (by decide +kernel)
set_option maxRecDepth 65536 in
theorem w_c4 : (Jvm.Cond.code ({ cls := "com/example/orderly_twig/orderlytwig/engine/AscendingSearchFirstAtLeastPinLaw", name := "lt", desc := "(IIIII)I" } : Jvm.MethodName) method_4_code (5 : Nat) (Option.some Jvm.ClassFile.FieldType.int)).before args0 about1 = true := code_word (m := ⟨1, 3⟩) (meth := k1m3) (c := k1c3) (by decide +kernel) rfl rfl rfl (by decide +kernel)
set_option maxRecDepth 65536 in
theorem w_c5 : (Jvm.Cond.code ({ cls := "com/example/orderly_twig/orderlytwig/engine/AscendingSearch", name := "firstAtLeast", desc := "([IIII)I" } : Jvm.MethodName) prog_3_method_2_code (8 : Nat) (Option.some Jvm.ClassFile.FieldType.int)).before args0 about1 = true := code_word (m := ⟨3, 1⟩) (meth := k3m1) (c := k3c1) (by decide +kernel) rfl rfl rfl (by decide +kernel)
def codes1 : List Jvm.Cond := [Jvm.Cond.code x code maxLocals ret, Jvm.Cond.code ({ cls := "com/example/orderly_twig/orderlytwig/engine/AscendingSearchFirstAtLeastPinLaw", name := "next", desc := "(III)I" } : Jvm.MethodName) method_2_code (5 : Nat) (Option.some Jvm.ClassFile.FieldType.int), Jvm.Cond.code ({ cls := "java/lang/Math", name := "min", desc := "(JJ)J" } : Jvm.MethodName) jdk_29_method_70_code (4 : Nat) (Option.some Jvm.ClassFile.FieldType.long), Jvm.Cond.code ({ cls := "com/example/orderly_twig/orderlytwig/engine/AscendingSearchFirstAtLeastPinLaw", name := "pick", desc := "(IIIII)I" } : Jvm.MethodName) method_3_code (5 : Nat) (Option.some Jvm.ClassFile.FieldType.int), Jvm.Cond.code ({ cls := "com/example/orderly_twig/orderlytwig/engine/AscendingSearchFirstAtLeastPinLaw", name := "lt", desc := "(IIIII)I" } : Jvm.MethodName) method_4_code (5 : Nat) (Option.some Jvm.ClassFile.FieldType.int), Jvm.Cond.code ({ cls := "com/example/orderly_twig/orderlytwig/engine/AscendingSearch", name := "firstAtLeast", desc := "([IIII)I" } : Jvm.MethodName) prog_3_method_2_code (8 : Nat) (Option.some Jvm.ClassFile.FieldType.int)]
set_option maxRecDepth 65536 in
theorem codes_eq : words1.filter isCode = codes1 := rfl
theorem w_codes : ∀ c ∈ words1.filter isCode, c.before args0 about1 = true := by
  rw [codes_eq]
  intro c hc
  simp only [codes1, List.mem_cons, List.not_mem_nil, or_false] at hc
  rcases hc with rfl | rfl | rfl | rfl | rfl | rfl
  · exact w_c0
  · exact w_c1
  · exact w_c2
  · exact w_c3
  · exact w_c4
  · exact w_c5
set_option maxRecDepth 65536 in
theorem w_t1 : words1.all (fun c => isCode c || c.before args0 about1) = true := by decide +kernel
theorem w_tables : (allAtoms (Jvm.Cond.code x code maxLocals ret :: tables_1)).before args0 about1 = true := by
  rw [allAtoms_all]
  show words1.all (fun c => c.before args0 about1) = true
  refine all_split ?_ w_codes
  rw [w_t1]
set_option maxRecDepth 65536 in
theorem w_case : (Jvm.Cond.and given_1 narrow_1).before args0 about1 = true := by decide +kernel
theorem w_applies : (headSpec (Jvm.Cond.code x code maxLocals ret :: tables_1) room_1).applies x e0.platform about1 = true :=
  (Spec.applies_iff w_frames).mpr ⟨w_running, w_runnable, w_alone, w_named, w_hears, w_ripe, w_room, w_tables⟩
theorem atStart : AtStart classFile x code maxLocals ret World_1 tables_1 room_1 Calls_1 rest_1 Pre_1 launch0 p0 e0 about1 theMethod args0 below0 :=
  ⟨lists_1, trivial, launch0.admits_env _ _ _, launch0.least_env, fairChoices_fair.cas, fairChoices_fair.clock, w_frames, w_args, w_heap, w_applies, trivial, trivial, w_case⟩
end start1
theorem witness_1 : WitnessClaimed_1 := ⟨start1.p0, start1.e0, start1.about1, start1.theMethod, start1.args0, start1.below0, start1.atStart⟩
end Jvm.Pilot.@@N@@
