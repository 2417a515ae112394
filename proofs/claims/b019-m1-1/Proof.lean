import JvmDerived
import JvmDerived.Pilot.@@N@@Statement
import JvmDerived.Pilot.@@N@@Code
set_option linter.unusedVariables false
set_option linter.unusedSimpArgs false
namespace Jvm.RoadKit
open Sem ClassFile Op Lib Jvm.Stand Jvm.Free Jvm.LawKit
section New
variable {p : Program} {l : Launch} {e : Env} {R : Room} {s : State} {m : MethodId} {args : Array Value} {below : List Frame} {meth : Method} {c : Code} {T : State} {locs : List Loc} {cells slots : Nat}
theorem retI (X : Stand p l e R s m args below meth c T locs cells slots) (hx : p.tables.exec = Jvm.exec) {pc : Nat} {Ls : Array Slot} {z : Int32} {rest : List Value} (hret : meth.sig.returnType = some .int) (hd : decode c.code pc = .ok (.ireturn, 1)) {fs : List Frame}
    (hl : ∀ (f : JFrame) (acts : List Action), f.method = m → f.locked = none → f.entered = [] → (doReturn e (T.setTop f) acts (some (.int z))).1 = T.setFrames fs) : Steps p.tables e below (T.setTop (mkF m pc Ls (.int z :: rest))) (T.setFrames fs) := by
  have hm' : T.vm.method? m = some meth := X.method'
  have hn : narrow .int (.int z) = .int z := rfl
  show Steps p.tables e below (T.setTop { method := m, pc := pc, locals := Ls, stack := _ :: rest, locked := none }) _
  jvm_step X.here [X.here.top, hx, hd, hm', hret, hn]
  first | (intro acts; rw [hl _ acts rfl rfl rfl]) | rw [hl _ _ rfl rfl rfl]
  exact Steps.refl _
end New
end Jvm.RoadKit
namespace Jvm.Pilot.@@N@@
open Jvm Jvm.ClassFile Sem Op Lib Jvm.Free Jvm.Stand Jvm.LawKit Jvm.RoadKit Bundle Jvm.Pilot.@@N@@.Jvm.D
section OwnKit
variable {p : Program} {l : Launch} {e : Env} {R : Room} {s : State} {m : MethodId} {args : Array Value} {below : List Frame} {meth : Method} {c : Code} {T : State} {locs : List Loc} {cells slots : Nat}
/-- from S the run comes to a return of which F holds -/
def Goes (tb : Tables) (e : Env) (below : List Frame) (s : State) (F : Option Value → Heap → List Loc → Prop) (k n : Nat) (S : State) : Prop :=
  ∃ s₂ o, Steps tb e below S s₂ ∧ s₂.status = .running ∧ Ended s₂ below o ∧ ∃ v L, o = .returned v ∧ F v s₂.heap L ∧ FrameEnd s o s₂ L k n
theorem Goes.of {tb : Tables} {F : Option Value → Heap → List Loc → Prop} {k n : Nat} {S S' : State} (h : ∀ t, Steps tb e below S' t → Steps tb e below S t) (g : Goes tb e below s F k n S') : Goes tb e below s F k n S := by
  obtain ⟨s₂, o, h1, r⟩ := g
  exact ⟨s₂, o, h _ h1, r⟩
theorem Goes.mono {tb : Tables} {F G : Option Value → Heap → List Loc → Prop} {k n : Nat} {S : State} (h : ∀ v h L, F v h L → G v h L) (g : Goes tb e below s F k n S) : Goes tb e below s G k n S := by
  obtain ⟨s₂, o, h1, h2, h3, v, L, h4, h5, h6⟩ := g
  exact ⟨s₂, o, h1, h2, h3, v, L, h4, h _ _ _ h5, h6⟩
theorem Goes.fin (X : Stand p l e R s m args below meth c T locs cells slots) (hlk : meth.locks = false) {v : Option Value} {F : Option Value → Heap → List Loc → Prop} {k n : Nat} {S : State} (hv : meth.sig.returnType = none → v = none)
    (step : ∀ fs, (∀ (f : JFrame) (acts : List Action), f.method = m → f.locked = none → f.entered = [] → (doReturn e (T.setTop f) acts v).1 = T.setFrames fs) → Steps p.tables e below S (T.setFrames fs)) (hF : F v T.heap locs) (hk : cells ≤ k) (hn : slots ≤ n) : Goes p.tables e below s F k n S := by
  obtain ⟨fs, hr, hrun, hended, hW, hsame⟩ := X.leave hv hlk
  exact ⟨_, _, step fs hr, hrun, hended, v, locs, rfl, hF, ⟨_, rfl⟩, hW, hsame.mono hk hn⟩
end OwnKit
section OwnArr
variable {p : Program} {l : Launch} {e : Env} {R : Room} {s : State} {m : MethodId} {args : Array Value} {below : List Frame} {meth : Method} {c : Code} {T : State} {locs : List Loc} {cells slots : Nat} {Z : State} {h h' : Heap} {a b : Addr} {ty : FieldType} {n i : Nat} {f : Nat → Int32} {ws : List Addr} {sl : Nat} {w : Value}
/-- at a stands an array of n places; place j holds f j -/
def AI (Z : State) (h : Heap) (a : Addr) (ty : FieldType) (n : Nat) (f : Nat → Int32) : Prop :=
  ∃ c : Cell, Arr Z h a c ty ∧ c.slots.size = n ∧ n < 2147483648 ∧ ∀ j, j < n → c.slots[j]? = some (.int (f j)) ∧ fits ty (.int (f j)) = true
def upd (f : Nat → Int32) (i : Nat) (v : Int32) : Nat → Int32 := fun j => if j = i then v else f j
theorem AI.lt (F : AI Z h a ty n f) : a < h.size := by obtain ⟨c, A, -⟩ := F; exact A.lt
theorem AI.ext (F : AI Z h a ty n f) (E : Ext h h') : AI Z h' a ty n f := by obtain ⟨c, A, r⟩ := F; exact ⟨c, A.ext E, r⟩
theorem AI.other (F : AI Z h a ty n f) (W : Wr h h' b sl w) (q : a ≠ b) : AI Z h' a ty n f := by obtain ⟨c, A, r⟩ := F; exact ⟨c, A.other W q, r⟩
theorem AI.keep (F : AI Z h a ty n f) (K : Keep h h' ws) (q : a ∉ ws) : AI Z h' a ty n f := by obtain ⟨c, A, r⟩ := F; exact ⟨c, ⟨K.2.1 a c A.1 q, A.2⟩, r⟩
theorem AI.congr {f' : Nat → Int32} (F : AI Z h a ty n f) (q : ∀ j, j < n → f j = f' j) : AI Z h a ty n f' := by
  obtain ⟨c, A, S, M, H⟩ := F
  exact ⟨c, A, S, M, fun j hj => by rw [← q j hj]; exact H j hj⟩
theorem AI.fits (F : AI Z h a ty n f) {j : Nat} (hj : j < n) : Jvm.fits ty (.int (f j)) = true := by
  obtain ⟨c, A, S, M, H⟩ := F
  exact (H j hj).2
theorem AI.new {cA : ClassId} {z : Int32} (hd : defaultValue ty = .int 0) (hf : Jvm.fits ty (.int 0) = true) (A : Arr Z h a (newA cA ty z) ty) (q : ¬ z < 0) (hn : z.toNatClampNeg = n) : AI Z h a ty n (fun _ => 0) := by
  subst hn
  refine ⟨_, A, sz_new _ _ _, (back32 q).2, fun j hj => ⟨?_, hf⟩⟩
  show (Array.replicate z.toNatClampNeg (defaultValue ty))[j]? = _
  rw [hd, Array.getElem?_replicate, if_pos hj]
theorem AI.set {v : Int32} (F : AI Z h a ty n f) (W : Wr h h' a i (.int v)) (hv : Jvm.fits ty (.int v) = true) : AI Z h' a ty n (upd f i v) := by
  obtain ⟨c, A, S, M, H⟩ := F
  refine ⟨c.setSlot i (.int v), A.same W, by rw [sz_set]; exact S, M, fun j hj => ?_⟩
  show (c.slots.setIfInBounds i (.int v))[j]? = _ ∧ _
  by_cases q : j = i
  · subst q
    rw [Array.getElem?_setIfInBounds_self_of_lt (by omega)]
    have e : upd f j v j = v := if_pos rfl
    rw [e]; exact ⟨rfl, hv⟩
  · rw [Array.getElem?_setIfInBounds_ne (Ne.symm q)]
    have e : upd f i v j = f j := if_neg q
    rw [e]; exact H j hj
theorem own_nn {j : Int32} (h : 0 ≤ j.toInt) : ¬ j < 0 := by
  rw [Int32.lt_iff_toInt_lt, show (0 : Int32).toInt = 0 from rfl]; omega
theorem own_ltn {j : Int32} {n : Nat} (h0 : 0 ≤ j.toInt) (h : j.toInt < n) : j.toNatClampNeg < n := by
  simp only [Int32.toNatClampNeg]; omega
theorem own_tn {z : Int32} {n : Nat} (h : z.toInt = n) : z.toNatClampNeg = n := by
  simp only [Int32.toNatClampNeg]; omega
theorem own_inc {i : Int32} (h : i.toInt < 2147483647) : (i + (1 : Int32)).toInt = i.toInt + 1 := by
  have a := c_iadd i 1
  have r := rng32 (i + 1)
  have r2 := rng32 i
  rw [show (1 : Int32).toInt = 1 from rfl] at a
  omega
theorem own_ilt {a b : Int32} (h : a.toInt < b.toInt) : a < b := by rw [Int32.lt_iff_toInt_lt]; exact h
theorem own_nlt {a b : Int32} (h : b.toInt ≤ a.toInt) : ¬ a < b := by rw [Int32.lt_iff_toInt_lt]; omega
theorem own_ltI {a b : Int32} (h : a < b) : a.toInt < b.toInt := Int32.lt_iff_toInt_lt.mp h
theorem own_geI {a b : Int32} (h : ¬ a < b) : b.toInt ≤ a.toInt := by rw [Int32.lt_iff_toInt_lt] at h; omega
theorem own_neI {a b : Int32} (h : ¬ a = b) : a.toInt ≠ b.toInt := fun q => h (Int32.toInt_inj.mp q)
theorem own_turn {G : Nat → Int32} {n k i : Nat} {w : Int32} (hi : i + (k + 1) = n) (hw : w = G i) : ∀ j, j < n → upd (fun j => if j + (k + 1) < n then G j else 0) i w j = if j + k < n then G j else 0 := by
  intro j hj
  by_cases q : j = i
  · subst q
    rw [if_pos (by omega)]
    exact (if_pos rfl).trans hw
  · refine (if_neg q).trans ?_
    by_cases r : j + (k + 1) < n
    · show (if _ then _ else _) = _
      rw [if_pos r, if_pos (by omega)]
    · show (if _ then _ else _) = _
      rw [if_neg r, if_neg (by omega)]
theorem own_turn2 {D : Nat → Int32} {n k i : Nat} {w : Int32} (hi : i + (k + 1) = n) : ∀ j, j < n → upd (fun j => if j + (k + 1) < n then w else D j) i w j = if j + k < n then w else D j := by
  intro j hj
  by_cases q : j = i
  · subst q
    rw [if_pos (by omega)]
    exact if_pos rfl
  · refine (if_neg q).trans ?_
    by_cases r : j + (k + 1) < n
    · show (if _ then _ else _) = _
      rw [if_pos r, if_pos (by omega)]
    · show (if _ then _ else _) = _
      rw [if_neg r, if_neg (by omega)]
theorem own_in {cl : Cell} {j : Int32} (S : cl.slots.size = n) (h0 : ¬ j < 0) (hi : j.toNatClampNeg = i) (hn : i < n) : ¬ (j < 0 ∨ cl.slots.size ≤ j.toNatClampNeg) := by
  rintro (q | q)
  · exact h0 q
  · omega
theorem ldI (X : Stand p l e R s m args below meth c T locs cells slots) (hx : p.tables.exec = Jvm.exec) (hZ : Z.Warmed39 s.vm) (eT : T.heap = h) (F : AI Z h a .int n f) {j v : Int32} (h0 : ¬ j < 0) (hi : j.toNatClampNeg = i) (hn : i < n) (hv : f i = v) {g : JFrame} (hg : g.method = m) {rest : List Value} (hs : g.stack = .int j :: .ref a :: rest) (hd : decode c.code g.pc = .ok (.iaload, 1)) (t : State)
    (k : Steps p.tables e below (T.setTop { g with pc := g.pc + 1, stack := .int v :: rest }) t) : Steps p.tables e below (T.setTop g) t := by
  obtain ⟨cl, A, S, M, H⟩ := F
  exact X.iaload hx (j := j) (v := .int v) (by rw [eT]; exact A.1) (State.isArrayOf_alike hZ.alike A.2.1) A.2.2 (own_in S h0 hi hn) (by rw [hi, (H i hn).1, hv]) hg hs hd t k
theorem ldB (X : Stand p l e R s m args below meth c T locs cells slots) (hx : p.tables.exec = Jvm.exec) (hZ : Z.Warmed39 s.vm) (eT : T.heap = h) (F : AI Z h a .byte n f) {j v : Int32} (h0 : ¬ j < 0) (hi : j.toNatClampNeg = i) (hn : i < n) (hv : f i = v) {g : JFrame} (hg : g.method = m) {rest : List Value} (hs : g.stack = .int j :: .ref a :: rest) (hd : decode c.code g.pc = .ok (.baload, 1)) (t : State)
    (k : Steps p.tables e below (T.setTop { g with pc := g.pc + 1, stack := .int v :: rest }) t) : Steps p.tables e below (T.setTop g) t := by
  obtain ⟨cl, A, S, M, H⟩ := F
  exact X.baloadBytes hx (j := j) (v := .int v) (by rw [eT]; exact A.1) (State.isArrayOf_alike hZ.alike A.2.1) A.2.2 (own_in S h0 hi hn) (by rw [hi, (H i hn).1, hv]) hg hs hd t k
theorem ldZ (X : Stand p l e R s m args below meth c T locs cells slots) (hx : p.tables.exec = Jvm.exec) (hZ : Z.Warmed39 s.vm) (eT : T.heap = h) (F : AI Z h a .boolean n f) {j v : Int32} (h0 : ¬ j < 0) (hi : j.toNatClampNeg = i) (hn : i < n) (hv : f i = v) {g : JFrame} (hg : g.method = m) {rest : List Value} (hs : g.stack = .int j :: .ref a :: rest) (hd : decode c.code g.pc = .ok (.baload, 1)) (t : State)
    (k : Steps p.tables e below (T.setTop { g with pc := g.pc + 1, stack := .int v :: rest }) t) : Steps p.tables e below (T.setTop g) t := by
  obtain ⟨cl, A, S, M, H⟩ := F
  exact X.baloadBooleans hx (j := j) (v := .int v) (by rw [eT]; exact A.1) (State.isArrayOf_alike hZ.alike A.2.1) A.2.2 (own_in S h0 hi hn) (by rw [hi, (H i hn).1, hv]) hg hs hd t k
theorem putI (X : Stand p l e R s m args below meth c T locs cells slots) (hx : p.tables.exec = Jvm.exec) (hZ : Z.Warmed39 s.vm) (eT : T.heap = h) (F : AI Z h a .int n f) {j x : Int32} (h0 : ¬ j < 0) (hi : j.toNatClampNeg = i) (hn : i < n) {g : JFrame} (hg : g.method = m) {rest : List Value} (hs : g.stack = .int x :: .int j :: .ref a :: rest) (hd : decode c.code g.pc = .ok (.iastore, 1)) :
    ∃ T' h', Stand p l e R s m args below meth c T' (locs ++ [⟨a, i⟩]) cells slots ∧ T'.heap = h' ∧ Wr h h' a i (.int x) ∧ AI Z h' a .int n (upd f i x) ∧ ∀ t, Steps p.tables e below (T'.setTop { g with pc := g.pc + 1, stack := rest }) t → Steps p.tables e below (T.setTop g) t := by
  have F0 := F
  obtain ⟨cl, A, S, M, H⟩ := F
  subst hi
  obtain ⟨T', h', X', e', W, st⟩ := stI X hx hZ eT A (own_in S h0 rfl hn) hg hs hd
  exact ⟨T', h', X', e', W, F0.set W rfl, st⟩
theorem putB (X : Stand p l e R s m args below meth c T locs cells slots) (hx : p.tables.exec = Jvm.exec) (hZ : Z.Warmed39 s.vm) (eT : T.heap = h) (F : AI Z h a .byte n f) {j x : Int32} (h0 : ¬ j < 0) (hi : j.toNatClampNeg = i) (hn : i < n) {g : JFrame} (hg : g.method = m) {rest : List Value} (hs : g.stack = .int x :: .int j :: .ref a :: rest) (hd : decode c.code g.pc = .ok (.bastore, 1)) :
    ∃ T' h', Stand p l e R s m args below meth c T' (locs ++ [⟨a, i⟩]) cells slots ∧ T'.heap = h' ∧ Wr h h' a i (.int x.toInt8.toInt32) ∧ AI Z h' a .byte n (upd f i x.toInt8.toInt32) ∧ ∀ t, Steps p.tables e below (T'.setTop { g with pc := g.pc + 1, stack := rest }) t → Steps p.tables e below (T.setTop g) t := by
  have F0 := F
  obtain ⟨cl, A, S, M, H⟩ := F
  subst hi
  obtain ⟨T', h', X', e', W, st⟩ := stB X hx hZ eT A (own_in S h0 rfl hn) hg hs hd
  exact ⟨T', h', X', e', W, F0.set W (fits_nar_byte x), st⟩
theorem putZ (X : Stand p l e R s m args below meth c T locs cells slots) (hx : p.tables.exec = Jvm.exec) (hZ : Z.Warmed39 s.vm) (eT : T.heap = h) (F : AI Z h a .boolean n f) {j x : Int32} (h0 : ¬ j < 0) (hi : j.toNatClampNeg = i) (hn : i < n) {g : JFrame} (hg : g.method = m) {rest : List Value} (hs : g.stack = .int x :: .int j :: .ref a :: rest) (hd : decode c.code g.pc = .ok (.bastore, 1)) :
    ∃ T' h', Stand p l e R s m args below meth c T' (locs ++ [⟨a, i⟩]) cells slots ∧ T'.heap = h' ∧ Wr h h' a i (.int (x &&& 1)) ∧ AI Z h' a .boolean n (upd f i (x &&& 1)) ∧ ∀ t, Steps p.tables e below (T'.setTop { g with pc := g.pc + 1, stack := rest }) t → Steps p.tables e below (T.setTop g) t := by
  have F0 := F
  obtain ⟨cl, A, S, M, H⟩ := F
  subst hi
  obtain ⟨T', h', X', e', W, st⟩ := stZ X hx hZ eT A (own_in S h0 rfl hn) hg hs hd
  exact ⟨T', h', X', e', W, F0.set W (fits_nar_bool x), st⟩
theorem lenA (X : Stand p l e R s m args below meth c T locs cells slots) (hx : p.tables.exec = Jvm.exec) (hZ : Z.Warmed39 s.vm) (eT : T.heap = h) (F : AI Z h a ty n f) {z : Int32} (hz : z.toInt = n) {g : JFrame} (hg : g.method = m) {rest : List Value} (hs : g.stack = .ref a :: rest) (hd : decode c.code g.pc = .ok (.arraylength, 1)) (t : State)
    (k : Steps p.tables e below (T.setTop { g with pc := g.pc + 1, stack := .int z :: rest }) t) : Steps p.tables e below (T.setTop g) t := by
  obtain ⟨cl, A, S, M, H⟩ := F
  have e1 : cl.slots.size.toInt32 = z := by rw [S]; exact Int32.toInt_inj.mp (by rw [len_toInt M, hz])
  exact X.arraylength hx (by rw [eT]; exact A.1) (State.isArrayOf_alike hZ.alike A.2.1) hg hs hd t (by rw [e1]; exact k)
end OwnArr
theorem d2_0 : decode method_2_code 0 = .ok (.lload_n 0, 1) := by decide +kernel
theorem d2_1 : decode method_2_code 1 = .ok (.bipush 8, 2) := by decide +kernel
theorem d2_3 : decode method_2_code 3 = .ok (.iload_n 2, 1) := by decide +kernel
theorem d2_4 : decode method_2_code 4 = .ok (.imul, 1) := by decide +kernel
theorem d2_5 : decode method_2_code 5 = .ok (.lushr, 1) := by decide +kernel
theorem d2_6 : decode method_2_code 6 = .ok (.l2i, 1) := by decide +kernel
theorem d2_7 : decode method_2_code 7 = .ok (.i2b, 1) := by decide +kernel
theorem d2_8 : decode method_2_code 8 = .ok (.ireturn, 1) := by decide +kernel
theorem pn_0 : plainName "com/example/vhost/vhost/util/HashesFnv1aPinLaw" = true := by first | (simp [plainName, overriddenIn]; done) | decide +kernel
theorem ef_2 (m : MethodId) (q0 : Int64) (q1 : Int32) : entryFrame m #[(.long q0), (.int q1)] 3 = mkF m 0 #[.val (.long q0), .second, .val (.int q1)] [] := by first | (simp [entryFrame, mkF, argsToLocals, Value.category]; done) | rfl
def f2 (q0 : Int64) (q1 : Int32) : Int32 :=
  (((((q0.toUInt64 >>> (((8 : Int32) * q1) &&& 0x3f).toInt64.toUInt64).toInt64).toInt32).toInt8.toInt32).toInt8.toInt32)
def Q2 (q0 : Int64) (q1 : Int32) (h0 : Heap) (n0 : Nat) (v : Option Value) (h : Heap) (L : List Loc) : Prop := v = some (.int (f2 q0 q1)) ∧ Fr n0 L ∧ h = h0
set_option maxRecDepth 65536 in
set_option maxHeartbeats 40000000 in
theorem rm2 (l : Launch) (Z : State) (a0 : Array Value) (hw : ∀ d ∈ tables_1, d.before a0 Z = true) (ws : List Jvm.Cond) (q0 : Int64) (q1 : Int32) (h0 : Heap) (n0 : Nat) :
    MetFree l (⟨"com/example/vhost/vhost/util/HashesFnv1aPinLaw", "at", "(JI)B"⟩ : MethodName) (head1 (Jvm.Cond.code (⟨"com/example/vhost/vhost/util/HashesFnv1aPinLaw", "at", "(JI)B"⟩ : MethodName) method_2_code 3 (some .byte) :: ws) ({ frames := 0, cells := 0, slots := 0, locals := 0 } : Room)) (fun ar' Ur => ar' = #[(.long q0), (.int q1)] ∧ Z.Warmed39 Ur.vm ∧ Ur.heap = h0) (fun _ _ _ _ _ => True) (fun _ Ur or' Us => ∃ v L, or' = .returned v ∧ Q2 q0 q1 h0 n0 v Us.heap L ∧ FrameEnd Ur or' Us L 0 0) := by
  refine MetFree.of_bodySF (plainFor_of_name pn_0) hisR ?_
  intro p e s m args below meth c s₁ Bd hml0 hP hK
  obtain ⟨rfl, hZ, hh⟩ := hP
  have hx := Bd.exec
  have hby := Bd.bytes
  have hlk : meth.locks = false := BodyLoose.notSynchronized Bd
  have hml : c.maxLocals = 3 := hml0
  have hown : s.vm.findClass "com/example/vhost/vhost/util/HashesFnv1aPinLaw" = some m.cls := findClass_of_methodNamed Bd.named
  have X0 : Stand p l e ({ frames := 0, cells := 0, slots := 0, locals := 0 } : Room) s m #[(.long q0), (.int q1)] below meth c s₁ [] 0 0 := Stand.of_body Bd
  have e0 : s₁.heap = h0 := by rw [← hh, Bd.state]; rfl
  have N0 := Fr.nil n0
  show Goes p.tables e below s (Q2 q0 q1 h0 n0) 0 0 (s₁.setTop (entryFrame m #[(.long q0), (.int q1)] 3))
  refine Goes.of (fun t k => castTop (ef_2 m q0 q1) k) ?_
  show Goes _ _ _ _ _ _ _ (s₁.setTop (mkF m 0 #[.val (.long q0), .second, .val (.int q1)] []))
  refine Goes.of (fun t k => XS.lloadN X0.here hx rfl (hb hby d2_0) rfl k) ?_
  show Goes _ _ _ _ _ _ _ (s₁.setTop (mkF m 1 #[.val (.long q0), .second, .val (.int q1)] [(.long q0)]))
  refine Goes.of (fun t k => XS.bipush X0.here hx rfl (hb hby d2_1) k) ?_
  show Goes _ _ _ _ _ _ _ (s₁.setTop (mkF m 3 #[.val (.long q0), .second, .val (.int q1)] [(.int (8 : Int32)), (.long q0)]))
  refine Goes.of (fun t k => XS.iloadN X0.here hx rfl (hb hby d2_3) rfl k) ?_
  show Goes _ _ _ _ _ _ _ (s₁.setTop (mkF m 4 #[.val (.long q0), .second, .val (.int q1)] [(.int q1), (.int (8 : Int32)), (.long q0)]))
  refine Goes.of (fun t k => XS.imul X0.here hx rfl (hb hby d2_4) rfl k) ?_
  show Goes _ _ _ _ _ _ _ (s₁.setTop (mkF m 5 #[.val (.long q0), .second, .val (.int q1)] [(.int ((8 : Int32) * q1)), (.long q0)]))
  refine Goes.of (fun t k => XS.lushr X0.here hx rfl (hb hby d2_5) rfl k) ?_
  show Goes _ _ _ _ _ _ _ (s₁.setTop (mkF m 6 #[.val (.long q0), .second, .val (.int q1)] [(.long ((q0.toUInt64 >>> (((8 : Int32) * q1) &&& 0x3f).toInt64.toUInt64).toInt64))]))
  refine Goes.of (fun t k => XS.l2i X0.here hx rfl (hb hby d2_6) rfl k) ?_
  show Goes _ _ _ _ _ _ _ (s₁.setTop (mkF m 7 #[.val (.long q0), .second, .val (.int q1)] [(.int (((q0.toUInt64 >>> (((8 : Int32) * q1) &&& 0x3f).toInt64.toUInt64).toInt64).toInt32))]))
  refine Goes.of (fun t k => XS.i2b X0.here hx rfl (hb hby d2_7) rfl k) ?_
  show Goes _ _ _ _ _ _ _ (s₁.setTop (mkF m 8 #[.val (.long q0), .second, .val (.int q1)] [(.int ((((q0.toUInt64 >>> (((8 : Int32) * q1) &&& 0x3f).toInt64.toUInt64).toInt64).toInt32).toInt8.toInt32))]))
  exact Goes.fin X0 hlk (v := some (.int (((((q0.toUInt64 >>> (((8 : Int32) * q1) &&& 0x3f).toInt64.toUInt64).toInt64).toInt32).toInt8.toInt32).toInt8.toInt32))) (fun h => by rw [Bd.returns] at h; cases h) (fun fs hr => retN X0 hx (t := .byte) Bd.returns (by simp) (hb hby d2_8) hr) ⟨congrArg (fun z => some (Value.int z)) (by rw [f2] : (((((q0.toUInt64 >>> (((8 : Int32) * q1) &&& 0x3f).toInt64.toUInt64).toInt64).toInt32).toInt8.toInt32).toInt8.toInt32) = f2 q0 q1), N0, e0⟩ (by decide) (by decide)
def own_by (q : Int64) (j : Nat) : Int32 := (f2 q j.toInt32).toInt8.toInt32
theorem own_c8 {k : Int32} (h0 : 0 ≤ k.toInt) (h1 : k.toInt ≤ 8) : k = 0 ∨ k = 1 ∨ k = 2 ∨ k = 3 ∨ k = 4 ∨ k = 5 ∨ k = 6 ∨ k = 7 ∨ k = 8 := by
  simp only [← Int32.toInt_inj, Int32.reduceToInt]
  omega
theorem d1_0 : decode method_3_code 0 = .ok (.iload_n 2, 1) := by decide +kernel
theorem d1_1 : decode method_3_code 1 = .ok (.newarray .byte, 2) := by decide +kernel
theorem d1_3 : decode method_3_code 3 = .ok (.astore_n 3, 1) := by decide +kernel
theorem d1_4 : decode method_3_code 4 = .ok (.iload_n 2, 1) := by decide +kernel
theorem d1_5 : decode method_3_code 5 = .ok (.ifCond .le 11, 3) := by decide +kernel
theorem d1_8 : decode method_3_code 8 = .ok (.aload_n 3, 1) := by decide +kernel
theorem d1_9 : decode method_3_code 9 = .ok (.iconst 0, 1) := by decide +kernel
theorem d1_10 : decode method_3_code 10 = .ok (.lload_n 0, 1) := by decide +kernel
theorem d1_11 : decode method_3_code 11 = .ok (.iconst 0, 1) := by decide +kernel
theorem d1_12 : decode method_3_code 12 = .ok (.invokestatic 7, 3) := by decide +kernel
theorem d1_15 : decode method_3_code 15 = .ok (.bastore, 1) := by decide +kernel
theorem d1_16 : decode method_3_code 16 = .ok (.iload_n 2, 1) := by decide +kernel
theorem d1_17 : decode method_3_code 17 = .ok (.iconst 1, 1) := by decide +kernel
theorem d1_18 : decode method_3_code 18 = .ok (.if_icmp .le 11, 3) := by decide +kernel
theorem d1_21 : decode method_3_code 21 = .ok (.aload_n 3, 1) := by decide +kernel
theorem d1_22 : decode method_3_code 22 = .ok (.iconst 1, 1) := by decide +kernel
theorem d1_23 : decode method_3_code 23 = .ok (.lload_n 0, 1) := by decide +kernel
theorem d1_24 : decode method_3_code 24 = .ok (.iconst 1, 1) := by decide +kernel
theorem d1_25 : decode method_3_code 25 = .ok (.invokestatic 7, 3) := by decide +kernel
theorem d1_28 : decode method_3_code 28 = .ok (.bastore, 1) := by decide +kernel
theorem d1_29 : decode method_3_code 29 = .ok (.iload_n 2, 1) := by decide +kernel
theorem d1_30 : decode method_3_code 30 = .ok (.iconst 2, 1) := by decide +kernel
theorem d1_31 : decode method_3_code 31 = .ok (.if_icmp .le 11, 3) := by decide +kernel
theorem d1_34 : decode method_3_code 34 = .ok (.aload_n 3, 1) := by decide +kernel
theorem d1_35 : decode method_3_code 35 = .ok (.iconst 2, 1) := by decide +kernel
theorem d1_36 : decode method_3_code 36 = .ok (.lload_n 0, 1) := by decide +kernel
theorem d1_37 : decode method_3_code 37 = .ok (.iconst 2, 1) := by decide +kernel
theorem d1_38 : decode method_3_code 38 = .ok (.invokestatic 7, 3) := by decide +kernel
theorem d1_41 : decode method_3_code 41 = .ok (.bastore, 1) := by decide +kernel
theorem d1_42 : decode method_3_code 42 = .ok (.iload_n 2, 1) := by decide +kernel
theorem d1_43 : decode method_3_code 43 = .ok (.iconst 3, 1) := by decide +kernel
theorem d1_44 : decode method_3_code 44 = .ok (.if_icmp .le 11, 3) := by decide +kernel
theorem d1_47 : decode method_3_code 47 = .ok (.aload_n 3, 1) := by decide +kernel
theorem d1_48 : decode method_3_code 48 = .ok (.iconst 3, 1) := by decide +kernel
theorem d1_49 : decode method_3_code 49 = .ok (.lload_n 0, 1) := by decide +kernel
theorem d1_50 : decode method_3_code 50 = .ok (.iconst 3, 1) := by decide +kernel
theorem d1_51 : decode method_3_code 51 = .ok (.invokestatic 7, 3) := by decide +kernel
theorem d1_54 : decode method_3_code 54 = .ok (.bastore, 1) := by decide +kernel
theorem d1_55 : decode method_3_code 55 = .ok (.iload_n 2, 1) := by decide +kernel
theorem d1_56 : decode method_3_code 56 = .ok (.iconst 4, 1) := by decide +kernel
theorem d1_57 : decode method_3_code 57 = .ok (.if_icmp .le 11, 3) := by decide +kernel
theorem d1_60 : decode method_3_code 60 = .ok (.aload_n 3, 1) := by decide +kernel
theorem d1_61 : decode method_3_code 61 = .ok (.iconst 4, 1) := by decide +kernel
theorem d1_62 : decode method_3_code 62 = .ok (.lload_n 0, 1) := by decide +kernel
theorem d1_63 : decode method_3_code 63 = .ok (.iconst 4, 1) := by decide +kernel
theorem d1_64 : decode method_3_code 64 = .ok (.invokestatic 7, 3) := by decide +kernel
theorem d1_67 : decode method_3_code 67 = .ok (.bastore, 1) := by decide +kernel
theorem d1_68 : decode method_3_code 68 = .ok (.iload_n 2, 1) := by decide +kernel
theorem d1_69 : decode method_3_code 69 = .ok (.iconst 5, 1) := by decide +kernel
theorem d1_70 : decode method_3_code 70 = .ok (.if_icmp .le 11, 3) := by decide +kernel
theorem d1_73 : decode method_3_code 73 = .ok (.aload_n 3, 1) := by decide +kernel
theorem d1_74 : decode method_3_code 74 = .ok (.iconst 5, 1) := by decide +kernel
theorem d1_75 : decode method_3_code 75 = .ok (.lload_n 0, 1) := by decide +kernel
theorem d1_76 : decode method_3_code 76 = .ok (.iconst 5, 1) := by decide +kernel
theorem d1_77 : decode method_3_code 77 = .ok (.invokestatic 7, 3) := by decide +kernel
theorem d1_80 : decode method_3_code 80 = .ok (.bastore, 1) := by decide +kernel
theorem d1_81 : decode method_3_code 81 = .ok (.iload_n 2, 1) := by decide +kernel
theorem d1_82 : decode method_3_code 82 = .ok (.bipush 6, 2) := by decide +kernel
theorem d1_84 : decode method_3_code 84 = .ok (.if_icmp .le 13, 3) := by decide +kernel
theorem d1_87 : decode method_3_code 87 = .ok (.aload_n 3, 1) := by decide +kernel
theorem d1_88 : decode method_3_code 88 = .ok (.bipush 6, 2) := by decide +kernel
theorem d1_90 : decode method_3_code 90 = .ok (.lload_n 0, 1) := by decide +kernel
theorem d1_91 : decode method_3_code 91 = .ok (.bipush 6, 2) := by decide +kernel
theorem d1_93 : decode method_3_code 93 = .ok (.invokestatic 7, 3) := by decide +kernel
theorem d1_96 : decode method_3_code 96 = .ok (.bastore, 1) := by decide +kernel
theorem d1_97 : decode method_3_code 97 = .ok (.iload_n 2, 1) := by decide +kernel
theorem d1_98 : decode method_3_code 98 = .ok (.bipush 7, 2) := by decide +kernel
theorem d1_100 : decode method_3_code 100 = .ok (.if_icmp .le 13, 3) := by decide +kernel
theorem d1_103 : decode method_3_code 103 = .ok (.aload_n 3, 1) := by decide +kernel
theorem d1_104 : decode method_3_code 104 = .ok (.bipush 7, 2) := by decide +kernel
theorem d1_106 : decode method_3_code 106 = .ok (.lload_n 0, 1) := by decide +kernel
theorem d1_107 : decode method_3_code 107 = .ok (.bipush 7, 2) := by decide +kernel
theorem d1_109 : decode method_3_code 109 = .ok (.invokestatic 7, 3) := by decide +kernel
theorem d1_112 : decode method_3_code 112 = .ok (.bastore, 1) := by decide +kernel
theorem d1_113 : decode method_3_code 113 = .ok (.aload_n 3, 1) := by decide +kernel
theorem d1_114 : decode method_3_code 114 = .ok (.areturn, 1) := by decide +kernel
theorem pd_0 : parseMethodDescriptor "(JI)B" = some ⟨[.long, .int], some .byte⟩ := by decide +kernel
theorem ef_1 (m : MethodId) (q0 : Int64) (k0 : Int32) : entryFrame m #[(.long q0), (.int k0)] 4 = mkF m 0 #[.val (.long q0), .second, .val (.int k0), .unset] [] := by first | (simp [entryFrame, mkF, argsToLocals, Value.category]; done) | rfl
def Q1 (Z : State) (q0 : Int64) (k0 : Int32) (h0 : Heap) (n0 : Nat) (v : Option Value) (h : Heap) (L : List Loc) : Prop := ∃ r : Addr, v = some (.ref r) ∧ Fr n0 L ∧ Keep h0 h [] ∧ h0.size ≤ r ∧ AI Z h r .byte k0.toNatClampNeg (own_by q0)
set_option maxRecDepth 65536 in
set_option maxHeartbeats 40000000 in
theorem rm1 (l : Launch) (Z : State) (a0 : Array Value) (hw : ∀ d ∈ tables_1, d.before a0 Z = true) (ws : List Jvm.Cond) (q0 : Int64) (k0 : Int32) (h0 : Heap) (n0 : Nat) (Z0 : n0 ≤ h0.size) (hk8 : k0 = 0 ∨ k0 = 1 ∨ k0 = 2 ∨ k0 = 3 ∨ k0 = 4 ∨ k0 = 5 ∨ k0 = 6 ∨ k0 = 7 ∨ k0 = 8) :
    MetFree l (⟨"com/example/vhost/vhost/util/HashesFnv1aPinLaw", "bytesOf", "(JI)[B"⟩ : MethodName) (head1 (Jvm.Cond.code (⟨"com/example/vhost/vhost/util/HashesFnv1aPinLaw", "bytesOf", "(JI)[B"⟩ : MethodName) method_3_code 4 (some (.array .byte)) :: ws) ({ frames := 1, cells := 1, slots := 8, locals := 16 } : Room)) (fun ar' Ur => ar' = #[(.long q0), (.int k0)] ∧ Z.Warmed39 Ur.vm ∧ Ur.heap = h0) (fun _ _ _ _ _ => True) (fun _ Ur or' Us => ∃ v L, or' = .returned v ∧ Q1 Z q0 k0 h0 n0 v Us.heap L ∧ FrameEnd Ur or' Us L 1 8) := by
  refine MetFree.of_bodySF (plainFor_of_name pn_0) hisR ?_
  intro p e s m args below meth c s₁ Bd hml0 hP hK
  obtain ⟨rfl, hZ, hh⟩ := hP
  have hx := Bd.exec
  have hby := Bd.bytes
  have hlk : meth.locks = false := BodyLoose.notSynchronized Bd
  have hml : c.maxLocals = 4 := hml0
  have hown : s.vm.findClass "com/example/vhost/vhost/util/HashesFnv1aPinLaw" = some m.cls := findClass_of_methodNamed Bd.named
  have hnm := (name_of_methodNamed Bd.named Bd.method).1
  have X0 : Stand p l e ({ frames := 1, cells := 1, slots := 8, locals := 16 } : Room) s m #[(.long q0), (.int k0)] below meth c s₁ [] 0 0 := Stand.of_body Bd
  have e0 : s₁.heap = h0 := by rw [← hh, Bd.state]; rfl
  have N0 := Fr.nil n0
  show Goes p.tables e below s (Q1 Z q0 k0 h0 n0) 1 8 (s₁.setTop (entryFrame m #[(.long q0), (.int k0)] 4))
  refine Goes.of (fun t k => castTop (ef_1 m q0 k0) k) ?_
  show Goes _ _ _ _ _ _ _ (s₁.setTop (mkF m 0 #[.val (.long q0), .second, .val (.int k0), .unset] []))
  rcases hk8 with rfl | rfl | rfl | rfl | rfl | rfl | rfl | rfl | rfl
  · refine Goes.of (fun t k => XS.iloadN X0.here hx rfl (hb hby d1_0) rfl k) ?_
    show Goes _ _ _ _ _ _ _ (s₁.setTop (mkF m 1 #[.val (.long q0), .second, .val (.int (0 : Int32)), .unset] [(.int (0 : Int32))]))
    obtain ⟨T1, h1, k1, X1, e1, E1, A1, Ea1, st1⟩ := newPE X0 hx hZ (hw _ (List.mem_of_getElem? (i := 0) rfl)) e0 (g := (mkF m 1 #[.val (.long q0), .second, .val (.int (0 : Int32)), .unset] [(.int (0 : Int32))])) rfl (hb hby d1_1) rfl (by decide) (cap := 8) (by decide) (by decide) (by decide) (by decide) (ad := "[B") (by decide)
    obtain ⟨b1, g1⟩ : ∃ z, z = h0.size := ⟨_, rfl⟩
    rw [← g1] at A1 Ea1 st1
    have V1 : AI Z h1 b1 .byte 0 (fun _ => 0) := AI.new rfl rfl A1 (by decide) (by decide)
    have g_b1 : n0 ≤ b1 := Nat.le_trans Z0 (Nat.le_of_eq g1.symm)
    have sz_b1 : h0.size ≤ b1 := Nat.le_trans (Keep.refl h0 []).1 (Nat.le_of_eq g1.symm)
    have Z1 : n0 ≤ h1.size := Nat.le_trans Z0 E1.1
    have K1 : Keep h0 h1 [] := (Keep.refl h0 []).ext E1
    refine Goes.of st1 ?_
    show Goes _ _ _ _ _ _ _ (T1.setTop (mkF m 3 #[.val (.long q0), .second, .val (.int (0 : Int32)), .unset] [(.ref b1)]))
    refine Goes.of (fun t k => XS.astoreN X1.here hx rfl (hb hby d1_3) rfl rfl (l' := #[.val (.long q0), .second, .val (.int (0 : Int32)), .val (.ref b1)]) rfl k) ?_
    show Goes _ _ _ _ _ _ _ (T1.setTop (mkF m 4 #[.val (.long q0), .second, .val (.int (0 : Int32)), .val (.ref b1)] []))
    refine Goes.of (fun t k => XS.iloadN X1.here hx rfl (hb hby d1_4) rfl k) ?_
    show Goes _ _ _ _ _ _ _ (T1.setTop (mkF m 5 #[.val (.long q0), .second, .val (.int (0 : Int32)), .val (.ref b1)] [(.int (0 : Int32))]))
    refine Goes.of (fun t k => XS.ifYes X1.here hx rfl (pc0 := 5) (pc' := 16) rfl (hb hby d1_5) rfl ((if0 _ _).trans (flt (by decide : ¬ ((0 : Int32) < (0 : Int32)))).2.2.2) (by decide) (by decide) k) ?_
    show Goes _ _ _ _ _ _ _ (T1.setTop (mkF m 16 #[.val (.long q0), .second, .val (.int (0 : Int32)), .val (.ref b1)] []))
    refine Goes.of (fun t k => XS.iloadN X1.here hx rfl (hb hby d1_16) rfl k) ?_
    show Goes _ _ _ _ _ _ _ (T1.setTop (mkF m 17 #[.val (.long q0), .second, .val (.int (0 : Int32)), .val (.ref b1)] [(.int (0 : Int32))]))
    refine Goes.of (fun t k => XS.iconst X1.here hx rfl (hb hby d1_17) k) ?_
    show Goes _ _ _ _ _ _ _ (T1.setTop (mkF m 18 #[.val (.long q0), .second, .val (.int (0 : Int32)), .val (.ref b1)] [(.int (1 : Int32)), (.int (0 : Int32))]))
    refine Goes.of (fun t k => XS.icmpYes X1.here hx rfl (pc0 := 18) (pc' := 29) rfl (hb hby d1_18) rfl (flt (by decide : ¬ ((1 : Int32) < (0 : Int32)))).2.2.2 (by decide) (by decide) k) ?_
    show Goes _ _ _ _ _ _ _ (T1.setTop (mkF m 29 #[.val (.long q0), .second, .val (.int (0 : Int32)), .val (.ref b1)] []))
    refine Goes.of (fun t k => XS.iloadN X1.here hx rfl (hb hby d1_29) rfl k) ?_
    show Goes _ _ _ _ _ _ _ (T1.setTop (mkF m 30 #[.val (.long q0), .second, .val (.int (0 : Int32)), .val (.ref b1)] [(.int (0 : Int32))]))
    refine Goes.of (fun t k => XS.iconst X1.here hx rfl (hb hby d1_30) k) ?_
    show Goes _ _ _ _ _ _ _ (T1.setTop (mkF m 31 #[.val (.long q0), .second, .val (.int (0 : Int32)), .val (.ref b1)] [(.int (2 : Int32)), (.int (0 : Int32))]))
    refine Goes.of (fun t k => XS.icmpYes X1.here hx rfl (pc0 := 31) (pc' := 42) rfl (hb hby d1_31) rfl (flt (by decide : ¬ ((2 : Int32) < (0 : Int32)))).2.2.2 (by decide) (by decide) k) ?_
    show Goes _ _ _ _ _ _ _ (T1.setTop (mkF m 42 #[.val (.long q0), .second, .val (.int (0 : Int32)), .val (.ref b1)] []))
    refine Goes.of (fun t k => XS.iloadN X1.here hx rfl (hb hby d1_42) rfl k) ?_
    show Goes _ _ _ _ _ _ _ (T1.setTop (mkF m 43 #[.val (.long q0), .second, .val (.int (0 : Int32)), .val (.ref b1)] [(.int (0 : Int32))]))
    refine Goes.of (fun t k => XS.iconst X1.here hx rfl (hb hby d1_43) k) ?_
    show Goes _ _ _ _ _ _ _ (T1.setTop (mkF m 44 #[.val (.long q0), .second, .val (.int (0 : Int32)), .val (.ref b1)] [(.int (3 : Int32)), (.int (0 : Int32))]))
    refine Goes.of (fun t k => XS.icmpYes X1.here hx rfl (pc0 := 44) (pc' := 55) rfl (hb hby d1_44) rfl (flt (by decide : ¬ ((3 : Int32) < (0 : Int32)))).2.2.2 (by decide) (by decide) k) ?_
    show Goes _ _ _ _ _ _ _ (T1.setTop (mkF m 55 #[.val (.long q0), .second, .val (.int (0 : Int32)), .val (.ref b1)] []))
    refine Goes.of (fun t k => XS.iloadN X1.here hx rfl (hb hby d1_55) rfl k) ?_
    show Goes _ _ _ _ _ _ _ (T1.setTop (mkF m 56 #[.val (.long q0), .second, .val (.int (0 : Int32)), .val (.ref b1)] [(.int (0 : Int32))]))
    refine Goes.of (fun t k => XS.iconst X1.here hx rfl (hb hby d1_56) k) ?_
    show Goes _ _ _ _ _ _ _ (T1.setTop (mkF m 57 #[.val (.long q0), .second, .val (.int (0 : Int32)), .val (.ref b1)] [(.int (4 : Int32)), (.int (0 : Int32))]))
    refine Goes.of (fun t k => XS.icmpYes X1.here hx rfl (pc0 := 57) (pc' := 68) rfl (hb hby d1_57) rfl (flt (by decide : ¬ ((4 : Int32) < (0 : Int32)))).2.2.2 (by decide) (by decide) k) ?_
    show Goes _ _ _ _ _ _ _ (T1.setTop (mkF m 68 #[.val (.long q0), .second, .val (.int (0 : Int32)), .val (.ref b1)] []))
    refine Goes.of (fun t k => XS.iloadN X1.here hx rfl (hb hby d1_68) rfl k) ?_
    show Goes _ _ _ _ _ _ _ (T1.setTop (mkF m 69 #[.val (.long q0), .second, .val (.int (0 : Int32)), .val (.ref b1)] [(.int (0 : Int32))]))
    refine Goes.of (fun t k => XS.iconst X1.here hx rfl (hb hby d1_69) k) ?_
    show Goes _ _ _ _ _ _ _ (T1.setTop (mkF m 70 #[.val (.long q0), .second, .val (.int (0 : Int32)), .val (.ref b1)] [(.int (5 : Int32)), (.int (0 : Int32))]))
    refine Goes.of (fun t k => XS.icmpYes X1.here hx rfl (pc0 := 70) (pc' := 81) rfl (hb hby d1_70) rfl (flt (by decide : ¬ ((5 : Int32) < (0 : Int32)))).2.2.2 (by decide) (by decide) k) ?_
    show Goes _ _ _ _ _ _ _ (T1.setTop (mkF m 81 #[.val (.long q0), .second, .val (.int (0 : Int32)), .val (.ref b1)] []))
    refine Goes.of (fun t k => XS.iloadN X1.here hx rfl (hb hby d1_81) rfl k) ?_
    show Goes _ _ _ _ _ _ _ (T1.setTop (mkF m 82 #[.val (.long q0), .second, .val (.int (0 : Int32)), .val (.ref b1)] [(.int (0 : Int32))]))
    refine Goes.of (fun t k => XS.bipush X1.here hx rfl (hb hby d1_82) k) ?_
    show Goes _ _ _ _ _ _ _ (T1.setTop (mkF m 84 #[.val (.long q0), .second, .val (.int (0 : Int32)), .val (.ref b1)] [(.int (6 : Int32)), (.int (0 : Int32))]))
    refine Goes.of (fun t k => XS.icmpYes X1.here hx rfl (pc0 := 84) (pc' := 97) rfl (hb hby d1_84) rfl (flt (by decide : ¬ ((6 : Int32) < (0 : Int32)))).2.2.2 (by decide) (by decide) k) ?_
    show Goes _ _ _ _ _ _ _ (T1.setTop (mkF m 97 #[.val (.long q0), .second, .val (.int (0 : Int32)), .val (.ref b1)] []))
    refine Goes.of (fun t k => XS.iloadN X1.here hx rfl (hb hby d1_97) rfl k) ?_
    show Goes _ _ _ _ _ _ _ (T1.setTop (mkF m 98 #[.val (.long q0), .second, .val (.int (0 : Int32)), .val (.ref b1)] [(.int (0 : Int32))]))
    refine Goes.of (fun t k => XS.bipush X1.here hx rfl (hb hby d1_98) k) ?_
    show Goes _ _ _ _ _ _ _ (T1.setTop (mkF m 100 #[.val (.long q0), .second, .val (.int (0 : Int32)), .val (.ref b1)] [(.int (7 : Int32)), (.int (0 : Int32))]))
    refine Goes.of (fun t k => XS.icmpYes X1.here hx rfl (pc0 := 100) (pc' := 113) rfl (hb hby d1_100) rfl (flt (by decide : ¬ ((7 : Int32) < (0 : Int32)))).2.2.2 (by decide) (by decide) k) ?_
    show Goes _ _ _ _ _ _ _ (T1.setTop (mkF m 113 #[.val (.long q0), .second, .val (.int (0 : Int32)), .val (.ref b1)] []))
    refine Goes.of (fun t k => XS.aloadN X1.here hx rfl (hb hby d1_113) rfl rfl k) ?_
    show Goes _ _ _ _ _ _ _ (T1.setTop (mkF m 114 #[.val (.long q0), .second, .val (.int (0 : Int32)), .val (.ref b1)] [(.ref b1)]))
    exact Goes.fin X1 hlk (v := some (.ref b1)) (fun h => by rw [Bd.returns] at h; cases h) (fun fs hr => retOut X1 hx Bd.returns (by rfl) (Or.inr (Or.inr (Or.inr (Or.inr ⟨rfl, rfl, rfl⟩)))) (hb hby d1_114) hr) (by rw [e1]; exact ⟨b1, rfl, N0, K1, sz_b1, V1.congr (fun j hj => absurd hj (Nat.not_lt_zero _))⟩) (by decide) (by decide)
  · refine Goes.of (fun t k => XS.iloadN X0.here hx rfl (hb hby d1_0) rfl k) ?_
    show Goes _ _ _ _ _ _ _ (s₁.setTop (mkF m 1 #[.val (.long q0), .second, .val (.int (1 : Int32)), .unset] [(.int (1 : Int32))]))
    obtain ⟨T2, h2, k2, X2, e2, E2, A2, Ea2, st2⟩ := newPE X0 hx hZ (hw _ (List.mem_of_getElem? (i := 0) rfl)) e0 (g := (mkF m 1 #[.val (.long q0), .second, .val (.int (1 : Int32)), .unset] [(.int (1 : Int32))])) rfl (hb hby d1_1) rfl (by decide) (cap := 8) (by decide) (by decide) (by decide) (by decide) (ad := "[B") (by decide)
    obtain ⟨b2, g2⟩ : ∃ z, z = h0.size := ⟨_, rfl⟩
    rw [← g2] at A2 Ea2 st2
    have V2 : AI Z h2 b2 .byte 1 (fun _ => 0) := AI.new rfl rfl A2 (by decide) (by decide)
    have g_b2 : n0 ≤ b2 := Nat.le_trans Z0 (Nat.le_of_eq g2.symm)
    have sz_b2 : h0.size ≤ b2 := Nat.le_trans (Keep.refl h0 []).1 (Nat.le_of_eq g2.symm)
    have Z2 : n0 ≤ h2.size := Nat.le_trans Z0 E2.1
    have K2 : Keep h0 h2 [] := (Keep.refl h0 []).ext E2
    refine Goes.of st2 ?_
    show Goes _ _ _ _ _ _ _ (T2.setTop (mkF m 3 #[.val (.long q0), .second, .val (.int (1 : Int32)), .unset] [(.ref b2)]))
    refine Goes.of (fun t k => XS.astoreN X2.here hx rfl (hb hby d1_3) rfl rfl (l' := #[.val (.long q0), .second, .val (.int (1 : Int32)), .val (.ref b2)]) rfl k) ?_
    show Goes _ _ _ _ _ _ _ (T2.setTop (mkF m 4 #[.val (.long q0), .second, .val (.int (1 : Int32)), .val (.ref b2)] []))
    refine Goes.of (fun t k => XS.iloadN X2.here hx rfl (hb hby d1_4) rfl k) ?_
    show Goes _ _ _ _ _ _ _ (T2.setTop (mkF m 5 #[.val (.long q0), .second, .val (.int (1 : Int32)), .val (.ref b2)] [(.int (1 : Int32))]))
    refine Goes.of (fun t k => XS.ifNo X2.here hx rfl (hb hby d1_5) rfl ((if0 _ _).trans (tlt (by decide : (0 : Int32) < (1 : Int32))).2.2.2) k) ?_
    show Goes _ _ _ _ _ _ _ (T2.setTop (mkF m 8 #[.val (.long q0), .second, .val (.int (1 : Int32)), .val (.ref b2)] []))
    refine Goes.of (fun t k => XS.aloadN X2.here hx rfl (hb hby d1_8) rfl rfl k) ?_
    show Goes _ _ _ _ _ _ _ (T2.setTop (mkF m 9 #[.val (.long q0), .second, .val (.int (1 : Int32)), .val (.ref b2)] [(.ref b2)]))
    refine Goes.of (fun t k => XS.iconst X2.here hx rfl (hb hby d1_9) k) ?_
    show Goes _ _ _ _ _ _ _ (T2.setTop (mkF m 10 #[.val (.long q0), .second, .val (.int (1 : Int32)), .val (.ref b2)] [(.int (0 : Int32)), (.ref b2)]))
    refine Goes.of (fun t k => XS.lloadN X2.here hx rfl (hb hby d1_10) rfl k) ?_
    show Goes _ _ _ _ _ _ _ (T2.setTop (mkF m 11 #[.val (.long q0), .second, .val (.int (1 : Int32)), .val (.ref b2)] [(.long q0), (.int (0 : Int32)), (.ref b2)]))
    refine Goes.of (fun t k => XS.iconst X2.here hx rfl (hb hby d1_11) k) ?_
    show Goes _ _ _ _ _ _ _ (T2.setTop (mkF m 12 #[.val (.long q0), .second, .val (.int (1 : Int32)), .val (.ref b2)] [(.int (0 : Int32)), (.long q0), (.int (0 : Int32)), (.ref b2)]))
    obtain ⟨_, _, ⟨T3, L3, k3, n3⟩, -, X3, ⟨Lc3, hQ3, l3, y3, z3⟩, st3⟩ := Jvm.LawKit.callS X2 hx (y := (⟨"com/example/vhost/vhost/util/HashesFnv1aPinLaw", "at", "(JI)B"⟩ : MethodName)) hown (mvT hZ (hw _ (List.mem_of_getElem? (i := 5) rfl))) (mvT hZ (hw _ (List.mem_of_getElem? (i := 6) rfl))) (mvT hZ (hw _ (List.mem_of_getElem? (i := 3) rfl))) (mvT hZ (hw _ (List.mem_of_getElem? (i := 7) rfl))) (by decide) (backOf (W := 2) (rm2 l Z a0 hw [] q0 (0 : Int32)  h2 n0 ) hZ (hw _ (List.mem_of_getElem? (i := 7) rfl)) (hw _ (List.mem_of_getElem? (i := 3) rfl)) (by decide) (by decide)) (g := (mkF m 12 #[.val (.long q0), .second, .val (.int (1 : Int32)), .val (.ref b2)] [(.int (0 : Int32)), (.long q0), (.int (0 : Int32)), (.ref b2)])) rfl (by rw [hml]; rfl) (argsL := [(.long q0), (.int (0 : Int32))]) (rest := [(.int (0 : Int32)), (.ref b2)]) (lenOf pd_0 rfl) rfl (by show 2 * 0 + _ ≤ _; exact Nat.le_of_eq rfl) (hb hby d1_12) (fun _ _ => ⟨rfl, e2, (by decide : 1 + 0 ≤ _), (by decide : 8 + 0 ≤ _)⟩)
    dsimp only [Pt.U, Pt.locs, Pt.cells, Pt.slots] at X3 l3 y3 z3 st3 hQ3
    subst l3 y3 z3
    obtain ⟨rfl, N3q, e3⟩ := hQ3
    have N3 := Fr.app N0 N3q
    refine Goes.of st3 ?_
    show Goes _ _ _ _ _ _ _ (T3.setTop (mkF m 15 #[.val (.long q0), .second, .val (.int (1 : Int32)), .val (.ref b2)] [(.int (f2 q0 (0 : Int32))), (.int (0 : Int32)), (.ref b2)]))
    obtain ⟨T4, h4, X4, e4, W4, V4, st4⟩ := putB X3 hx hZ e3 V2 (j := (0 : Int32)) (x := (f2 q0 (0 : Int32))) (i := 0) (by decide) (by decide) (by decide) (g := (mkF m 15 #[.val (.long q0), .second, .val (.int (1 : Int32)), .val (.ref b2)] [(.int (f2 q0 (0 : Int32))), (.int (0 : Int32)), (.ref b2)])) rfl rfl (hb hby d1_15)
    have Z4 : n0 ≤ h4.size := Nat.le_trans Z2 (Keep.of_wr W4).1
    have K4 : Keep h0 h4 [] := K2.wr W4 (Or.inr sz_b2)
    have N4 := Fr.snoc X4 N3 g_b2
    refine Goes.of st4 ?_
    show Goes _ _ _ _ _ _ _ (T4.setTop (mkF m 16 #[.val (.long q0), .second, .val (.int (1 : Int32)), .val (.ref b2)] []))
    refine Goes.of (fun t k => XS.iloadN X4.here hx rfl (hb hby d1_16) rfl k) ?_
    show Goes _ _ _ _ _ _ _ (T4.setTop (mkF m 17 #[.val (.long q0), .second, .val (.int (1 : Int32)), .val (.ref b2)] [(.int (1 : Int32))]))
    refine Goes.of (fun t k => XS.iconst X4.here hx rfl (hb hby d1_17) k) ?_
    show Goes _ _ _ _ _ _ _ (T4.setTop (mkF m 18 #[.val (.long q0), .second, .val (.int (1 : Int32)), .val (.ref b2)] [(.int (1 : Int32)), (.int (1 : Int32))]))
    refine Goes.of (fun t k => XS.icmpYes X4.here hx rfl (pc0 := 18) (pc' := 29) rfl (hb hby d1_18) rfl (flt (by decide : ¬ ((1 : Int32) < (1 : Int32)))).2.2.2 (by decide) (by decide) k) ?_
    show Goes _ _ _ _ _ _ _ (T4.setTop (mkF m 29 #[.val (.long q0), .second, .val (.int (1 : Int32)), .val (.ref b2)] []))
    refine Goes.of (fun t k => XS.iloadN X4.here hx rfl (hb hby d1_29) rfl k) ?_
    show Goes _ _ _ _ _ _ _ (T4.setTop (mkF m 30 #[.val (.long q0), .second, .val (.int (1 : Int32)), .val (.ref b2)] [(.int (1 : Int32))]))
    refine Goes.of (fun t k => XS.iconst X4.here hx rfl (hb hby d1_30) k) ?_
    show Goes _ _ _ _ _ _ _ (T4.setTop (mkF m 31 #[.val (.long q0), .second, .val (.int (1 : Int32)), .val (.ref b2)] [(.int (2 : Int32)), (.int (1 : Int32))]))
    refine Goes.of (fun t k => XS.icmpYes X4.here hx rfl (pc0 := 31) (pc' := 42) rfl (hb hby d1_31) rfl (flt (by decide : ¬ ((2 : Int32) < (1 : Int32)))).2.2.2 (by decide) (by decide) k) ?_
    show Goes _ _ _ _ _ _ _ (T4.setTop (mkF m 42 #[.val (.long q0), .second, .val (.int (1 : Int32)), .val (.ref b2)] []))
    refine Goes.of (fun t k => XS.iloadN X4.here hx rfl (hb hby d1_42) rfl k) ?_
    show Goes _ _ _ _ _ _ _ (T4.setTop (mkF m 43 #[.val (.long q0), .second, .val (.int (1 : Int32)), .val (.ref b2)] [(.int (1 : Int32))]))
    refine Goes.of (fun t k => XS.iconst X4.here hx rfl (hb hby d1_43) k) ?_
    show Goes _ _ _ _ _ _ _ (T4.setTop (mkF m 44 #[.val (.long q0), .second, .val (.int (1 : Int32)), .val (.ref b2)] [(.int (3 : Int32)), (.int (1 : Int32))]))
    refine Goes.of (fun t k => XS.icmpYes X4.here hx rfl (pc0 := 44) (pc' := 55) rfl (hb hby d1_44) rfl (flt (by decide : ¬ ((3 : Int32) < (1 : Int32)))).2.2.2 (by decide) (by decide) k) ?_
    show Goes _ _ _ _ _ _ _ (T4.setTop (mkF m 55 #[.val (.long q0), .second, .val (.int (1 : Int32)), .val (.ref b2)] []))
    refine Goes.of (fun t k => XS.iloadN X4.here hx rfl (hb hby d1_55) rfl k) ?_
    show Goes _ _ _ _ _ _ _ (T4.setTop (mkF m 56 #[.val (.long q0), .second, .val (.int (1 : Int32)), .val (.ref b2)] [(.int (1 : Int32))]))
    refine Goes.of (fun t k => XS.iconst X4.here hx rfl (hb hby d1_56) k) ?_
    show Goes _ _ _ _ _ _ _ (T4.setTop (mkF m 57 #[.val (.long q0), .second, .val (.int (1 : Int32)), .val (.ref b2)] [(.int (4 : Int32)), (.int (1 : Int32))]))
    refine Goes.of (fun t k => XS.icmpYes X4.here hx rfl (pc0 := 57) (pc' := 68) rfl (hb hby d1_57) rfl (flt (by decide : ¬ ((4 : Int32) < (1 : Int32)))).2.2.2 (by decide) (by decide) k) ?_
    show Goes _ _ _ _ _ _ _ (T4.setTop (mkF m 68 #[.val (.long q0), .second, .val (.int (1 : Int32)), .val (.ref b2)] []))
    refine Goes.of (fun t k => XS.iloadN X4.here hx rfl (hb hby d1_68) rfl k) ?_
    show Goes _ _ _ _ _ _ _ (T4.setTop (mkF m 69 #[.val (.long q0), .second, .val (.int (1 : Int32)), .val (.ref b2)] [(.int (1 : Int32))]))
    refine Goes.of (fun t k => XS.iconst X4.here hx rfl (hb hby d1_69) k) ?_
    show Goes _ _ _ _ _ _ _ (T4.setTop (mkF m 70 #[.val (.long q0), .second, .val (.int (1 : Int32)), .val (.ref b2)] [(.int (5 : Int32)), (.int (1 : Int32))]))
    refine Goes.of (fun t k => XS.icmpYes X4.here hx rfl (pc0 := 70) (pc' := 81) rfl (hb hby d1_70) rfl (flt (by decide : ¬ ((5 : Int32) < (1 : Int32)))).2.2.2 (by decide) (by decide) k) ?_
    show Goes _ _ _ _ _ _ _ (T4.setTop (mkF m 81 #[.val (.long q0), .second, .val (.int (1 : Int32)), .val (.ref b2)] []))
    refine Goes.of (fun t k => XS.iloadN X4.here hx rfl (hb hby d1_81) rfl k) ?_
    show Goes _ _ _ _ _ _ _ (T4.setTop (mkF m 82 #[.val (.long q0), .second, .val (.int (1 : Int32)), .val (.ref b2)] [(.int (1 : Int32))]))
    refine Goes.of (fun t k => XS.bipush X4.here hx rfl (hb hby d1_82) k) ?_
    show Goes _ _ _ _ _ _ _ (T4.setTop (mkF m 84 #[.val (.long q0), .second, .val (.int (1 : Int32)), .val (.ref b2)] [(.int (6 : Int32)), (.int (1 : Int32))]))
    refine Goes.of (fun t k => XS.icmpYes X4.here hx rfl (pc0 := 84) (pc' := 97) rfl (hb hby d1_84) rfl (flt (by decide : ¬ ((6 : Int32) < (1 : Int32)))).2.2.2 (by decide) (by decide) k) ?_
    show Goes _ _ _ _ _ _ _ (T4.setTop (mkF m 97 #[.val (.long q0), .second, .val (.int (1 : Int32)), .val (.ref b2)] []))
    refine Goes.of (fun t k => XS.iloadN X4.here hx rfl (hb hby d1_97) rfl k) ?_
    show Goes _ _ _ _ _ _ _ (T4.setTop (mkF m 98 #[.val (.long q0), .second, .val (.int (1 : Int32)), .val (.ref b2)] [(.int (1 : Int32))]))
    refine Goes.of (fun t k => XS.bipush X4.here hx rfl (hb hby d1_98) k) ?_
    show Goes _ _ _ _ _ _ _ (T4.setTop (mkF m 100 #[.val (.long q0), .second, .val (.int (1 : Int32)), .val (.ref b2)] [(.int (7 : Int32)), (.int (1 : Int32))]))
    refine Goes.of (fun t k => XS.icmpYes X4.here hx rfl (pc0 := 100) (pc' := 113) rfl (hb hby d1_100) rfl (flt (by decide : ¬ ((7 : Int32) < (1 : Int32)))).2.2.2 (by decide) (by decide) k) ?_
    show Goes _ _ _ _ _ _ _ (T4.setTop (mkF m 113 #[.val (.long q0), .second, .val (.int (1 : Int32)), .val (.ref b2)] []))
    refine Goes.of (fun t k => XS.aloadN X4.here hx rfl (hb hby d1_113) rfl rfl k) ?_
    show Goes _ _ _ _ _ _ _ (T4.setTop (mkF m 114 #[.val (.long q0), .second, .val (.int (1 : Int32)), .val (.ref b2)] [(.ref b2)]))
    exact Goes.fin X4 hlk (v := some (.ref b2)) (fun h => by rw [Bd.returns] at h; cases h) (fun fs hr => retOut X4 hx Bd.returns (by rfl) (Or.inr (Or.inr (Or.inr (Or.inr ⟨rfl, rfl, rfl⟩)))) (hb hby d1_114) hr) (by rw [e4]; exact ⟨b2, rfl, N4, K4, sz_b2, V4.congr (fun j hj => by
          have hj' : j = 0 := by omega
          rcases hj' with rfl <;> rfl)⟩) (by decide) (by decide)
  · refine Goes.of (fun t k => XS.iloadN X0.here hx rfl (hb hby d1_0) rfl k) ?_
    show Goes _ _ _ _ _ _ _ (s₁.setTop (mkF m 1 #[.val (.long q0), .second, .val (.int (2 : Int32)), .unset] [(.int (2 : Int32))]))
    obtain ⟨T5, h5, k5, X5, e5, E5, A5, Ea5, st5⟩ := newPE X0 hx hZ (hw _ (List.mem_of_getElem? (i := 0) rfl)) e0 (g := (mkF m 1 #[.val (.long q0), .second, .val (.int (2 : Int32)), .unset] [(.int (2 : Int32))])) rfl (hb hby d1_1) rfl (by decide) (cap := 8) (by decide) (by decide) (by decide) (by decide) (ad := "[B") (by decide)
    obtain ⟨b5, g5⟩ : ∃ z, z = h0.size := ⟨_, rfl⟩
    rw [← g5] at A5 Ea5 st5
    have V5 : AI Z h5 b5 .byte 2 (fun _ => 0) := AI.new rfl rfl A5 (by decide) (by decide)
    have g_b5 : n0 ≤ b5 := Nat.le_trans Z0 (Nat.le_of_eq g5.symm)
    have sz_b5 : h0.size ≤ b5 := Nat.le_trans (Keep.refl h0 []).1 (Nat.le_of_eq g5.symm)
    have Z5 : n0 ≤ h5.size := Nat.le_trans Z0 E5.1
    have K5 : Keep h0 h5 [] := (Keep.refl h0 []).ext E5
    refine Goes.of st5 ?_
    show Goes _ _ _ _ _ _ _ (T5.setTop (mkF m 3 #[.val (.long q0), .second, .val (.int (2 : Int32)), .unset] [(.ref b5)]))
    refine Goes.of (fun t k => XS.astoreN X5.here hx rfl (hb hby d1_3) rfl rfl (l' := #[.val (.long q0), .second, .val (.int (2 : Int32)), .val (.ref b5)]) rfl k) ?_
    show Goes _ _ _ _ _ _ _ (T5.setTop (mkF m 4 #[.val (.long q0), .second, .val (.int (2 : Int32)), .val (.ref b5)] []))
    refine Goes.of (fun t k => XS.iloadN X5.here hx rfl (hb hby d1_4) rfl k) ?_
    show Goes _ _ _ _ _ _ _ (T5.setTop (mkF m 5 #[.val (.long q0), .second, .val (.int (2 : Int32)), .val (.ref b5)] [(.int (2 : Int32))]))
    refine Goes.of (fun t k => XS.ifNo X5.here hx rfl (hb hby d1_5) rfl ((if0 _ _).trans (tlt (by decide : (0 : Int32) < (2 : Int32))).2.2.2) k) ?_
    show Goes _ _ _ _ _ _ _ (T5.setTop (mkF m 8 #[.val (.long q0), .second, .val (.int (2 : Int32)), .val (.ref b5)] []))
    refine Goes.of (fun t k => XS.aloadN X5.here hx rfl (hb hby d1_8) rfl rfl k) ?_
    show Goes _ _ _ _ _ _ _ (T5.setTop (mkF m 9 #[.val (.long q0), .second, .val (.int (2 : Int32)), .val (.ref b5)] [(.ref b5)]))
    refine Goes.of (fun t k => XS.iconst X5.here hx rfl (hb hby d1_9) k) ?_
    show Goes _ _ _ _ _ _ _ (T5.setTop (mkF m 10 #[.val (.long q0), .second, .val (.int (2 : Int32)), .val (.ref b5)] [(.int (0 : Int32)), (.ref b5)]))
    refine Goes.of (fun t k => XS.lloadN X5.here hx rfl (hb hby d1_10) rfl k) ?_
    show Goes _ _ _ _ _ _ _ (T5.setTop (mkF m 11 #[.val (.long q0), .second, .val (.int (2 : Int32)), .val (.ref b5)] [(.long q0), (.int (0 : Int32)), (.ref b5)]))
    refine Goes.of (fun t k => XS.iconst X5.here hx rfl (hb hby d1_11) k) ?_
    show Goes _ _ _ _ _ _ _ (T5.setTop (mkF m 12 #[.val (.long q0), .second, .val (.int (2 : Int32)), .val (.ref b5)] [(.int (0 : Int32)), (.long q0), (.int (0 : Int32)), (.ref b5)]))
    obtain ⟨_, _, ⟨T6, L6, k6, n6⟩, -, X6, ⟨Lc6, hQ6, l6, y6, z6⟩, st6⟩ := Jvm.LawKit.callS X5 hx (y := (⟨"com/example/vhost/vhost/util/HashesFnv1aPinLaw", "at", "(JI)B"⟩ : MethodName)) hown (mvT hZ (hw _ (List.mem_of_getElem? (i := 5) rfl))) (mvT hZ (hw _ (List.mem_of_getElem? (i := 6) rfl))) (mvT hZ (hw _ (List.mem_of_getElem? (i := 3) rfl))) (mvT hZ (hw _ (List.mem_of_getElem? (i := 7) rfl))) (by decide) (backOf (W := 2) (rm2 l Z a0 hw [] q0 (0 : Int32)  h5 n0 ) hZ (hw _ (List.mem_of_getElem? (i := 7) rfl)) (hw _ (List.mem_of_getElem? (i := 3) rfl)) (by decide) (by decide)) (g := (mkF m 12 #[.val (.long q0), .second, .val (.int (2 : Int32)), .val (.ref b5)] [(.int (0 : Int32)), (.long q0), (.int (0 : Int32)), (.ref b5)])) rfl (by rw [hml]; rfl) (argsL := [(.long q0), (.int (0 : Int32))]) (rest := [(.int (0 : Int32)), (.ref b5)]) (lenOf pd_0 rfl) rfl (by show 2 * 0 + _ ≤ _; exact Nat.le_of_eq rfl) (hb hby d1_12) (fun _ _ => ⟨rfl, e5, (by decide : 1 + 0 ≤ _), (by decide : 8 + 0 ≤ _)⟩)
    dsimp only [Pt.U, Pt.locs, Pt.cells, Pt.slots] at X6 l6 y6 z6 st6 hQ6
    subst l6 y6 z6
    obtain ⟨rfl, N6q, e6⟩ := hQ6
    have N6 := Fr.app N0 N6q
    refine Goes.of st6 ?_
    show Goes _ _ _ _ _ _ _ (T6.setTop (mkF m 15 #[.val (.long q0), .second, .val (.int (2 : Int32)), .val (.ref b5)] [(.int (f2 q0 (0 : Int32))), (.int (0 : Int32)), (.ref b5)]))
    obtain ⟨T7, h7, X7, e7, W7, V7, st7⟩ := putB X6 hx hZ e6 V5 (j := (0 : Int32)) (x := (f2 q0 (0 : Int32))) (i := 0) (by decide) (by decide) (by decide) (g := (mkF m 15 #[.val (.long q0), .second, .val (.int (2 : Int32)), .val (.ref b5)] [(.int (f2 q0 (0 : Int32))), (.int (0 : Int32)), (.ref b5)])) rfl rfl (hb hby d1_15)
    have Z7 : n0 ≤ h7.size := Nat.le_trans Z5 (Keep.of_wr W7).1
    have K7 : Keep h0 h7 [] := K5.wr W7 (Or.inr sz_b5)
    have N7 := Fr.snoc X7 N6 g_b5
    refine Goes.of st7 ?_
    show Goes _ _ _ _ _ _ _ (T7.setTop (mkF m 16 #[.val (.long q0), .second, .val (.int (2 : Int32)), .val (.ref b5)] []))
    refine Goes.of (fun t k => XS.iloadN X7.here hx rfl (hb hby d1_16) rfl k) ?_
    show Goes _ _ _ _ _ _ _ (T7.setTop (mkF m 17 #[.val (.long q0), .second, .val (.int (2 : Int32)), .val (.ref b5)] [(.int (2 : Int32))]))
    refine Goes.of (fun t k => XS.iconst X7.here hx rfl (hb hby d1_17) k) ?_
    show Goes _ _ _ _ _ _ _ (T7.setTop (mkF m 18 #[.val (.long q0), .second, .val (.int (2 : Int32)), .val (.ref b5)] [(.int (1 : Int32)), (.int (2 : Int32))]))
    refine Goes.of (fun t k => XS.icmpNo X7.here hx rfl (hb hby d1_18) rfl (tlt (by decide : (1 : Int32) < (2 : Int32))).2.2.2 k) ?_
    show Goes _ _ _ _ _ _ _ (T7.setTop (mkF m 21 #[.val (.long q0), .second, .val (.int (2 : Int32)), .val (.ref b5)] []))
    refine Goes.of (fun t k => XS.aloadN X7.here hx rfl (hb hby d1_21) rfl rfl k) ?_
    show Goes _ _ _ _ _ _ _ (T7.setTop (mkF m 22 #[.val (.long q0), .second, .val (.int (2 : Int32)), .val (.ref b5)] [(.ref b5)]))
    refine Goes.of (fun t k => XS.iconst X7.here hx rfl (hb hby d1_22) k) ?_
    show Goes _ _ _ _ _ _ _ (T7.setTop (mkF m 23 #[.val (.long q0), .second, .val (.int (2 : Int32)), .val (.ref b5)] [(.int (1 : Int32)), (.ref b5)]))
    refine Goes.of (fun t k => XS.lloadN X7.here hx rfl (hb hby d1_23) rfl k) ?_
    show Goes _ _ _ _ _ _ _ (T7.setTop (mkF m 24 #[.val (.long q0), .second, .val (.int (2 : Int32)), .val (.ref b5)] [(.long q0), (.int (1 : Int32)), (.ref b5)]))
    refine Goes.of (fun t k => XS.iconst X7.here hx rfl (hb hby d1_24) k) ?_
    show Goes _ _ _ _ _ _ _ (T7.setTop (mkF m 25 #[.val (.long q0), .second, .val (.int (2 : Int32)), .val (.ref b5)] [(.int (1 : Int32)), (.long q0), (.int (1 : Int32)), (.ref b5)]))
    obtain ⟨_, _, ⟨T8, L8, k8, n8⟩, -, X8, ⟨Lc8, hQ8, l8, y8, z8⟩, st8⟩ := Jvm.LawKit.callS X7 hx (y := (⟨"com/example/vhost/vhost/util/HashesFnv1aPinLaw", "at", "(JI)B"⟩ : MethodName)) hown (mvT hZ (hw _ (List.mem_of_getElem? (i := 5) rfl))) (mvT hZ (hw _ (List.mem_of_getElem? (i := 6) rfl))) (mvT hZ (hw _ (List.mem_of_getElem? (i := 3) rfl))) (mvT hZ (hw _ (List.mem_of_getElem? (i := 7) rfl))) (by decide) (backOf (W := 2) (rm2 l Z a0 hw [] q0 (1 : Int32)  h7 n0 ) hZ (hw _ (List.mem_of_getElem? (i := 7) rfl)) (hw _ (List.mem_of_getElem? (i := 3) rfl)) (by decide) (by decide)) (g := (mkF m 25 #[.val (.long q0), .second, .val (.int (2 : Int32)), .val (.ref b5)] [(.int (1 : Int32)), (.long q0), (.int (1 : Int32)), (.ref b5)])) rfl (by rw [hml]; rfl) (argsL := [(.long q0), (.int (1 : Int32))]) (rest := [(.int (1 : Int32)), (.ref b5)]) (lenOf pd_0 rfl) rfl (by show 2 * 0 + _ ≤ _; exact Nat.le_of_eq rfl) (hb hby d1_25) (fun _ _ => ⟨rfl, e7, (by decide : 1 + 0 ≤ _), (by decide : 8 + 0 ≤ _)⟩)
    dsimp only [Pt.U, Pt.locs, Pt.cells, Pt.slots] at X8 l8 y8 z8 st8 hQ8
    subst l8 y8 z8
    obtain ⟨rfl, N8q, e8⟩ := hQ8
    have N8 := Fr.app N7 N8q
    refine Goes.of st8 ?_
    show Goes _ _ _ _ _ _ _ (T8.setTop (mkF m 28 #[.val (.long q0), .second, .val (.int (2 : Int32)), .val (.ref b5)] [(.int (f2 q0 (1 : Int32))), (.int (1 : Int32)), (.ref b5)]))
    obtain ⟨T9, h9, X9, e9, W9, V9, st9⟩ := putB X8 hx hZ e8 V7 (j := (1 : Int32)) (x := (f2 q0 (1 : Int32))) (i := 1) (by decide) (by decide) (by decide) (g := (mkF m 28 #[.val (.long q0), .second, .val (.int (2 : Int32)), .val (.ref b5)] [(.int (f2 q0 (1 : Int32))), (.int (1 : Int32)), (.ref b5)])) rfl rfl (hb hby d1_28)
    have Z9 : n0 ≤ h9.size := Nat.le_trans Z7 (Keep.of_wr W9).1
    have K9 : Keep h0 h9 [] := K7.wr W9 (Or.inr sz_b5)
    have N9 := Fr.snoc X9 N8 g_b5
    refine Goes.of st9 ?_
    show Goes _ _ _ _ _ _ _ (T9.setTop (mkF m 29 #[.val (.long q0), .second, .val (.int (2 : Int32)), .val (.ref b5)] []))
    refine Goes.of (fun t k => XS.iloadN X9.here hx rfl (hb hby d1_29) rfl k) ?_
    show Goes _ _ _ _ _ _ _ (T9.setTop (mkF m 30 #[.val (.long q0), .second, .val (.int (2 : Int32)), .val (.ref b5)] [(.int (2 : Int32))]))
    refine Goes.of (fun t k => XS.iconst X9.here hx rfl (hb hby d1_30) k) ?_
    show Goes _ _ _ _ _ _ _ (T9.setTop (mkF m 31 #[.val (.long q0), .second, .val (.int (2 : Int32)), .val (.ref b5)] [(.int (2 : Int32)), (.int (2 : Int32))]))
    refine Goes.of (fun t k => XS.icmpYes X9.here hx rfl (pc0 := 31) (pc' := 42) rfl (hb hby d1_31) rfl (flt (by decide : ¬ ((2 : Int32) < (2 : Int32)))).2.2.2 (by decide) (by decide) k) ?_
    show Goes _ _ _ _ _ _ _ (T9.setTop (mkF m 42 #[.val (.long q0), .second, .val (.int (2 : Int32)), .val (.ref b5)] []))
    refine Goes.of (fun t k => XS.iloadN X9.here hx rfl (hb hby d1_42) rfl k) ?_
    show Goes _ _ _ _ _ _ _ (T9.setTop (mkF m 43 #[.val (.long q0), .second, .val (.int (2 : Int32)), .val (.ref b5)] [(.int (2 : Int32))]))
    refine Goes.of (fun t k => XS.iconst X9.here hx rfl (hb hby d1_43) k) ?_
    show Goes _ _ _ _ _ _ _ (T9.setTop (mkF m 44 #[.val (.long q0), .second, .val (.int (2 : Int32)), .val (.ref b5)] [(.int (3 : Int32)), (.int (2 : Int32))]))
    refine Goes.of (fun t k => XS.icmpYes X9.here hx rfl (pc0 := 44) (pc' := 55) rfl (hb hby d1_44) rfl (flt (by decide : ¬ ((3 : Int32) < (2 : Int32)))).2.2.2 (by decide) (by decide) k) ?_
    show Goes _ _ _ _ _ _ _ (T9.setTop (mkF m 55 #[.val (.long q0), .second, .val (.int (2 : Int32)), .val (.ref b5)] []))
    refine Goes.of (fun t k => XS.iloadN X9.here hx rfl (hb hby d1_55) rfl k) ?_
    show Goes _ _ _ _ _ _ _ (T9.setTop (mkF m 56 #[.val (.long q0), .second, .val (.int (2 : Int32)), .val (.ref b5)] [(.int (2 : Int32))]))
    refine Goes.of (fun t k => XS.iconst X9.here hx rfl (hb hby d1_56) k) ?_
    show Goes _ _ _ _ _ _ _ (T9.setTop (mkF m 57 #[.val (.long q0), .second, .val (.int (2 : Int32)), .val (.ref b5)] [(.int (4 : Int32)), (.int (2 : Int32))]))
    refine Goes.of (fun t k => XS.icmpYes X9.here hx rfl (pc0 := 57) (pc' := 68) rfl (hb hby d1_57) rfl (flt (by decide : ¬ ((4 : Int32) < (2 : Int32)))).2.2.2 (by decide) (by decide) k) ?_
    show Goes _ _ _ _ _ _ _ (T9.setTop (mkF m 68 #[.val (.long q0), .second, .val (.int (2 : Int32)), .val (.ref b5)] []))
    refine Goes.of (fun t k => XS.iloadN X9.here hx rfl (hb hby d1_68) rfl k) ?_
    show Goes _ _ _ _ _ _ _ (T9.setTop (mkF m 69 #[.val (.long q0), .second, .val (.int (2 : Int32)), .val (.ref b5)] [(.int (2 : Int32))]))
    refine Goes.of (fun t k => XS.iconst X9.here hx rfl (hb hby d1_69) k) ?_
    show Goes _ _ _ _ _ _ _ (T9.setTop (mkF m 70 #[.val (.long q0), .second, .val (.int (2 : Int32)), .val (.ref b5)] [(.int (5 : Int32)), (.int (2 : Int32))]))
    refine Goes.of (fun t k => XS.icmpYes X9.here hx rfl (pc0 := 70) (pc' := 81) rfl (hb hby d1_70) rfl (flt (by decide : ¬ ((5 : Int32) < (2 : Int32)))).2.2.2 (by decide) (by decide) k) ?_
    show Goes _ _ _ _ _ _ _ (T9.setTop (mkF m 81 #[.val (.long q0), .second, .val (.int (2 : Int32)), .val (.ref b5)] []))
    refine Goes.of (fun t k => XS.iloadN X9.here hx rfl (hb hby d1_81) rfl k) ?_
    show Goes _ _ _ _ _ _ _ (T9.setTop (mkF m 82 #[.val (.long q0), .second, .val (.int (2 : Int32)), .val (.ref b5)] [(.int (2 : Int32))]))
    refine Goes.of (fun t k => XS.bipush X9.here hx rfl (hb hby d1_82) k) ?_
    show Goes _ _ _ _ _ _ _ (T9.setTop (mkF m 84 #[.val (.long q0), .second, .val (.int (2 : Int32)), .val (.ref b5)] [(.int (6 : Int32)), (.int (2 : Int32))]))
    refine Goes.of (fun t k => XS.icmpYes X9.here hx rfl (pc0 := 84) (pc' := 97) rfl (hb hby d1_84) rfl (flt (by decide : ¬ ((6 : Int32) < (2 : Int32)))).2.2.2 (by decide) (by decide) k) ?_
    show Goes _ _ _ _ _ _ _ (T9.setTop (mkF m 97 #[.val (.long q0), .second, .val (.int (2 : Int32)), .val (.ref b5)] []))
    refine Goes.of (fun t k => XS.iloadN X9.here hx rfl (hb hby d1_97) rfl k) ?_
    show Goes _ _ _ _ _ _ _ (T9.setTop (mkF m 98 #[.val (.long q0), .second, .val (.int (2 : Int32)), .val (.ref b5)] [(.int (2 : Int32))]))
    refine Goes.of (fun t k => XS.bipush X9.here hx rfl (hb hby d1_98) k) ?_
    show Goes _ _ _ _ _ _ _ (T9.setTop (mkF m 100 #[.val (.long q0), .second, .val (.int (2 : Int32)), .val (.ref b5)] [(.int (7 : Int32)), (.int (2 : Int32))]))
    refine Goes.of (fun t k => XS.icmpYes X9.here hx rfl (pc0 := 100) (pc' := 113) rfl (hb hby d1_100) rfl (flt (by decide : ¬ ((7 : Int32) < (2 : Int32)))).2.2.2 (by decide) (by decide) k) ?_
    show Goes _ _ _ _ _ _ _ (T9.setTop (mkF m 113 #[.val (.long q0), .second, .val (.int (2 : Int32)), .val (.ref b5)] []))
    refine Goes.of (fun t k => XS.aloadN X9.here hx rfl (hb hby d1_113) rfl rfl k) ?_
    show Goes _ _ _ _ _ _ _ (T9.setTop (mkF m 114 #[.val (.long q0), .second, .val (.int (2 : Int32)), .val (.ref b5)] [(.ref b5)]))
    exact Goes.fin X9 hlk (v := some (.ref b5)) (fun h => by rw [Bd.returns] at h; cases h) (fun fs hr => retOut X9 hx Bd.returns (by rfl) (Or.inr (Or.inr (Or.inr (Or.inr ⟨rfl, rfl, rfl⟩)))) (hb hby d1_114) hr) (by rw [e9]; exact ⟨b5, rfl, N9, K9, sz_b5, V9.congr (fun j hj => by
          have hj' : j = 0 ∨ j = 1 := by omega
          rcases hj' with rfl | rfl <;> rfl)⟩) (by decide) (by decide)
  · refine Goes.of (fun t k => XS.iloadN X0.here hx rfl (hb hby d1_0) rfl k) ?_
    show Goes _ _ _ _ _ _ _ (s₁.setTop (mkF m 1 #[.val (.long q0), .second, .val (.int (3 : Int32)), .unset] [(.int (3 : Int32))]))
    obtain ⟨T10, h10, k10, X10, e10, E10, A10, Ea10, st10⟩ := newPE X0 hx hZ (hw _ (List.mem_of_getElem? (i := 0) rfl)) e0 (g := (mkF m 1 #[.val (.long q0), .second, .val (.int (3 : Int32)), .unset] [(.int (3 : Int32))])) rfl (hb hby d1_1) rfl (by decide) (cap := 8) (by decide) (by decide) (by decide) (by decide) (ad := "[B") (by decide)
    obtain ⟨b10, g10⟩ : ∃ z, z = h0.size := ⟨_, rfl⟩
    rw [← g10] at A10 Ea10 st10
    have V10 : AI Z h10 b10 .byte 3 (fun _ => 0) := AI.new rfl rfl A10 (by decide) (by decide)
    have g_b10 : n0 ≤ b10 := Nat.le_trans Z0 (Nat.le_of_eq g10.symm)
    have sz_b10 : h0.size ≤ b10 := Nat.le_trans (Keep.refl h0 []).1 (Nat.le_of_eq g10.symm)
    have Z10 : n0 ≤ h10.size := Nat.le_trans Z0 E10.1
    have K10 : Keep h0 h10 [] := (Keep.refl h0 []).ext E10
    refine Goes.of st10 ?_
    show Goes _ _ _ _ _ _ _ (T10.setTop (mkF m 3 #[.val (.long q0), .second, .val (.int (3 : Int32)), .unset] [(.ref b10)]))
    refine Goes.of (fun t k => XS.astoreN X10.here hx rfl (hb hby d1_3) rfl rfl (l' := #[.val (.long q0), .second, .val (.int (3 : Int32)), .val (.ref b10)]) rfl k) ?_
    show Goes _ _ _ _ _ _ _ (T10.setTop (mkF m 4 #[.val (.long q0), .second, .val (.int (3 : Int32)), .val (.ref b10)] []))
    refine Goes.of (fun t k => XS.iloadN X10.here hx rfl (hb hby d1_4) rfl k) ?_
    show Goes _ _ _ _ _ _ _ (T10.setTop (mkF m 5 #[.val (.long q0), .second, .val (.int (3 : Int32)), .val (.ref b10)] [(.int (3 : Int32))]))
    refine Goes.of (fun t k => XS.ifNo X10.here hx rfl (hb hby d1_5) rfl ((if0 _ _).trans (tlt (by decide : (0 : Int32) < (3 : Int32))).2.2.2) k) ?_
    show Goes _ _ _ _ _ _ _ (T10.setTop (mkF m 8 #[.val (.long q0), .second, .val (.int (3 : Int32)), .val (.ref b10)] []))
    refine Goes.of (fun t k => XS.aloadN X10.here hx rfl (hb hby d1_8) rfl rfl k) ?_
    show Goes _ _ _ _ _ _ _ (T10.setTop (mkF m 9 #[.val (.long q0), .second, .val (.int (3 : Int32)), .val (.ref b10)] [(.ref b10)]))
    refine Goes.of (fun t k => XS.iconst X10.here hx rfl (hb hby d1_9) k) ?_
    show Goes _ _ _ _ _ _ _ (T10.setTop (mkF m 10 #[.val (.long q0), .second, .val (.int (3 : Int32)), .val (.ref b10)] [(.int (0 : Int32)), (.ref b10)]))
    refine Goes.of (fun t k => XS.lloadN X10.here hx rfl (hb hby d1_10) rfl k) ?_
    show Goes _ _ _ _ _ _ _ (T10.setTop (mkF m 11 #[.val (.long q0), .second, .val (.int (3 : Int32)), .val (.ref b10)] [(.long q0), (.int (0 : Int32)), (.ref b10)]))
    refine Goes.of (fun t k => XS.iconst X10.here hx rfl (hb hby d1_11) k) ?_
    show Goes _ _ _ _ _ _ _ (T10.setTop (mkF m 12 #[.val (.long q0), .second, .val (.int (3 : Int32)), .val (.ref b10)] [(.int (0 : Int32)), (.long q0), (.int (0 : Int32)), (.ref b10)]))
    obtain ⟨_, _, ⟨T11, L11, k11, n11⟩, -, X11, ⟨Lc11, hQ11, l11, y11, z11⟩, st11⟩ := Jvm.LawKit.callS X10 hx (y := (⟨"com/example/vhost/vhost/util/HashesFnv1aPinLaw", "at", "(JI)B"⟩ : MethodName)) hown (mvT hZ (hw _ (List.mem_of_getElem? (i := 5) rfl))) (mvT hZ (hw _ (List.mem_of_getElem? (i := 6) rfl))) (mvT hZ (hw _ (List.mem_of_getElem? (i := 3) rfl))) (mvT hZ (hw _ (List.mem_of_getElem? (i := 7) rfl))) (by decide) (backOf (W := 2) (rm2 l Z a0 hw [] q0 (0 : Int32)  h10 n0 ) hZ (hw _ (List.mem_of_getElem? (i := 7) rfl)) (hw _ (List.mem_of_getElem? (i := 3) rfl)) (by decide) (by decide)) (g := (mkF m 12 #[.val (.long q0), .second, .val (.int (3 : Int32)), .val (.ref b10)] [(.int (0 : Int32)), (.long q0), (.int (0 : Int32)), (.ref b10)])) rfl (by rw [hml]; rfl) (argsL := [(.long q0), (.int (0 : Int32))]) (rest := [(.int (0 : Int32)), (.ref b10)]) (lenOf pd_0 rfl) rfl (by show 2 * 0 + _ ≤ _; exact Nat.le_of_eq rfl) (hb hby d1_12) (fun _ _ => ⟨rfl, e10, (by decide : 1 + 0 ≤ _), (by decide : 8 + 0 ≤ _)⟩)
    dsimp only [Pt.U, Pt.locs, Pt.cells, Pt.slots] at X11 l11 y11 z11 st11 hQ11
    subst l11 y11 z11
    obtain ⟨rfl, N11q, e11⟩ := hQ11
    have N11 := Fr.app N0 N11q
    refine Goes.of st11 ?_
    show Goes _ _ _ _ _ _ _ (T11.setTop (mkF m 15 #[.val (.long q0), .second, .val (.int (3 : Int32)), .val (.ref b10)] [(.int (f2 q0 (0 : Int32))), (.int (0 : Int32)), (.ref b10)]))
    obtain ⟨T12, h12, X12, e12, W12, V12, st12⟩ := putB X11 hx hZ e11 V10 (j := (0 : Int32)) (x := (f2 q0 (0 : Int32))) (i := 0) (by decide) (by decide) (by decide) (g := (mkF m 15 #[.val (.long q0), .second, .val (.int (3 : Int32)), .val (.ref b10)] [(.int (f2 q0 (0 : Int32))), (.int (0 : Int32)), (.ref b10)])) rfl rfl (hb hby d1_15)
    have Z12 : n0 ≤ h12.size := Nat.le_trans Z10 (Keep.of_wr W12).1
    have K12 : Keep h0 h12 [] := K10.wr W12 (Or.inr sz_b10)
    have N12 := Fr.snoc X12 N11 g_b10
    refine Goes.of st12 ?_
    show Goes _ _ _ _ _ _ _ (T12.setTop (mkF m 16 #[.val (.long q0), .second, .val (.int (3 : Int32)), .val (.ref b10)] []))
    refine Goes.of (fun t k => XS.iloadN X12.here hx rfl (hb hby d1_16) rfl k) ?_
    show Goes _ _ _ _ _ _ _ (T12.setTop (mkF m 17 #[.val (.long q0), .second, .val (.int (3 : Int32)), .val (.ref b10)] [(.int (3 : Int32))]))
    refine Goes.of (fun t k => XS.iconst X12.here hx rfl (hb hby d1_17) k) ?_
    show Goes _ _ _ _ _ _ _ (T12.setTop (mkF m 18 #[.val (.long q0), .second, .val (.int (3 : Int32)), .val (.ref b10)] [(.int (1 : Int32)), (.int (3 : Int32))]))
    refine Goes.of (fun t k => XS.icmpNo X12.here hx rfl (hb hby d1_18) rfl (tlt (by decide : (1 : Int32) < (3 : Int32))).2.2.2 k) ?_
    show Goes _ _ _ _ _ _ _ (T12.setTop (mkF m 21 #[.val (.long q0), .second, .val (.int (3 : Int32)), .val (.ref b10)] []))
    refine Goes.of (fun t k => XS.aloadN X12.here hx rfl (hb hby d1_21) rfl rfl k) ?_
    show Goes _ _ _ _ _ _ _ (T12.setTop (mkF m 22 #[.val (.long q0), .second, .val (.int (3 : Int32)), .val (.ref b10)] [(.ref b10)]))
    refine Goes.of (fun t k => XS.iconst X12.here hx rfl (hb hby d1_22) k) ?_
    show Goes _ _ _ _ _ _ _ (T12.setTop (mkF m 23 #[.val (.long q0), .second, .val (.int (3 : Int32)), .val (.ref b10)] [(.int (1 : Int32)), (.ref b10)]))
    refine Goes.of (fun t k => XS.lloadN X12.here hx rfl (hb hby d1_23) rfl k) ?_
    show Goes _ _ _ _ _ _ _ (T12.setTop (mkF m 24 #[.val (.long q0), .second, .val (.int (3 : Int32)), .val (.ref b10)] [(.long q0), (.int (1 : Int32)), (.ref b10)]))
    refine Goes.of (fun t k => XS.iconst X12.here hx rfl (hb hby d1_24) k) ?_
    show Goes _ _ _ _ _ _ _ (T12.setTop (mkF m 25 #[.val (.long q0), .second, .val (.int (3 : Int32)), .val (.ref b10)] [(.int (1 : Int32)), (.long q0), (.int (1 : Int32)), (.ref b10)]))
    obtain ⟨_, _, ⟨T13, L13, k13, n13⟩, -, X13, ⟨Lc13, hQ13, l13, y13, z13⟩, st13⟩ := Jvm.LawKit.callS X12 hx (y := (⟨"com/example/vhost/vhost/util/HashesFnv1aPinLaw", "at", "(JI)B"⟩ : MethodName)) hown (mvT hZ (hw _ (List.mem_of_getElem? (i := 5) rfl))) (mvT hZ (hw _ (List.mem_of_getElem? (i := 6) rfl))) (mvT hZ (hw _ (List.mem_of_getElem? (i := 3) rfl))) (mvT hZ (hw _ (List.mem_of_getElem? (i := 7) rfl))) (by decide) (backOf (W := 2) (rm2 l Z a0 hw [] q0 (1 : Int32)  h12 n0 ) hZ (hw _ (List.mem_of_getElem? (i := 7) rfl)) (hw _ (List.mem_of_getElem? (i := 3) rfl)) (by decide) (by decide)) (g := (mkF m 25 #[.val (.long q0), .second, .val (.int (3 : Int32)), .val (.ref b10)] [(.int (1 : Int32)), (.long q0), (.int (1 : Int32)), (.ref b10)])) rfl (by rw [hml]; rfl) (argsL := [(.long q0), (.int (1 : Int32))]) (rest := [(.int (1 : Int32)), (.ref b10)]) (lenOf pd_0 rfl) rfl (by show 2 * 0 + _ ≤ _; exact Nat.le_of_eq rfl) (hb hby d1_25) (fun _ _ => ⟨rfl, e12, (by decide : 1 + 0 ≤ _), (by decide : 8 + 0 ≤ _)⟩)
    dsimp only [Pt.U, Pt.locs, Pt.cells, Pt.slots] at X13 l13 y13 z13 st13 hQ13
    subst l13 y13 z13
    obtain ⟨rfl, N13q, e13⟩ := hQ13
    have N13 := Fr.app N12 N13q
    refine Goes.of st13 ?_
    show Goes _ _ _ _ _ _ _ (T13.setTop (mkF m 28 #[.val (.long q0), .second, .val (.int (3 : Int32)), .val (.ref b10)] [(.int (f2 q0 (1 : Int32))), (.int (1 : Int32)), (.ref b10)]))
    obtain ⟨T14, h14, X14, e14, W14, V14, st14⟩ := putB X13 hx hZ e13 V12 (j := (1 : Int32)) (x := (f2 q0 (1 : Int32))) (i := 1) (by decide) (by decide) (by decide) (g := (mkF m 28 #[.val (.long q0), .second, .val (.int (3 : Int32)), .val (.ref b10)] [(.int (f2 q0 (1 : Int32))), (.int (1 : Int32)), (.ref b10)])) rfl rfl (hb hby d1_28)
    have Z14 : n0 ≤ h14.size := Nat.le_trans Z12 (Keep.of_wr W14).1
    have K14 : Keep h0 h14 [] := K12.wr W14 (Or.inr sz_b10)
    have N14 := Fr.snoc X14 N13 g_b10
    refine Goes.of st14 ?_
    show Goes _ _ _ _ _ _ _ (T14.setTop (mkF m 29 #[.val (.long q0), .second, .val (.int (3 : Int32)), .val (.ref b10)] []))
    refine Goes.of (fun t k => XS.iloadN X14.here hx rfl (hb hby d1_29) rfl k) ?_
    show Goes _ _ _ _ _ _ _ (T14.setTop (mkF m 30 #[.val (.long q0), .second, .val (.int (3 : Int32)), .val (.ref b10)] [(.int (3 : Int32))]))
    refine Goes.of (fun t k => XS.iconst X14.here hx rfl (hb hby d1_30) k) ?_
    show Goes _ _ _ _ _ _ _ (T14.setTop (mkF m 31 #[.val (.long q0), .second, .val (.int (3 : Int32)), .val (.ref b10)] [(.int (2 : Int32)), (.int (3 : Int32))]))
    refine Goes.of (fun t k => XS.icmpNo X14.here hx rfl (hb hby d1_31) rfl (tlt (by decide : (2 : Int32) < (3 : Int32))).2.2.2 k) ?_
    show Goes _ _ _ _ _ _ _ (T14.setTop (mkF m 34 #[.val (.long q0), .second, .val (.int (3 : Int32)), .val (.ref b10)] []))
    refine Goes.of (fun t k => XS.aloadN X14.here hx rfl (hb hby d1_34) rfl rfl k) ?_
    show Goes _ _ _ _ _ _ _ (T14.setTop (mkF m 35 #[.val (.long q0), .second, .val (.int (3 : Int32)), .val (.ref b10)] [(.ref b10)]))
    refine Goes.of (fun t k => XS.iconst X14.here hx rfl (hb hby d1_35) k) ?_
    show Goes _ _ _ _ _ _ _ (T14.setTop (mkF m 36 #[.val (.long q0), .second, .val (.int (3 : Int32)), .val (.ref b10)] [(.int (2 : Int32)), (.ref b10)]))
    refine Goes.of (fun t k => XS.lloadN X14.here hx rfl (hb hby d1_36) rfl k) ?_
    show Goes _ _ _ _ _ _ _ (T14.setTop (mkF m 37 #[.val (.long q0), .second, .val (.int (3 : Int32)), .val (.ref b10)] [(.long q0), (.int (2 : Int32)), (.ref b10)]))
    refine Goes.of (fun t k => XS.iconst X14.here hx rfl (hb hby d1_37) k) ?_
    show Goes _ _ _ _ _ _ _ (T14.setTop (mkF m 38 #[.val (.long q0), .second, .val (.int (3 : Int32)), .val (.ref b10)] [(.int (2 : Int32)), (.long q0), (.int (2 : Int32)), (.ref b10)]))
    obtain ⟨_, _, ⟨T15, L15, k15, n15⟩, -, X15, ⟨Lc15, hQ15, l15, y15, z15⟩, st15⟩ := Jvm.LawKit.callS X14 hx (y := (⟨"com/example/vhost/vhost/util/HashesFnv1aPinLaw", "at", "(JI)B"⟩ : MethodName)) hown (mvT hZ (hw _ (List.mem_of_getElem? (i := 5) rfl))) (mvT hZ (hw _ (List.mem_of_getElem? (i := 6) rfl))) (mvT hZ (hw _ (List.mem_of_getElem? (i := 3) rfl))) (mvT hZ (hw _ (List.mem_of_getElem? (i := 7) rfl))) (by decide) (backOf (W := 2) (rm2 l Z a0 hw [] q0 (2 : Int32)  h14 n0 ) hZ (hw _ (List.mem_of_getElem? (i := 7) rfl)) (hw _ (List.mem_of_getElem? (i := 3) rfl)) (by decide) (by decide)) (g := (mkF m 38 #[.val (.long q0), .second, .val (.int (3 : Int32)), .val (.ref b10)] [(.int (2 : Int32)), (.long q0), (.int (2 : Int32)), (.ref b10)])) rfl (by rw [hml]; rfl) (argsL := [(.long q0), (.int (2 : Int32))]) (rest := [(.int (2 : Int32)), (.ref b10)]) (lenOf pd_0 rfl) rfl (by show 2 * 0 + _ ≤ _; exact Nat.le_of_eq rfl) (hb hby d1_38) (fun _ _ => ⟨rfl, e14, (by decide : 1 + 0 ≤ _), (by decide : 8 + 0 ≤ _)⟩)
    dsimp only [Pt.U, Pt.locs, Pt.cells, Pt.slots] at X15 l15 y15 z15 st15 hQ15
    subst l15 y15 z15
    obtain ⟨rfl, N15q, e15⟩ := hQ15
    have N15 := Fr.app N14 N15q
    refine Goes.of st15 ?_
    show Goes _ _ _ _ _ _ _ (T15.setTop (mkF m 41 #[.val (.long q0), .second, .val (.int (3 : Int32)), .val (.ref b10)] [(.int (f2 q0 (2 : Int32))), (.int (2 : Int32)), (.ref b10)]))
    obtain ⟨T16, h16, X16, e16, W16, V16, st16⟩ := putB X15 hx hZ e15 V14 (j := (2 : Int32)) (x := (f2 q0 (2 : Int32))) (i := 2) (by decide) (by decide) (by decide) (g := (mkF m 41 #[.val (.long q0), .second, .val (.int (3 : Int32)), .val (.ref b10)] [(.int (f2 q0 (2 : Int32))), (.int (2 : Int32)), (.ref b10)])) rfl rfl (hb hby d1_41)
    have Z16 : n0 ≤ h16.size := Nat.le_trans Z14 (Keep.of_wr W16).1
    have K16 : Keep h0 h16 [] := K14.wr W16 (Or.inr sz_b10)
    have N16 := Fr.snoc X16 N15 g_b10
    refine Goes.of st16 ?_
    show Goes _ _ _ _ _ _ _ (T16.setTop (mkF m 42 #[.val (.long q0), .second, .val (.int (3 : Int32)), .val (.ref b10)] []))
    refine Goes.of (fun t k => XS.iloadN X16.here hx rfl (hb hby d1_42) rfl k) ?_
    show Goes _ _ _ _ _ _ _ (T16.setTop (mkF m 43 #[.val (.long q0), .second, .val (.int (3 : Int32)), .val (.ref b10)] [(.int (3 : Int32))]))
    refine Goes.of (fun t k => XS.iconst X16.here hx rfl (hb hby d1_43) k) ?_
    show Goes _ _ _ _ _ _ _ (T16.setTop (mkF m 44 #[.val (.long q0), .second, .val (.int (3 : Int32)), .val (.ref b10)] [(.int (3 : Int32)), (.int (3 : Int32))]))
    refine Goes.of (fun t k => XS.icmpYes X16.here hx rfl (pc0 := 44) (pc' := 55) rfl (hb hby d1_44) rfl (flt (by decide : ¬ ((3 : Int32) < (3 : Int32)))).2.2.2 (by decide) (by decide) k) ?_
    show Goes _ _ _ _ _ _ _ (T16.setTop (mkF m 55 #[.val (.long q0), .second, .val (.int (3 : Int32)), .val (.ref b10)] []))
    refine Goes.of (fun t k => XS.iloadN X16.here hx rfl (hb hby d1_55) rfl k) ?_
    show Goes _ _ _ _ _ _ _ (T16.setTop (mkF m 56 #[.val (.long q0), .second, .val (.int (3 : Int32)), .val (.ref b10)] [(.int (3 : Int32))]))
    refine Goes.of (fun t k => XS.iconst X16.here hx rfl (hb hby d1_56) k) ?_
    show Goes _ _ _ _ _ _ _ (T16.setTop (mkF m 57 #[.val (.long q0), .second, .val (.int (3 : Int32)), .val (.ref b10)] [(.int (4 : Int32)), (.int (3 : Int32))]))
    refine Goes.of (fun t k => XS.icmpYes X16.here hx rfl (pc0 := 57) (pc' := 68) rfl (hb hby d1_57) rfl (flt (by decide : ¬ ((4 : Int32) < (3 : Int32)))).2.2.2 (by decide) (by decide) k) ?_
    show Goes _ _ _ _ _ _ _ (T16.setTop (mkF m 68 #[.val (.long q0), .second, .val (.int (3 : Int32)), .val (.ref b10)] []))
    refine Goes.of (fun t k => XS.iloadN X16.here hx rfl (hb hby d1_68) rfl k) ?_
    show Goes _ _ _ _ _ _ _ (T16.setTop (mkF m 69 #[.val (.long q0), .second, .val (.int (3 : Int32)), .val (.ref b10)] [(.int (3 : Int32))]))
    refine Goes.of (fun t k => XS.iconst X16.here hx rfl (hb hby d1_69) k) ?_
    show Goes _ _ _ _ _ _ _ (T16.setTop (mkF m 70 #[.val (.long q0), .second, .val (.int (3 : Int32)), .val (.ref b10)] [(.int (5 : Int32)), (.int (3 : Int32))]))
    refine Goes.of (fun t k => XS.icmpYes X16.here hx rfl (pc0 := 70) (pc' := 81) rfl (hb hby d1_70) rfl (flt (by decide : ¬ ((5 : Int32) < (3 : Int32)))).2.2.2 (by decide) (by decide) k) ?_
    show Goes _ _ _ _ _ _ _ (T16.setTop (mkF m 81 #[.val (.long q0), .second, .val (.int (3 : Int32)), .val (.ref b10)] []))
    refine Goes.of (fun t k => XS.iloadN X16.here hx rfl (hb hby d1_81) rfl k) ?_
    show Goes _ _ _ _ _ _ _ (T16.setTop (mkF m 82 #[.val (.long q0), .second, .val (.int (3 : Int32)), .val (.ref b10)] [(.int (3 : Int32))]))
    refine Goes.of (fun t k => XS.bipush X16.here hx rfl (hb hby d1_82) k) ?_
    show Goes _ _ _ _ _ _ _ (T16.setTop (mkF m 84 #[.val (.long q0), .second, .val (.int (3 : Int32)), .val (.ref b10)] [(.int (6 : Int32)), (.int (3 : Int32))]))
    refine Goes.of (fun t k => XS.icmpYes X16.here hx rfl (pc0 := 84) (pc' := 97) rfl (hb hby d1_84) rfl (flt (by decide : ¬ ((6 : Int32) < (3 : Int32)))).2.2.2 (by decide) (by decide) k) ?_
    show Goes _ _ _ _ _ _ _ (T16.setTop (mkF m 97 #[.val (.long q0), .second, .val (.int (3 : Int32)), .val (.ref b10)] []))
    refine Goes.of (fun t k => XS.iloadN X16.here hx rfl (hb hby d1_97) rfl k) ?_
    show Goes _ _ _ _ _ _ _ (T16.setTop (mkF m 98 #[.val (.long q0), .second, .val (.int (3 : Int32)), .val (.ref b10)] [(.int (3 : Int32))]))
    refine Goes.of (fun t k => XS.bipush X16.here hx rfl (hb hby d1_98) k) ?_
    show Goes _ _ _ _ _ _ _ (T16.setTop (mkF m 100 #[.val (.long q0), .second, .val (.int (3 : Int32)), .val (.ref b10)] [(.int (7 : Int32)), (.int (3 : Int32))]))
    refine Goes.of (fun t k => XS.icmpYes X16.here hx rfl (pc0 := 100) (pc' := 113) rfl (hb hby d1_100) rfl (flt (by decide : ¬ ((7 : Int32) < (3 : Int32)))).2.2.2 (by decide) (by decide) k) ?_
    show Goes _ _ _ _ _ _ _ (T16.setTop (mkF m 113 #[.val (.long q0), .second, .val (.int (3 : Int32)), .val (.ref b10)] []))
    refine Goes.of (fun t k => XS.aloadN X16.here hx rfl (hb hby d1_113) rfl rfl k) ?_
    show Goes _ _ _ _ _ _ _ (T16.setTop (mkF m 114 #[.val (.long q0), .second, .val (.int (3 : Int32)), .val (.ref b10)] [(.ref b10)]))
    exact Goes.fin X16 hlk (v := some (.ref b10)) (fun h => by rw [Bd.returns] at h; cases h) (fun fs hr => retOut X16 hx Bd.returns (by rfl) (Or.inr (Or.inr (Or.inr (Or.inr ⟨rfl, rfl, rfl⟩)))) (hb hby d1_114) hr) (by rw [e16]; exact ⟨b10, rfl, N16, K16, sz_b10, V16.congr (fun j hj => by
          have hj' : j = 0 ∨ j = 1 ∨ j = 2 := by omega
          rcases hj' with rfl | rfl | rfl <;> rfl)⟩) (by decide) (by decide)
  · refine Goes.of (fun t k => XS.iloadN X0.here hx rfl (hb hby d1_0) rfl k) ?_
    show Goes _ _ _ _ _ _ _ (s₁.setTop (mkF m 1 #[.val (.long q0), .second, .val (.int (4 : Int32)), .unset] [(.int (4 : Int32))]))
    obtain ⟨T17, h17, k17, X17, e17, E17, A17, Ea17, st17⟩ := newPE X0 hx hZ (hw _ (List.mem_of_getElem? (i := 0) rfl)) e0 (g := (mkF m 1 #[.val (.long q0), .second, .val (.int (4 : Int32)), .unset] [(.int (4 : Int32))])) rfl (hb hby d1_1) rfl (by decide) (cap := 8) (by decide) (by decide) (by decide) (by decide) (ad := "[B") (by decide)
    obtain ⟨b17, g17⟩ : ∃ z, z = h0.size := ⟨_, rfl⟩
    rw [← g17] at A17 Ea17 st17
    have V17 : AI Z h17 b17 .byte 4 (fun _ => 0) := AI.new rfl rfl A17 (by decide) (by decide)
    have g_b17 : n0 ≤ b17 := Nat.le_trans Z0 (Nat.le_of_eq g17.symm)
    have sz_b17 : h0.size ≤ b17 := Nat.le_trans (Keep.refl h0 []).1 (Nat.le_of_eq g17.symm)
    have Z17 : n0 ≤ h17.size := Nat.le_trans Z0 E17.1
    have K17 : Keep h0 h17 [] := (Keep.refl h0 []).ext E17
    refine Goes.of st17 ?_
    show Goes _ _ _ _ _ _ _ (T17.setTop (mkF m 3 #[.val (.long q0), .second, .val (.int (4 : Int32)), .unset] [(.ref b17)]))
    refine Goes.of (fun t k => XS.astoreN X17.here hx rfl (hb hby d1_3) rfl rfl (l' := #[.val (.long q0), .second, .val (.int (4 : Int32)), .val (.ref b17)]) rfl k) ?_
    show Goes _ _ _ _ _ _ _ (T17.setTop (mkF m 4 #[.val (.long q0), .second, .val (.int (4 : Int32)), .val (.ref b17)] []))
    refine Goes.of (fun t k => XS.iloadN X17.here hx rfl (hb hby d1_4) rfl k) ?_
    show Goes _ _ _ _ _ _ _ (T17.setTop (mkF m 5 #[.val (.long q0), .second, .val (.int (4 : Int32)), .val (.ref b17)] [(.int (4 : Int32))]))
    refine Goes.of (fun t k => XS.ifNo X17.here hx rfl (hb hby d1_5) rfl ((if0 _ _).trans (tlt (by decide : (0 : Int32) < (4 : Int32))).2.2.2) k) ?_
    show Goes _ _ _ _ _ _ _ (T17.setTop (mkF m 8 #[.val (.long q0), .second, .val (.int (4 : Int32)), .val (.ref b17)] []))
    refine Goes.of (fun t k => XS.aloadN X17.here hx rfl (hb hby d1_8) rfl rfl k) ?_
    show Goes _ _ _ _ _ _ _ (T17.setTop (mkF m 9 #[.val (.long q0), .second, .val (.int (4 : Int32)), .val (.ref b17)] [(.ref b17)]))
    refine Goes.of (fun t k => XS.iconst X17.here hx rfl (hb hby d1_9) k) ?_
    show Goes _ _ _ _ _ _ _ (T17.setTop (mkF m 10 #[.val (.long q0), .second, .val (.int (4 : Int32)), .val (.ref b17)] [(.int (0 : Int32)), (.ref b17)]))
    refine Goes.of (fun t k => XS.lloadN X17.here hx rfl (hb hby d1_10) rfl k) ?_
    show Goes _ _ _ _ _ _ _ (T17.setTop (mkF m 11 #[.val (.long q0), .second, .val (.int (4 : Int32)), .val (.ref b17)] [(.long q0), (.int (0 : Int32)), (.ref b17)]))
    refine Goes.of (fun t k => XS.iconst X17.here hx rfl (hb hby d1_11) k) ?_
    show Goes _ _ _ _ _ _ _ (T17.setTop (mkF m 12 #[.val (.long q0), .second, .val (.int (4 : Int32)), .val (.ref b17)] [(.int (0 : Int32)), (.long q0), (.int (0 : Int32)), (.ref b17)]))
    obtain ⟨_, _, ⟨T18, L18, k18, n18⟩, -, X18, ⟨Lc18, hQ18, l18, y18, z18⟩, st18⟩ := Jvm.LawKit.callS X17 hx (y := (⟨"com/example/vhost/vhost/util/HashesFnv1aPinLaw", "at", "(JI)B"⟩ : MethodName)) hown (mvT hZ (hw _ (List.mem_of_getElem? (i := 5) rfl))) (mvT hZ (hw _ (List.mem_of_getElem? (i := 6) rfl))) (mvT hZ (hw _ (List.mem_of_getElem? (i := 3) rfl))) (mvT hZ (hw _ (List.mem_of_getElem? (i := 7) rfl))) (by decide) (backOf (W := 2) (rm2 l Z a0 hw [] q0 (0 : Int32)  h17 n0 ) hZ (hw _ (List.mem_of_getElem? (i := 7) rfl)) (hw _ (List.mem_of_getElem? (i := 3) rfl)) (by decide) (by decide)) (g := (mkF m 12 #[.val (.long q0), .second, .val (.int (4 : Int32)), .val (.ref b17)] [(.int (0 : Int32)), (.long q0), (.int (0 : Int32)), (.ref b17)])) rfl (by rw [hml]; rfl) (argsL := [(.long q0), (.int (0 : Int32))]) (rest := [(.int (0 : Int32)), (.ref b17)]) (lenOf pd_0 rfl) rfl (by show 2 * 0 + _ ≤ _; exact Nat.le_of_eq rfl) (hb hby d1_12) (fun _ _ => ⟨rfl, e17, (by decide : 1 + 0 ≤ _), (by decide : 8 + 0 ≤ _)⟩)
    dsimp only [Pt.U, Pt.locs, Pt.cells, Pt.slots] at X18 l18 y18 z18 st18 hQ18
    subst l18 y18 z18
    obtain ⟨rfl, N18q, e18⟩ := hQ18
    have N18 := Fr.app N0 N18q
    refine Goes.of st18 ?_
    show Goes _ _ _ _ _ _ _ (T18.setTop (mkF m 15 #[.val (.long q0), .second, .val (.int (4 : Int32)), .val (.ref b17)] [(.int (f2 q0 (0 : Int32))), (.int (0 : Int32)), (.ref b17)]))
    obtain ⟨T19, h19, X19, e19, W19, V19, st19⟩ := putB X18 hx hZ e18 V17 (j := (0 : Int32)) (x := (f2 q0 (0 : Int32))) (i := 0) (by decide) (by decide) (by decide) (g := (mkF m 15 #[.val (.long q0), .second, .val (.int (4 : Int32)), .val (.ref b17)] [(.int (f2 q0 (0 : Int32))), (.int (0 : Int32)), (.ref b17)])) rfl rfl (hb hby d1_15)
    have Z19 : n0 ≤ h19.size := Nat.le_trans Z17 (Keep.of_wr W19).1
    have K19 : Keep h0 h19 [] := K17.wr W19 (Or.inr sz_b17)
    have N19 := Fr.snoc X19 N18 g_b17
    refine Goes.of st19 ?_
    show Goes _ _ _ _ _ _ _ (T19.setTop (mkF m 16 #[.val (.long q0), .second, .val (.int (4 : Int32)), .val (.ref b17)] []))
    refine Goes.of (fun t k => XS.iloadN X19.here hx rfl (hb hby d1_16) rfl k) ?_
    show Goes _ _ _ _ _ _ _ (T19.setTop (mkF m 17 #[.val (.long q0), .second, .val (.int (4 : Int32)), .val (.ref b17)] [(.int (4 : Int32))]))
    refine Goes.of (fun t k => XS.iconst X19.here hx rfl (hb hby d1_17) k) ?_
    show Goes _ _ _ _ _ _ _ (T19.setTop (mkF m 18 #[.val (.long q0), .second, .val (.int (4 : Int32)), .val (.ref b17)] [(.int (1 : Int32)), (.int (4 : Int32))]))
    refine Goes.of (fun t k => XS.icmpNo X19.here hx rfl (hb hby d1_18) rfl (tlt (by decide : (1 : Int32) < (4 : Int32))).2.2.2 k) ?_
    show Goes _ _ _ _ _ _ _ (T19.setTop (mkF m 21 #[.val (.long q0), .second, .val (.int (4 : Int32)), .val (.ref b17)] []))
    refine Goes.of (fun t k => XS.aloadN X19.here hx rfl (hb hby d1_21) rfl rfl k) ?_
    show Goes _ _ _ _ _ _ _ (T19.setTop (mkF m 22 #[.val (.long q0), .second, .val (.int (4 : Int32)), .val (.ref b17)] [(.ref b17)]))
    refine Goes.of (fun t k => XS.iconst X19.here hx rfl (hb hby d1_22) k) ?_
    show Goes _ _ _ _ _ _ _ (T19.setTop (mkF m 23 #[.val (.long q0), .second, .val (.int (4 : Int32)), .val (.ref b17)] [(.int (1 : Int32)), (.ref b17)]))
    refine Goes.of (fun t k => XS.lloadN X19.here hx rfl (hb hby d1_23) rfl k) ?_
    show Goes _ _ _ _ _ _ _ (T19.setTop (mkF m 24 #[.val (.long q0), .second, .val (.int (4 : Int32)), .val (.ref b17)] [(.long q0), (.int (1 : Int32)), (.ref b17)]))
    refine Goes.of (fun t k => XS.iconst X19.here hx rfl (hb hby d1_24) k) ?_
    show Goes _ _ _ _ _ _ _ (T19.setTop (mkF m 25 #[.val (.long q0), .second, .val (.int (4 : Int32)), .val (.ref b17)] [(.int (1 : Int32)), (.long q0), (.int (1 : Int32)), (.ref b17)]))
    obtain ⟨_, _, ⟨T20, L20, k20, n20⟩, -, X20, ⟨Lc20, hQ20, l20, y20, z20⟩, st20⟩ := Jvm.LawKit.callS X19 hx (y := (⟨"com/example/vhost/vhost/util/HashesFnv1aPinLaw", "at", "(JI)B"⟩ : MethodName)) hown (mvT hZ (hw _ (List.mem_of_getElem? (i := 5) rfl))) (mvT hZ (hw _ (List.mem_of_getElem? (i := 6) rfl))) (mvT hZ (hw _ (List.mem_of_getElem? (i := 3) rfl))) (mvT hZ (hw _ (List.mem_of_getElem? (i := 7) rfl))) (by decide) (backOf (W := 2) (rm2 l Z a0 hw [] q0 (1 : Int32)  h19 n0 ) hZ (hw _ (List.mem_of_getElem? (i := 7) rfl)) (hw _ (List.mem_of_getElem? (i := 3) rfl)) (by decide) (by decide)) (g := (mkF m 25 #[.val (.long q0), .second, .val (.int (4 : Int32)), .val (.ref b17)] [(.int (1 : Int32)), (.long q0), (.int (1 : Int32)), (.ref b17)])) rfl (by rw [hml]; rfl) (argsL := [(.long q0), (.int (1 : Int32))]) (rest := [(.int (1 : Int32)), (.ref b17)]) (lenOf pd_0 rfl) rfl (by show 2 * 0 + _ ≤ _; exact Nat.le_of_eq rfl) (hb hby d1_25) (fun _ _ => ⟨rfl, e19, (by decide : 1 + 0 ≤ _), (by decide : 8 + 0 ≤ _)⟩)
    dsimp only [Pt.U, Pt.locs, Pt.cells, Pt.slots] at X20 l20 y20 z20 st20 hQ20
    subst l20 y20 z20
    obtain ⟨rfl, N20q, e20⟩ := hQ20
    have N20 := Fr.app N19 N20q
    refine Goes.of st20 ?_
    show Goes _ _ _ _ _ _ _ (T20.setTop (mkF m 28 #[.val (.long q0), .second, .val (.int (4 : Int32)), .val (.ref b17)] [(.int (f2 q0 (1 : Int32))), (.int (1 : Int32)), (.ref b17)]))
    obtain ⟨T21, h21, X21, e21, W21, V21, st21⟩ := putB X20 hx hZ e20 V19 (j := (1 : Int32)) (x := (f2 q0 (1 : Int32))) (i := 1) (by decide) (by decide) (by decide) (g := (mkF m 28 #[.val (.long q0), .second, .val (.int (4 : Int32)), .val (.ref b17)] [(.int (f2 q0 (1 : Int32))), (.int (1 : Int32)), (.ref b17)])) rfl rfl (hb hby d1_28)
    have Z21 : n0 ≤ h21.size := Nat.le_trans Z19 (Keep.of_wr W21).1
    have K21 : Keep h0 h21 [] := K19.wr W21 (Or.inr sz_b17)
    have N21 := Fr.snoc X21 N20 g_b17
    refine Goes.of st21 ?_
    show Goes _ _ _ _ _ _ _ (T21.setTop (mkF m 29 #[.val (.long q0), .second, .val (.int (4 : Int32)), .val (.ref b17)] []))
    refine Goes.of (fun t k => XS.iloadN X21.here hx rfl (hb hby d1_29) rfl k) ?_
    show Goes _ _ _ _ _ _ _ (T21.setTop (mkF m 30 #[.val (.long q0), .second, .val (.int (4 : Int32)), .val (.ref b17)] [(.int (4 : Int32))]))
    refine Goes.of (fun t k => XS.iconst X21.here hx rfl (hb hby d1_30) k) ?_
    show Goes _ _ _ _ _ _ _ (T21.setTop (mkF m 31 #[.val (.long q0), .second, .val (.int (4 : Int32)), .val (.ref b17)] [(.int (2 : Int32)), (.int (4 : Int32))]))
    refine Goes.of (fun t k => XS.icmpNo X21.here hx rfl (hb hby d1_31) rfl (tlt (by decide : (2 : Int32) < (4 : Int32))).2.2.2 k) ?_
    show Goes _ _ _ _ _ _ _ (T21.setTop (mkF m 34 #[.val (.long q0), .second, .val (.int (4 : Int32)), .val (.ref b17)] []))
    refine Goes.of (fun t k => XS.aloadN X21.here hx rfl (hb hby d1_34) rfl rfl k) ?_
    show Goes _ _ _ _ _ _ _ (T21.setTop (mkF m 35 #[.val (.long q0), .second, .val (.int (4 : Int32)), .val (.ref b17)] [(.ref b17)]))
    refine Goes.of (fun t k => XS.iconst X21.here hx rfl (hb hby d1_35) k) ?_
    show Goes _ _ _ _ _ _ _ (T21.setTop (mkF m 36 #[.val (.long q0), .second, .val (.int (4 : Int32)), .val (.ref b17)] [(.int (2 : Int32)), (.ref b17)]))
    refine Goes.of (fun t k => XS.lloadN X21.here hx rfl (hb hby d1_36) rfl k) ?_
    show Goes _ _ _ _ _ _ _ (T21.setTop (mkF m 37 #[.val (.long q0), .second, .val (.int (4 : Int32)), .val (.ref b17)] [(.long q0), (.int (2 : Int32)), (.ref b17)]))
    refine Goes.of (fun t k => XS.iconst X21.here hx rfl (hb hby d1_37) k) ?_
    show Goes _ _ _ _ _ _ _ (T21.setTop (mkF m 38 #[.val (.long q0), .second, .val (.int (4 : Int32)), .val (.ref b17)] [(.int (2 : Int32)), (.long q0), (.int (2 : Int32)), (.ref b17)]))
    obtain ⟨_, _, ⟨T22, L22, k22, n22⟩, -, X22, ⟨Lc22, hQ22, l22, y22, z22⟩, st22⟩ := Jvm.LawKit.callS X21 hx (y := (⟨"com/example/vhost/vhost/util/HashesFnv1aPinLaw", "at", "(JI)B"⟩ : MethodName)) hown (mvT hZ (hw _ (List.mem_of_getElem? (i := 5) rfl))) (mvT hZ (hw _ (List.mem_of_getElem? (i := 6) rfl))) (mvT hZ (hw _ (List.mem_of_getElem? (i := 3) rfl))) (mvT hZ (hw _ (List.mem_of_getElem? (i := 7) rfl))) (by decide) (backOf (W := 2) (rm2 l Z a0 hw [] q0 (2 : Int32)  h21 n0 ) hZ (hw _ (List.mem_of_getElem? (i := 7) rfl)) (hw _ (List.mem_of_getElem? (i := 3) rfl)) (by decide) (by decide)) (g := (mkF m 38 #[.val (.long q0), .second, .val (.int (4 : Int32)), .val (.ref b17)] [(.int (2 : Int32)), (.long q0), (.int (2 : Int32)), (.ref b17)])) rfl (by rw [hml]; rfl) (argsL := [(.long q0), (.int (2 : Int32))]) (rest := [(.int (2 : Int32)), (.ref b17)]) (lenOf pd_0 rfl) rfl (by show 2 * 0 + _ ≤ _; exact Nat.le_of_eq rfl) (hb hby d1_38) (fun _ _ => ⟨rfl, e21, (by decide : 1 + 0 ≤ _), (by decide : 8 + 0 ≤ _)⟩)
    dsimp only [Pt.U, Pt.locs, Pt.cells, Pt.slots] at X22 l22 y22 z22 st22 hQ22
    subst l22 y22 z22
    obtain ⟨rfl, N22q, e22⟩ := hQ22
    have N22 := Fr.app N21 N22q
    refine Goes.of st22 ?_
    show Goes _ _ _ _ _ _ _ (T22.setTop (mkF m 41 #[.val (.long q0), .second, .val (.int (4 : Int32)), .val (.ref b17)] [(.int (f2 q0 (2 : Int32))), (.int (2 : Int32)), (.ref b17)]))
    obtain ⟨T23, h23, X23, e23, W23, V23, st23⟩ := putB X22 hx hZ e22 V21 (j := (2 : Int32)) (x := (f2 q0 (2 : Int32))) (i := 2) (by decide) (by decide) (by decide) (g := (mkF m 41 #[.val (.long q0), .second, .val (.int (4 : Int32)), .val (.ref b17)] [(.int (f2 q0 (2 : Int32))), (.int (2 : Int32)), (.ref b17)])) rfl rfl (hb hby d1_41)
    have Z23 : n0 ≤ h23.size := Nat.le_trans Z21 (Keep.of_wr W23).1
    have K23 : Keep h0 h23 [] := K21.wr W23 (Or.inr sz_b17)
    have N23 := Fr.snoc X23 N22 g_b17
    refine Goes.of st23 ?_
    show Goes _ _ _ _ _ _ _ (T23.setTop (mkF m 42 #[.val (.long q0), .second, .val (.int (4 : Int32)), .val (.ref b17)] []))
    refine Goes.of (fun t k => XS.iloadN X23.here hx rfl (hb hby d1_42) rfl k) ?_
    show Goes _ _ _ _ _ _ _ (T23.setTop (mkF m 43 #[.val (.long q0), .second, .val (.int (4 : Int32)), .val (.ref b17)] [(.int (4 : Int32))]))
    refine Goes.of (fun t k => XS.iconst X23.here hx rfl (hb hby d1_43) k) ?_
    show Goes _ _ _ _ _ _ _ (T23.setTop (mkF m 44 #[.val (.long q0), .second, .val (.int (4 : Int32)), .val (.ref b17)] [(.int (3 : Int32)), (.int (4 : Int32))]))
    refine Goes.of (fun t k => XS.icmpNo X23.here hx rfl (hb hby d1_44) rfl (tlt (by decide : (3 : Int32) < (4 : Int32))).2.2.2 k) ?_
    show Goes _ _ _ _ _ _ _ (T23.setTop (mkF m 47 #[.val (.long q0), .second, .val (.int (4 : Int32)), .val (.ref b17)] []))
    refine Goes.of (fun t k => XS.aloadN X23.here hx rfl (hb hby d1_47) rfl rfl k) ?_
    show Goes _ _ _ _ _ _ _ (T23.setTop (mkF m 48 #[.val (.long q0), .second, .val (.int (4 : Int32)), .val (.ref b17)] [(.ref b17)]))
    refine Goes.of (fun t k => XS.iconst X23.here hx rfl (hb hby d1_48) k) ?_
    show Goes _ _ _ _ _ _ _ (T23.setTop (mkF m 49 #[.val (.long q0), .second, .val (.int (4 : Int32)), .val (.ref b17)] [(.int (3 : Int32)), (.ref b17)]))
    refine Goes.of (fun t k => XS.lloadN X23.here hx rfl (hb hby d1_49) rfl k) ?_
    show Goes _ _ _ _ _ _ _ (T23.setTop (mkF m 50 #[.val (.long q0), .second, .val (.int (4 : Int32)), .val (.ref b17)] [(.long q0), (.int (3 : Int32)), (.ref b17)]))
    refine Goes.of (fun t k => XS.iconst X23.here hx rfl (hb hby d1_50) k) ?_
    show Goes _ _ _ _ _ _ _ (T23.setTop (mkF m 51 #[.val (.long q0), .second, .val (.int (4 : Int32)), .val (.ref b17)] [(.int (3 : Int32)), (.long q0), (.int (3 : Int32)), (.ref b17)]))
    obtain ⟨_, _, ⟨T24, L24, k24, n24⟩, -, X24, ⟨Lc24, hQ24, l24, y24, z24⟩, st24⟩ := Jvm.LawKit.callS X23 hx (y := (⟨"com/example/vhost/vhost/util/HashesFnv1aPinLaw", "at", "(JI)B"⟩ : MethodName)) hown (mvT hZ (hw _ (List.mem_of_getElem? (i := 5) rfl))) (mvT hZ (hw _ (List.mem_of_getElem? (i := 6) rfl))) (mvT hZ (hw _ (List.mem_of_getElem? (i := 3) rfl))) (mvT hZ (hw _ (List.mem_of_getElem? (i := 7) rfl))) (by decide) (backOf (W := 2) (rm2 l Z a0 hw [] q0 (3 : Int32)  h23 n0 ) hZ (hw _ (List.mem_of_getElem? (i := 7) rfl)) (hw _ (List.mem_of_getElem? (i := 3) rfl)) (by decide) (by decide)) (g := (mkF m 51 #[.val (.long q0), .second, .val (.int (4 : Int32)), .val (.ref b17)] [(.int (3 : Int32)), (.long q0), (.int (3 : Int32)), (.ref b17)])) rfl (by rw [hml]; rfl) (argsL := [(.long q0), (.int (3 : Int32))]) (rest := [(.int (3 : Int32)), (.ref b17)]) (lenOf pd_0 rfl) rfl (by show 2 * 0 + _ ≤ _; exact Nat.le_of_eq rfl) (hb hby d1_51) (fun _ _ => ⟨rfl, e23, (by decide : 1 + 0 ≤ _), (by decide : 8 + 0 ≤ _)⟩)
    dsimp only [Pt.U, Pt.locs, Pt.cells, Pt.slots] at X24 l24 y24 z24 st24 hQ24
    subst l24 y24 z24
    obtain ⟨rfl, N24q, e24⟩ := hQ24
    have N24 := Fr.app N23 N24q
    refine Goes.of st24 ?_
    show Goes _ _ _ _ _ _ _ (T24.setTop (mkF m 54 #[.val (.long q0), .second, .val (.int (4 : Int32)), .val (.ref b17)] [(.int (f2 q0 (3 : Int32))), (.int (3 : Int32)), (.ref b17)]))
    obtain ⟨T25, h25, X25, e25, W25, V25, st25⟩ := putB X24 hx hZ e24 V23 (j := (3 : Int32)) (x := (f2 q0 (3 : Int32))) (i := 3) (by decide) (by decide) (by decide) (g := (mkF m 54 #[.val (.long q0), .second, .val (.int (4 : Int32)), .val (.ref b17)] [(.int (f2 q0 (3 : Int32))), (.int (3 : Int32)), (.ref b17)])) rfl rfl (hb hby d1_54)
    have Z25 : n0 ≤ h25.size := Nat.le_trans Z23 (Keep.of_wr W25).1
    have K25 : Keep h0 h25 [] := K23.wr W25 (Or.inr sz_b17)
    have N25 := Fr.snoc X25 N24 g_b17
    refine Goes.of st25 ?_
    show Goes _ _ _ _ _ _ _ (T25.setTop (mkF m 55 #[.val (.long q0), .second, .val (.int (4 : Int32)), .val (.ref b17)] []))
    refine Goes.of (fun t k => XS.iloadN X25.here hx rfl (hb hby d1_55) rfl k) ?_
    show Goes _ _ _ _ _ _ _ (T25.setTop (mkF m 56 #[.val (.long q0), .second, .val (.int (4 : Int32)), .val (.ref b17)] [(.int (4 : Int32))]))
    refine Goes.of (fun t k => XS.iconst X25.here hx rfl (hb hby d1_56) k) ?_
    show Goes _ _ _ _ _ _ _ (T25.setTop (mkF m 57 #[.val (.long q0), .second, .val (.int (4 : Int32)), .val (.ref b17)] [(.int (4 : Int32)), (.int (4 : Int32))]))
    refine Goes.of (fun t k => XS.icmpYes X25.here hx rfl (pc0 := 57) (pc' := 68) rfl (hb hby d1_57) rfl (flt (by decide : ¬ ((4 : Int32) < (4 : Int32)))).2.2.2 (by decide) (by decide) k) ?_
    show Goes _ _ _ _ _ _ _ (T25.setTop (mkF m 68 #[.val (.long q0), .second, .val (.int (4 : Int32)), .val (.ref b17)] []))
    refine Goes.of (fun t k => XS.iloadN X25.here hx rfl (hb hby d1_68) rfl k) ?_
    show Goes _ _ _ _ _ _ _ (T25.setTop (mkF m 69 #[.val (.long q0), .second, .val (.int (4 : Int32)), .val (.ref b17)] [(.int (4 : Int32))]))
    refine Goes.of (fun t k => XS.iconst X25.here hx rfl (hb hby d1_69) k) ?_
    show Goes _ _ _ _ _ _ _ (T25.setTop (mkF m 70 #[.val (.long q0), .second, .val (.int (4 : Int32)), .val (.ref b17)] [(.int (5 : Int32)), (.int (4 : Int32))]))
    refine Goes.of (fun t k => XS.icmpYes X25.here hx rfl (pc0 := 70) (pc' := 81) rfl (hb hby d1_70) rfl (flt (by decide : ¬ ((5 : Int32) < (4 : Int32)))).2.2.2 (by decide) (by decide) k) ?_
    show Goes _ _ _ _ _ _ _ (T25.setTop (mkF m 81 #[.val (.long q0), .second, .val (.int (4 : Int32)), .val (.ref b17)] []))
    refine Goes.of (fun t k => XS.iloadN X25.here hx rfl (hb hby d1_81) rfl k) ?_
    show Goes _ _ _ _ _ _ _ (T25.setTop (mkF m 82 #[.val (.long q0), .second, .val (.int (4 : Int32)), .val (.ref b17)] [(.int (4 : Int32))]))
    refine Goes.of (fun t k => XS.bipush X25.here hx rfl (hb hby d1_82) k) ?_
    show Goes _ _ _ _ _ _ _ (T25.setTop (mkF m 84 #[.val (.long q0), .second, .val (.int (4 : Int32)), .val (.ref b17)] [(.int (6 : Int32)), (.int (4 : Int32))]))
    refine Goes.of (fun t k => XS.icmpYes X25.here hx rfl (pc0 := 84) (pc' := 97) rfl (hb hby d1_84) rfl (flt (by decide : ¬ ((6 : Int32) < (4 : Int32)))).2.2.2 (by decide) (by decide) k) ?_
    show Goes _ _ _ _ _ _ _ (T25.setTop (mkF m 97 #[.val (.long q0), .second, .val (.int (4 : Int32)), .val (.ref b17)] []))
    refine Goes.of (fun t k => XS.iloadN X25.here hx rfl (hb hby d1_97) rfl k) ?_
    show Goes _ _ _ _ _ _ _ (T25.setTop (mkF m 98 #[.val (.long q0), .second, .val (.int (4 : Int32)), .val (.ref b17)] [(.int (4 : Int32))]))
    refine Goes.of (fun t k => XS.bipush X25.here hx rfl (hb hby d1_98) k) ?_
    show Goes _ _ _ _ _ _ _ (T25.setTop (mkF m 100 #[.val (.long q0), .second, .val (.int (4 : Int32)), .val (.ref b17)] [(.int (7 : Int32)), (.int (4 : Int32))]))
    refine Goes.of (fun t k => XS.icmpYes X25.here hx rfl (pc0 := 100) (pc' := 113) rfl (hb hby d1_100) rfl (flt (by decide : ¬ ((7 : Int32) < (4 : Int32)))).2.2.2 (by decide) (by decide) k) ?_
    show Goes _ _ _ _ _ _ _ (T25.setTop (mkF m 113 #[.val (.long q0), .second, .val (.int (4 : Int32)), .val (.ref b17)] []))
    refine Goes.of (fun t k => XS.aloadN X25.here hx rfl (hb hby d1_113) rfl rfl k) ?_
    show Goes _ _ _ _ _ _ _ (T25.setTop (mkF m 114 #[.val (.long q0), .second, .val (.int (4 : Int32)), .val (.ref b17)] [(.ref b17)]))
    exact Goes.fin X25 hlk (v := some (.ref b17)) (fun h => by rw [Bd.returns] at h; cases h) (fun fs hr => retOut X25 hx Bd.returns (by rfl) (Or.inr (Or.inr (Or.inr (Or.inr ⟨rfl, rfl, rfl⟩)))) (hb hby d1_114) hr) (by rw [e25]; exact ⟨b17, rfl, N25, K25, sz_b17, V25.congr (fun j hj => by
          have hj' : j = 0 ∨ j = 1 ∨ j = 2 ∨ j = 3 := by omega
          rcases hj' with rfl | rfl | rfl | rfl <;> rfl)⟩) (by decide) (by decide)
  · refine Goes.of (fun t k => XS.iloadN X0.here hx rfl (hb hby d1_0) rfl k) ?_
    show Goes _ _ _ _ _ _ _ (s₁.setTop (mkF m 1 #[.val (.long q0), .second, .val (.int (5 : Int32)), .unset] [(.int (5 : Int32))]))
    obtain ⟨T26, h26, k26, X26, e26, E26, A26, Ea26, st26⟩ := newPE X0 hx hZ (hw _ (List.mem_of_getElem? (i := 0) rfl)) e0 (g := (mkF m 1 #[.val (.long q0), .second, .val (.int (5 : Int32)), .unset] [(.int (5 : Int32))])) rfl (hb hby d1_1) rfl (by decide) (cap := 8) (by decide) (by decide) (by decide) (by decide) (ad := "[B") (by decide)
    obtain ⟨b26, g26⟩ : ∃ z, z = h0.size := ⟨_, rfl⟩
    rw [← g26] at A26 Ea26 st26
    have V26 : AI Z h26 b26 .byte 5 (fun _ => 0) := AI.new rfl rfl A26 (by decide) (by decide)
    have g_b26 : n0 ≤ b26 := Nat.le_trans Z0 (Nat.le_of_eq g26.symm)
    have sz_b26 : h0.size ≤ b26 := Nat.le_trans (Keep.refl h0 []).1 (Nat.le_of_eq g26.symm)
    have Z26 : n0 ≤ h26.size := Nat.le_trans Z0 E26.1
    have K26 : Keep h0 h26 [] := (Keep.refl h0 []).ext E26
    refine Goes.of st26 ?_
    show Goes _ _ _ _ _ _ _ (T26.setTop (mkF m 3 #[.val (.long q0), .second, .val (.int (5 : Int32)), .unset] [(.ref b26)]))
    refine Goes.of (fun t k => XS.astoreN X26.here hx rfl (hb hby d1_3) rfl rfl (l' := #[.val (.long q0), .second, .val (.int (5 : Int32)), .val (.ref b26)]) rfl k) ?_
    show Goes _ _ _ _ _ _ _ (T26.setTop (mkF m 4 #[.val (.long q0), .second, .val (.int (5 : Int32)), .val (.ref b26)] []))
    refine Goes.of (fun t k => XS.iloadN X26.here hx rfl (hb hby d1_4) rfl k) ?_
    show Goes _ _ _ _ _ _ _ (T26.setTop (mkF m 5 #[.val (.long q0), .second, .val (.int (5 : Int32)), .val (.ref b26)] [(.int (5 : Int32))]))
    refine Goes.of (fun t k => XS.ifNo X26.here hx rfl (hb hby d1_5) rfl ((if0 _ _).trans (tlt (by decide : (0 : Int32) < (5 : Int32))).2.2.2) k) ?_
    show Goes _ _ _ _ _ _ _ (T26.setTop (mkF m 8 #[.val (.long q0), .second, .val (.int (5 : Int32)), .val (.ref b26)] []))
    refine Goes.of (fun t k => XS.aloadN X26.here hx rfl (hb hby d1_8) rfl rfl k) ?_
    show Goes _ _ _ _ _ _ _ (T26.setTop (mkF m 9 #[.val (.long q0), .second, .val (.int (5 : Int32)), .val (.ref b26)] [(.ref b26)]))
    refine Goes.of (fun t k => XS.iconst X26.here hx rfl (hb hby d1_9) k) ?_
    show Goes _ _ _ _ _ _ _ (T26.setTop (mkF m 10 #[.val (.long q0), .second, .val (.int (5 : Int32)), .val (.ref b26)] [(.int (0 : Int32)), (.ref b26)]))
    refine Goes.of (fun t k => XS.lloadN X26.here hx rfl (hb hby d1_10) rfl k) ?_
    show Goes _ _ _ _ _ _ _ (T26.setTop (mkF m 11 #[.val (.long q0), .second, .val (.int (5 : Int32)), .val (.ref b26)] [(.long q0), (.int (0 : Int32)), (.ref b26)]))
    refine Goes.of (fun t k => XS.iconst X26.here hx rfl (hb hby d1_11) k) ?_
    show Goes _ _ _ _ _ _ _ (T26.setTop (mkF m 12 #[.val (.long q0), .second, .val (.int (5 : Int32)), .val (.ref b26)] [(.int (0 : Int32)), (.long q0), (.int (0 : Int32)), (.ref b26)]))
    obtain ⟨_, _, ⟨T27, L27, k27, n27⟩, -, X27, ⟨Lc27, hQ27, l27, y27, z27⟩, st27⟩ := Jvm.LawKit.callS X26 hx (y := (⟨"com/example/vhost/vhost/util/HashesFnv1aPinLaw", "at", "(JI)B"⟩ : MethodName)) hown (mvT hZ (hw _ (List.mem_of_getElem? (i := 5) rfl))) (mvT hZ (hw _ (List.mem_of_getElem? (i := 6) rfl))) (mvT hZ (hw _ (List.mem_of_getElem? (i := 3) rfl))) (mvT hZ (hw _ (List.mem_of_getElem? (i := 7) rfl))) (by decide) (backOf (W := 2) (rm2 l Z a0 hw [] q0 (0 : Int32)  h26 n0 ) hZ (hw _ (List.mem_of_getElem? (i := 7) rfl)) (hw _ (List.mem_of_getElem? (i := 3) rfl)) (by decide) (by decide)) (g := (mkF m 12 #[.val (.long q0), .second, .val (.int (5 : Int32)), .val (.ref b26)] [(.int (0 : Int32)), (.long q0), (.int (0 : Int32)), (.ref b26)])) rfl (by rw [hml]; rfl) (argsL := [(.long q0), (.int (0 : Int32))]) (rest := [(.int (0 : Int32)), (.ref b26)]) (lenOf pd_0 rfl) rfl (by show 2 * 0 + _ ≤ _; exact Nat.le_of_eq rfl) (hb hby d1_12) (fun _ _ => ⟨rfl, e26, (by decide : 1 + 0 ≤ _), (by decide : 8 + 0 ≤ _)⟩)
    dsimp only [Pt.U, Pt.locs, Pt.cells, Pt.slots] at X27 l27 y27 z27 st27 hQ27
    subst l27 y27 z27
    obtain ⟨rfl, N27q, e27⟩ := hQ27
    have N27 := Fr.app N0 N27q
    refine Goes.of st27 ?_
    show Goes _ _ _ _ _ _ _ (T27.setTop (mkF m 15 #[.val (.long q0), .second, .val (.int (5 : Int32)), .val (.ref b26)] [(.int (f2 q0 (0 : Int32))), (.int (0 : Int32)), (.ref b26)]))
    obtain ⟨T28, h28, X28, e28, W28, V28, st28⟩ := putB X27 hx hZ e27 V26 (j := (0 : Int32)) (x := (f2 q0 (0 : Int32))) (i := 0) (by decide) (by decide) (by decide) (g := (mkF m 15 #[.val (.long q0), .second, .val (.int (5 : Int32)), .val (.ref b26)] [(.int (f2 q0 (0 : Int32))), (.int (0 : Int32)), (.ref b26)])) rfl rfl (hb hby d1_15)
    have Z28 : n0 ≤ h28.size := Nat.le_trans Z26 (Keep.of_wr W28).1
    have K28 : Keep h0 h28 [] := K26.wr W28 (Or.inr sz_b26)
    have N28 := Fr.snoc X28 N27 g_b26
    refine Goes.of st28 ?_
    show Goes _ _ _ _ _ _ _ (T28.setTop (mkF m 16 #[.val (.long q0), .second, .val (.int (5 : Int32)), .val (.ref b26)] []))
    refine Goes.of (fun t k => XS.iloadN X28.here hx rfl (hb hby d1_16) rfl k) ?_
    show Goes _ _ _ _ _ _ _ (T28.setTop (mkF m 17 #[.val (.long q0), .second, .val (.int (5 : Int32)), .val (.ref b26)] [(.int (5 : Int32))]))
    refine Goes.of (fun t k => XS.iconst X28.here hx rfl (hb hby d1_17) k) ?_
    show Goes _ _ _ _ _ _ _ (T28.setTop (mkF m 18 #[.val (.long q0), .second, .val (.int (5 : Int32)), .val (.ref b26)] [(.int (1 : Int32)), (.int (5 : Int32))]))
    refine Goes.of (fun t k => XS.icmpNo X28.here hx rfl (hb hby d1_18) rfl (tlt (by decide : (1 : Int32) < (5 : Int32))).2.2.2 k) ?_
    show Goes _ _ _ _ _ _ _ (T28.setTop (mkF m 21 #[.val (.long q0), .second, .val (.int (5 : Int32)), .val (.ref b26)] []))
    refine Goes.of (fun t k => XS.aloadN X28.here hx rfl (hb hby d1_21) rfl rfl k) ?_
    show Goes _ _ _ _ _ _ _ (T28.setTop (mkF m 22 #[.val (.long q0), .second, .val (.int (5 : Int32)), .val (.ref b26)] [(.ref b26)]))
    refine Goes.of (fun t k => XS.iconst X28.here hx rfl (hb hby d1_22) k) ?_
    show Goes _ _ _ _ _ _ _ (T28.setTop (mkF m 23 #[.val (.long q0), .second, .val (.int (5 : Int32)), .val (.ref b26)] [(.int (1 : Int32)), (.ref b26)]))
    refine Goes.of (fun t k => XS.lloadN X28.here hx rfl (hb hby d1_23) rfl k) ?_
    show Goes _ _ _ _ _ _ _ (T28.setTop (mkF m 24 #[.val (.long q0), .second, .val (.int (5 : Int32)), .val (.ref b26)] [(.long q0), (.int (1 : Int32)), (.ref b26)]))
    refine Goes.of (fun t k => XS.iconst X28.here hx rfl (hb hby d1_24) k) ?_
    show Goes _ _ _ _ _ _ _ (T28.setTop (mkF m 25 #[.val (.long q0), .second, .val (.int (5 : Int32)), .val (.ref b26)] [(.int (1 : Int32)), (.long q0), (.int (1 : Int32)), (.ref b26)]))
    obtain ⟨_, _, ⟨T29, L29, k29, n29⟩, -, X29, ⟨Lc29, hQ29, l29, y29, z29⟩, st29⟩ := Jvm.LawKit.callS X28 hx (y := (⟨"com/example/vhost/vhost/util/HashesFnv1aPinLaw", "at", "(JI)B"⟩ : MethodName)) hown (mvT hZ (hw _ (List.mem_of_getElem? (i := 5) rfl))) (mvT hZ (hw _ (List.mem_of_getElem? (i := 6) rfl))) (mvT hZ (hw _ (List.mem_of_getElem? (i := 3) rfl))) (mvT hZ (hw _ (List.mem_of_getElem? (i := 7) rfl))) (by decide) (backOf (W := 2) (rm2 l Z a0 hw [] q0 (1 : Int32)  h28 n0 ) hZ (hw _ (List.mem_of_getElem? (i := 7) rfl)) (hw _ (List.mem_of_getElem? (i := 3) rfl)) (by decide) (by decide)) (g := (mkF m 25 #[.val (.long q0), .second, .val (.int (5 : Int32)), .val (.ref b26)] [(.int (1 : Int32)), (.long q0), (.int (1 : Int32)), (.ref b26)])) rfl (by rw [hml]; rfl) (argsL := [(.long q0), (.int (1 : Int32))]) (rest := [(.int (1 : Int32)), (.ref b26)]) (lenOf pd_0 rfl) rfl (by show 2 * 0 + _ ≤ _; exact Nat.le_of_eq rfl) (hb hby d1_25) (fun _ _ => ⟨rfl, e28, (by decide : 1 + 0 ≤ _), (by decide : 8 + 0 ≤ _)⟩)
    dsimp only [Pt.U, Pt.locs, Pt.cells, Pt.slots] at X29 l29 y29 z29 st29 hQ29
    subst l29 y29 z29
    obtain ⟨rfl, N29q, e29⟩ := hQ29
    have N29 := Fr.app N28 N29q
    refine Goes.of st29 ?_
    show Goes _ _ _ _ _ _ _ (T29.setTop (mkF m 28 #[.val (.long q0), .second, .val (.int (5 : Int32)), .val (.ref b26)] [(.int (f2 q0 (1 : Int32))), (.int (1 : Int32)), (.ref b26)]))
    obtain ⟨T30, h30, X30, e30, W30, V30, st30⟩ := putB X29 hx hZ e29 V28 (j := (1 : Int32)) (x := (f2 q0 (1 : Int32))) (i := 1) (by decide) (by decide) (by decide) (g := (mkF m 28 #[.val (.long q0), .second, .val (.int (5 : Int32)), .val (.ref b26)] [(.int (f2 q0 (1 : Int32))), (.int (1 : Int32)), (.ref b26)])) rfl rfl (hb hby d1_28)
    have Z30 : n0 ≤ h30.size := Nat.le_trans Z28 (Keep.of_wr W30).1
    have K30 : Keep h0 h30 [] := K28.wr W30 (Or.inr sz_b26)
    have N30 := Fr.snoc X30 N29 g_b26
    refine Goes.of st30 ?_
    show Goes _ _ _ _ _ _ _ (T30.setTop (mkF m 29 #[.val (.long q0), .second, .val (.int (5 : Int32)), .val (.ref b26)] []))
    refine Goes.of (fun t k => XS.iloadN X30.here hx rfl (hb hby d1_29) rfl k) ?_
    show Goes _ _ _ _ _ _ _ (T30.setTop (mkF m 30 #[.val (.long q0), .second, .val (.int (5 : Int32)), .val (.ref b26)] [(.int (5 : Int32))]))
    refine Goes.of (fun t k => XS.iconst X30.here hx rfl (hb hby d1_30) k) ?_
    show Goes _ _ _ _ _ _ _ (T30.setTop (mkF m 31 #[.val (.long q0), .second, .val (.int (5 : Int32)), .val (.ref b26)] [(.int (2 : Int32)), (.int (5 : Int32))]))
    refine Goes.of (fun t k => XS.icmpNo X30.here hx rfl (hb hby d1_31) rfl (tlt (by decide : (2 : Int32) < (5 : Int32))).2.2.2 k) ?_
    show Goes _ _ _ _ _ _ _ (T30.setTop (mkF m 34 #[.val (.long q0), .second, .val (.int (5 : Int32)), .val (.ref b26)] []))
    refine Goes.of (fun t k => XS.aloadN X30.here hx rfl (hb hby d1_34) rfl rfl k) ?_
    show Goes _ _ _ _ _ _ _ (T30.setTop (mkF m 35 #[.val (.long q0), .second, .val (.int (5 : Int32)), .val (.ref b26)] [(.ref b26)]))
    refine Goes.of (fun t k => XS.iconst X30.here hx rfl (hb hby d1_35) k) ?_
    show Goes _ _ _ _ _ _ _ (T30.setTop (mkF m 36 #[.val (.long q0), .second, .val (.int (5 : Int32)), .val (.ref b26)] [(.int (2 : Int32)), (.ref b26)]))
    refine Goes.of (fun t k => XS.lloadN X30.here hx rfl (hb hby d1_36) rfl k) ?_
    show Goes _ _ _ _ _ _ _ (T30.setTop (mkF m 37 #[.val (.long q0), .second, .val (.int (5 : Int32)), .val (.ref b26)] [(.long q0), (.int (2 : Int32)), (.ref b26)]))
    refine Goes.of (fun t k => XS.iconst X30.here hx rfl (hb hby d1_37) k) ?_
    show Goes _ _ _ _ _ _ _ (T30.setTop (mkF m 38 #[.val (.long q0), .second, .val (.int (5 : Int32)), .val (.ref b26)] [(.int (2 : Int32)), (.long q0), (.int (2 : Int32)), (.ref b26)]))
    obtain ⟨_, _, ⟨T31, L31, k31, n31⟩, -, X31, ⟨Lc31, hQ31, l31, y31, z31⟩, st31⟩ := Jvm.LawKit.callS X30 hx (y := (⟨"com/example/vhost/vhost/util/HashesFnv1aPinLaw", "at", "(JI)B"⟩ : MethodName)) hown (mvT hZ (hw _ (List.mem_of_getElem? (i := 5) rfl))) (mvT hZ (hw _ (List.mem_of_getElem? (i := 6) rfl))) (mvT hZ (hw _ (List.mem_of_getElem? (i := 3) rfl))) (mvT hZ (hw _ (List.mem_of_getElem? (i := 7) rfl))) (by decide) (backOf (W := 2) (rm2 l Z a0 hw [] q0 (2 : Int32)  h30 n0 ) hZ (hw _ (List.mem_of_getElem? (i := 7) rfl)) (hw _ (List.mem_of_getElem? (i := 3) rfl)) (by decide) (by decide)) (g := (mkF m 38 #[.val (.long q0), .second, .val (.int (5 : Int32)), .val (.ref b26)] [(.int (2 : Int32)), (.long q0), (.int (2 : Int32)), (.ref b26)])) rfl (by rw [hml]; rfl) (argsL := [(.long q0), (.int (2 : Int32))]) (rest := [(.int (2 : Int32)), (.ref b26)]) (lenOf pd_0 rfl) rfl (by show 2 * 0 + _ ≤ _; exact Nat.le_of_eq rfl) (hb hby d1_38) (fun _ _ => ⟨rfl, e30, (by decide : 1 + 0 ≤ _), (by decide : 8 + 0 ≤ _)⟩)
    dsimp only [Pt.U, Pt.locs, Pt.cells, Pt.slots] at X31 l31 y31 z31 st31 hQ31
    subst l31 y31 z31
    obtain ⟨rfl, N31q, e31⟩ := hQ31
    have N31 := Fr.app N30 N31q
    refine Goes.of st31 ?_
    show Goes _ _ _ _ _ _ _ (T31.setTop (mkF m 41 #[.val (.long q0), .second, .val (.int (5 : Int32)), .val (.ref b26)] [(.int (f2 q0 (2 : Int32))), (.int (2 : Int32)), (.ref b26)]))
    obtain ⟨T32, h32, X32, e32, W32, V32, st32⟩ := putB X31 hx hZ e31 V30 (j := (2 : Int32)) (x := (f2 q0 (2 : Int32))) (i := 2) (by decide) (by decide) (by decide) (g := (mkF m 41 #[.val (.long q0), .second, .val (.int (5 : Int32)), .val (.ref b26)] [(.int (f2 q0 (2 : Int32))), (.int (2 : Int32)), (.ref b26)])) rfl rfl (hb hby d1_41)
    have Z32 : n0 ≤ h32.size := Nat.le_trans Z30 (Keep.of_wr W32).1
    have K32 : Keep h0 h32 [] := K30.wr W32 (Or.inr sz_b26)
    have N32 := Fr.snoc X32 N31 g_b26
    refine Goes.of st32 ?_
    show Goes _ _ _ _ _ _ _ (T32.setTop (mkF m 42 #[.val (.long q0), .second, .val (.int (5 : Int32)), .val (.ref b26)] []))
    refine Goes.of (fun t k => XS.iloadN X32.here hx rfl (hb hby d1_42) rfl k) ?_
    show Goes _ _ _ _ _ _ _ (T32.setTop (mkF m 43 #[.val (.long q0), .second, .val (.int (5 : Int32)), .val (.ref b26)] [(.int (5 : Int32))]))
    refine Goes.of (fun t k => XS.iconst X32.here hx rfl (hb hby d1_43) k) ?_
    show Goes _ _ _ _ _ _ _ (T32.setTop (mkF m 44 #[.val (.long q0), .second, .val (.int (5 : Int32)), .val (.ref b26)] [(.int (3 : Int32)), (.int (5 : Int32))]))
    refine Goes.of (fun t k => XS.icmpNo X32.here hx rfl (hb hby d1_44) rfl (tlt (by decide : (3 : Int32) < (5 : Int32))).2.2.2 k) ?_
    show Goes _ _ _ _ _ _ _ (T32.setTop (mkF m 47 #[.val (.long q0), .second, .val (.int (5 : Int32)), .val (.ref b26)] []))
    refine Goes.of (fun t k => XS.aloadN X32.here hx rfl (hb hby d1_47) rfl rfl k) ?_
    show Goes _ _ _ _ _ _ _ (T32.setTop (mkF m 48 #[.val (.long q0), .second, .val (.int (5 : Int32)), .val (.ref b26)] [(.ref b26)]))
    refine Goes.of (fun t k => XS.iconst X32.here hx rfl (hb hby d1_48) k) ?_
    show Goes _ _ _ _ _ _ _ (T32.setTop (mkF m 49 #[.val (.long q0), .second, .val (.int (5 : Int32)), .val (.ref b26)] [(.int (3 : Int32)), (.ref b26)]))
    refine Goes.of (fun t k => XS.lloadN X32.here hx rfl (hb hby d1_49) rfl k) ?_
    show Goes _ _ _ _ _ _ _ (T32.setTop (mkF m 50 #[.val (.long q0), .second, .val (.int (5 : Int32)), .val (.ref b26)] [(.long q0), (.int (3 : Int32)), (.ref b26)]))
    refine Goes.of (fun t k => XS.iconst X32.here hx rfl (hb hby d1_50) k) ?_
    show Goes _ _ _ _ _ _ _ (T32.setTop (mkF m 51 #[.val (.long q0), .second, .val (.int (5 : Int32)), .val (.ref b26)] [(.int (3 : Int32)), (.long q0), (.int (3 : Int32)), (.ref b26)]))
    obtain ⟨_, _, ⟨T33, L33, k33, n33⟩, -, X33, ⟨Lc33, hQ33, l33, y33, z33⟩, st33⟩ := Jvm.LawKit.callS X32 hx (y := (⟨"com/example/vhost/vhost/util/HashesFnv1aPinLaw", "at", "(JI)B"⟩ : MethodName)) hown (mvT hZ (hw _ (List.mem_of_getElem? (i := 5) rfl))) (mvT hZ (hw _ (List.mem_of_getElem? (i := 6) rfl))) (mvT hZ (hw _ (List.mem_of_getElem? (i := 3) rfl))) (mvT hZ (hw _ (List.mem_of_getElem? (i := 7) rfl))) (by decide) (backOf (W := 2) (rm2 l Z a0 hw [] q0 (3 : Int32)  h32 n0 ) hZ (hw _ (List.mem_of_getElem? (i := 7) rfl)) (hw _ (List.mem_of_getElem? (i := 3) rfl)) (by decide) (by decide)) (g := (mkF m 51 #[.val (.long q0), .second, .val (.int (5 : Int32)), .val (.ref b26)] [(.int (3 : Int32)), (.long q0), (.int (3 : Int32)), (.ref b26)])) rfl (by rw [hml]; rfl) (argsL := [(.long q0), (.int (3 : Int32))]) (rest := [(.int (3 : Int32)), (.ref b26)]) (lenOf pd_0 rfl) rfl (by show 2 * 0 + _ ≤ _; exact Nat.le_of_eq rfl) (hb hby d1_51) (fun _ _ => ⟨rfl, e32, (by decide : 1 + 0 ≤ _), (by decide : 8 + 0 ≤ _)⟩)
    dsimp only [Pt.U, Pt.locs, Pt.cells, Pt.slots] at X33 l33 y33 z33 st33 hQ33
    subst l33 y33 z33
    obtain ⟨rfl, N33q, e33⟩ := hQ33
    have N33 := Fr.app N32 N33q
    refine Goes.of st33 ?_
    show Goes _ _ _ _ _ _ _ (T33.setTop (mkF m 54 #[.val (.long q0), .second, .val (.int (5 : Int32)), .val (.ref b26)] [(.int (f2 q0 (3 : Int32))), (.int (3 : Int32)), (.ref b26)]))
    obtain ⟨T34, h34, X34, e34, W34, V34, st34⟩ := putB X33 hx hZ e33 V32 (j := (3 : Int32)) (x := (f2 q0 (3 : Int32))) (i := 3) (by decide) (by decide) (by decide) (g := (mkF m 54 #[.val (.long q0), .second, .val (.int (5 : Int32)), .val (.ref b26)] [(.int (f2 q0 (3 : Int32))), (.int (3 : Int32)), (.ref b26)])) rfl rfl (hb hby d1_54)
    have Z34 : n0 ≤ h34.size := Nat.le_trans Z32 (Keep.of_wr W34).1
    have K34 : Keep h0 h34 [] := K32.wr W34 (Or.inr sz_b26)
    have N34 := Fr.snoc X34 N33 g_b26
    refine Goes.of st34 ?_
    show Goes _ _ _ _ _ _ _ (T34.setTop (mkF m 55 #[.val (.long q0), .second, .val (.int (5 : Int32)), .val (.ref b26)] []))
    refine Goes.of (fun t k => XS.iloadN X34.here hx rfl (hb hby d1_55) rfl k) ?_
    show Goes _ _ _ _ _ _ _ (T34.setTop (mkF m 56 #[.val (.long q0), .second, .val (.int (5 : Int32)), .val (.ref b26)] [(.int (5 : Int32))]))
    refine Goes.of (fun t k => XS.iconst X34.here hx rfl (hb hby d1_56) k) ?_
    show Goes _ _ _ _ _ _ _ (T34.setTop (mkF m 57 #[.val (.long q0), .second, .val (.int (5 : Int32)), .val (.ref b26)] [(.int (4 : Int32)), (.int (5 : Int32))]))
    refine Goes.of (fun t k => XS.icmpNo X34.here hx rfl (hb hby d1_57) rfl (tlt (by decide : (4 : Int32) < (5 : Int32))).2.2.2 k) ?_
    show Goes _ _ _ _ _ _ _ (T34.setTop (mkF m 60 #[.val (.long q0), .second, .val (.int (5 : Int32)), .val (.ref b26)] []))
    refine Goes.of (fun t k => XS.aloadN X34.here hx rfl (hb hby d1_60) rfl rfl k) ?_
    show Goes _ _ _ _ _ _ _ (T34.setTop (mkF m 61 #[.val (.long q0), .second, .val (.int (5 : Int32)), .val (.ref b26)] [(.ref b26)]))
    refine Goes.of (fun t k => XS.iconst X34.here hx rfl (hb hby d1_61) k) ?_
    show Goes _ _ _ _ _ _ _ (T34.setTop (mkF m 62 #[.val (.long q0), .second, .val (.int (5 : Int32)), .val (.ref b26)] [(.int (4 : Int32)), (.ref b26)]))
    refine Goes.of (fun t k => XS.lloadN X34.here hx rfl (hb hby d1_62) rfl k) ?_
    show Goes _ _ _ _ _ _ _ (T34.setTop (mkF m 63 #[.val (.long q0), .second, .val (.int (5 : Int32)), .val (.ref b26)] [(.long q0), (.int (4 : Int32)), (.ref b26)]))
    refine Goes.of (fun t k => XS.iconst X34.here hx rfl (hb hby d1_63) k) ?_
    show Goes _ _ _ _ _ _ _ (T34.setTop (mkF m 64 #[.val (.long q0), .second, .val (.int (5 : Int32)), .val (.ref b26)] [(.int (4 : Int32)), (.long q0), (.int (4 : Int32)), (.ref b26)]))
    obtain ⟨_, _, ⟨T35, L35, k35, n35⟩, -, X35, ⟨Lc35, hQ35, l35, y35, z35⟩, st35⟩ := Jvm.LawKit.callS X34 hx (y := (⟨"com/example/vhost/vhost/util/HashesFnv1aPinLaw", "at", "(JI)B"⟩ : MethodName)) hown (mvT hZ (hw _ (List.mem_of_getElem? (i := 5) rfl))) (mvT hZ (hw _ (List.mem_of_getElem? (i := 6) rfl))) (mvT hZ (hw _ (List.mem_of_getElem? (i := 3) rfl))) (mvT hZ (hw _ (List.mem_of_getElem? (i := 7) rfl))) (by decide) (backOf (W := 2) (rm2 l Z a0 hw [] q0 (4 : Int32)  h34 n0 ) hZ (hw _ (List.mem_of_getElem? (i := 7) rfl)) (hw _ (List.mem_of_getElem? (i := 3) rfl)) (by decide) (by decide)) (g := (mkF m 64 #[.val (.long q0), .second, .val (.int (5 : Int32)), .val (.ref b26)] [(.int (4 : Int32)), (.long q0), (.int (4 : Int32)), (.ref b26)])) rfl (by rw [hml]; rfl) (argsL := [(.long q0), (.int (4 : Int32))]) (rest := [(.int (4 : Int32)), (.ref b26)]) (lenOf pd_0 rfl) rfl (by show 2 * 0 + _ ≤ _; exact Nat.le_of_eq rfl) (hb hby d1_64) (fun _ _ => ⟨rfl, e34, (by decide : 1 + 0 ≤ _), (by decide : 8 + 0 ≤ _)⟩)
    dsimp only [Pt.U, Pt.locs, Pt.cells, Pt.slots] at X35 l35 y35 z35 st35 hQ35
    subst l35 y35 z35
    obtain ⟨rfl, N35q, e35⟩ := hQ35
    have N35 := Fr.app N34 N35q
    refine Goes.of st35 ?_
    show Goes _ _ _ _ _ _ _ (T35.setTop (mkF m 67 #[.val (.long q0), .second, .val (.int (5 : Int32)), .val (.ref b26)] [(.int (f2 q0 (4 : Int32))), (.int (4 : Int32)), (.ref b26)]))
    obtain ⟨T36, h36, X36, e36, W36, V36, st36⟩ := putB X35 hx hZ e35 V34 (j := (4 : Int32)) (x := (f2 q0 (4 : Int32))) (i := 4) (by decide) (by decide) (by decide) (g := (mkF m 67 #[.val (.long q0), .second, .val (.int (5 : Int32)), .val (.ref b26)] [(.int (f2 q0 (4 : Int32))), (.int (4 : Int32)), (.ref b26)])) rfl rfl (hb hby d1_67)
    have Z36 : n0 ≤ h36.size := Nat.le_trans Z34 (Keep.of_wr W36).1
    have K36 : Keep h0 h36 [] := K34.wr W36 (Or.inr sz_b26)
    have N36 := Fr.snoc X36 N35 g_b26
    refine Goes.of st36 ?_
    show Goes _ _ _ _ _ _ _ (T36.setTop (mkF m 68 #[.val (.long q0), .second, .val (.int (5 : Int32)), .val (.ref b26)] []))
    refine Goes.of (fun t k => XS.iloadN X36.here hx rfl (hb hby d1_68) rfl k) ?_
    show Goes _ _ _ _ _ _ _ (T36.setTop (mkF m 69 #[.val (.long q0), .second, .val (.int (5 : Int32)), .val (.ref b26)] [(.int (5 : Int32))]))
    refine Goes.of (fun t k => XS.iconst X36.here hx rfl (hb hby d1_69) k) ?_
    show Goes _ _ _ _ _ _ _ (T36.setTop (mkF m 70 #[.val (.long q0), .second, .val (.int (5 : Int32)), .val (.ref b26)] [(.int (5 : Int32)), (.int (5 : Int32))]))
    refine Goes.of (fun t k => XS.icmpYes X36.here hx rfl (pc0 := 70) (pc' := 81) rfl (hb hby d1_70) rfl (flt (by decide : ¬ ((5 : Int32) < (5 : Int32)))).2.2.2 (by decide) (by decide) k) ?_
    show Goes _ _ _ _ _ _ _ (T36.setTop (mkF m 81 #[.val (.long q0), .second, .val (.int (5 : Int32)), .val (.ref b26)] []))
    refine Goes.of (fun t k => XS.iloadN X36.here hx rfl (hb hby d1_81) rfl k) ?_
    show Goes _ _ _ _ _ _ _ (T36.setTop (mkF m 82 #[.val (.long q0), .second, .val (.int (5 : Int32)), .val (.ref b26)] [(.int (5 : Int32))]))
    refine Goes.of (fun t k => XS.bipush X36.here hx rfl (hb hby d1_82) k) ?_
    show Goes _ _ _ _ _ _ _ (T36.setTop (mkF m 84 #[.val (.long q0), .second, .val (.int (5 : Int32)), .val (.ref b26)] [(.int (6 : Int32)), (.int (5 : Int32))]))
    refine Goes.of (fun t k => XS.icmpYes X36.here hx rfl (pc0 := 84) (pc' := 97) rfl (hb hby d1_84) rfl (flt (by decide : ¬ ((6 : Int32) < (5 : Int32)))).2.2.2 (by decide) (by decide) k) ?_
    show Goes _ _ _ _ _ _ _ (T36.setTop (mkF m 97 #[.val (.long q0), .second, .val (.int (5 : Int32)), .val (.ref b26)] []))
    refine Goes.of (fun t k => XS.iloadN X36.here hx rfl (hb hby d1_97) rfl k) ?_
    show Goes _ _ _ _ _ _ _ (T36.setTop (mkF m 98 #[.val (.long q0), .second, .val (.int (5 : Int32)), .val (.ref b26)] [(.int (5 : Int32))]))
    refine Goes.of (fun t k => XS.bipush X36.here hx rfl (hb hby d1_98) k) ?_
    show Goes _ _ _ _ _ _ _ (T36.setTop (mkF m 100 #[.val (.long q0), .second, .val (.int (5 : Int32)), .val (.ref b26)] [(.int (7 : Int32)), (.int (5 : Int32))]))
    refine Goes.of (fun t k => XS.icmpYes X36.here hx rfl (pc0 := 100) (pc' := 113) rfl (hb hby d1_100) rfl (flt (by decide : ¬ ((7 : Int32) < (5 : Int32)))).2.2.2 (by decide) (by decide) k) ?_
    show Goes _ _ _ _ _ _ _ (T36.setTop (mkF m 113 #[.val (.long q0), .second, .val (.int (5 : Int32)), .val (.ref b26)] []))
    refine Goes.of (fun t k => XS.aloadN X36.here hx rfl (hb hby d1_113) rfl rfl k) ?_
    show Goes _ _ _ _ _ _ _ (T36.setTop (mkF m 114 #[.val (.long q0), .second, .val (.int (5 : Int32)), .val (.ref b26)] [(.ref b26)]))
    exact Goes.fin X36 hlk (v := some (.ref b26)) (fun h => by rw [Bd.returns] at h; cases h) (fun fs hr => retOut X36 hx Bd.returns (by rfl) (Or.inr (Or.inr (Or.inr (Or.inr ⟨rfl, rfl, rfl⟩)))) (hb hby d1_114) hr) (by rw [e36]; exact ⟨b26, rfl, N36, K36, sz_b26, V36.congr (fun j hj => by
          have hj' : j = 0 ∨ j = 1 ∨ j = 2 ∨ j = 3 ∨ j = 4 := by omega
          rcases hj' with rfl | rfl | rfl | rfl | rfl <;> rfl)⟩) (by decide) (by decide)
  · refine Goes.of (fun t k => XS.iloadN X0.here hx rfl (hb hby d1_0) rfl k) ?_
    show Goes _ _ _ _ _ _ _ (s₁.setTop (mkF m 1 #[.val (.long q0), .second, .val (.int (6 : Int32)), .unset] [(.int (6 : Int32))]))
    obtain ⟨T37, h37, k37, X37, e37, E37, A37, Ea37, st37⟩ := newPE X0 hx hZ (hw _ (List.mem_of_getElem? (i := 0) rfl)) e0 (g := (mkF m 1 #[.val (.long q0), .second, .val (.int (6 : Int32)), .unset] [(.int (6 : Int32))])) rfl (hb hby d1_1) rfl (by decide) (cap := 8) (by decide) (by decide) (by decide) (by decide) (ad := "[B") (by decide)
    obtain ⟨b37, g37⟩ : ∃ z, z = h0.size := ⟨_, rfl⟩
    rw [← g37] at A37 Ea37 st37
    have V37 : AI Z h37 b37 .byte 6 (fun _ => 0) := AI.new rfl rfl A37 (by decide) (by decide)
    have g_b37 : n0 ≤ b37 := Nat.le_trans Z0 (Nat.le_of_eq g37.symm)
    have sz_b37 : h0.size ≤ b37 := Nat.le_trans (Keep.refl h0 []).1 (Nat.le_of_eq g37.symm)
    have Z37 : n0 ≤ h37.size := Nat.le_trans Z0 E37.1
    have K37 : Keep h0 h37 [] := (Keep.refl h0 []).ext E37
    refine Goes.of st37 ?_
    show Goes _ _ _ _ _ _ _ (T37.setTop (mkF m 3 #[.val (.long q0), .second, .val (.int (6 : Int32)), .unset] [(.ref b37)]))
    refine Goes.of (fun t k => XS.astoreN X37.here hx rfl (hb hby d1_3) rfl rfl (l' := #[.val (.long q0), .second, .val (.int (6 : Int32)), .val (.ref b37)]) rfl k) ?_
    show Goes _ _ _ _ _ _ _ (T37.setTop (mkF m 4 #[.val (.long q0), .second, .val (.int (6 : Int32)), .val (.ref b37)] []))
    refine Goes.of (fun t k => XS.iloadN X37.here hx rfl (hb hby d1_4) rfl k) ?_
    show Goes _ _ _ _ _ _ _ (T37.setTop (mkF m 5 #[.val (.long q0), .second, .val (.int (6 : Int32)), .val (.ref b37)] [(.int (6 : Int32))]))
    refine Goes.of (fun t k => XS.ifNo X37.here hx rfl (hb hby d1_5) rfl ((if0 _ _).trans (tlt (by decide : (0 : Int32) < (6 : Int32))).2.2.2) k) ?_
    show Goes _ _ _ _ _ _ _ (T37.setTop (mkF m 8 #[.val (.long q0), .second, .val (.int (6 : Int32)), .val (.ref b37)] []))
    refine Goes.of (fun t k => XS.aloadN X37.here hx rfl (hb hby d1_8) rfl rfl k) ?_
    show Goes _ _ _ _ _ _ _ (T37.setTop (mkF m 9 #[.val (.long q0), .second, .val (.int (6 : Int32)), .val (.ref b37)] [(.ref b37)]))
    refine Goes.of (fun t k => XS.iconst X37.here hx rfl (hb hby d1_9) k) ?_
    show Goes _ _ _ _ _ _ _ (T37.setTop (mkF m 10 #[.val (.long q0), .second, .val (.int (6 : Int32)), .val (.ref b37)] [(.int (0 : Int32)), (.ref b37)]))
    refine Goes.of (fun t k => XS.lloadN X37.here hx rfl (hb hby d1_10) rfl k) ?_
    show Goes _ _ _ _ _ _ _ (T37.setTop (mkF m 11 #[.val (.long q0), .second, .val (.int (6 : Int32)), .val (.ref b37)] [(.long q0), (.int (0 : Int32)), (.ref b37)]))
    refine Goes.of (fun t k => XS.iconst X37.here hx rfl (hb hby d1_11) k) ?_
    show Goes _ _ _ _ _ _ _ (T37.setTop (mkF m 12 #[.val (.long q0), .second, .val (.int (6 : Int32)), .val (.ref b37)] [(.int (0 : Int32)), (.long q0), (.int (0 : Int32)), (.ref b37)]))
    obtain ⟨_, _, ⟨T38, L38, k38, n38⟩, -, X38, ⟨Lc38, hQ38, l38, y38, z38⟩, st38⟩ := Jvm.LawKit.callS X37 hx (y := (⟨"com/example/vhost/vhost/util/HashesFnv1aPinLaw", "at", "(JI)B"⟩ : MethodName)) hown (mvT hZ (hw _ (List.mem_of_getElem? (i := 5) rfl))) (mvT hZ (hw _ (List.mem_of_getElem? (i := 6) rfl))) (mvT hZ (hw _ (List.mem_of_getElem? (i := 3) rfl))) (mvT hZ (hw _ (List.mem_of_getElem? (i := 7) rfl))) (by decide) (backOf (W := 2) (rm2 l Z a0 hw [] q0 (0 : Int32)  h37 n0 ) hZ (hw _ (List.mem_of_getElem? (i := 7) rfl)) (hw _ (List.mem_of_getElem? (i := 3) rfl)) (by decide) (by decide)) (g := (mkF m 12 #[.val (.long q0), .second, .val (.int (6 : Int32)), .val (.ref b37)] [(.int (0 : Int32)), (.long q0), (.int (0 : Int32)), (.ref b37)])) rfl (by rw [hml]; rfl) (argsL := [(.long q0), (.int (0 : Int32))]) (rest := [(.int (0 : Int32)), (.ref b37)]) (lenOf pd_0 rfl) rfl (by show 2 * 0 + _ ≤ _; exact Nat.le_of_eq rfl) (hb hby d1_12) (fun _ _ => ⟨rfl, e37, (by decide : 1 + 0 ≤ _), (by decide : 8 + 0 ≤ _)⟩)
    dsimp only [Pt.U, Pt.locs, Pt.cells, Pt.slots] at X38 l38 y38 z38 st38 hQ38
    subst l38 y38 z38
    obtain ⟨rfl, N38q, e38⟩ := hQ38
    have N38 := Fr.app N0 N38q
    refine Goes.of st38 ?_
    show Goes _ _ _ _ _ _ _ (T38.setTop (mkF m 15 #[.val (.long q0), .second, .val (.int (6 : Int32)), .val (.ref b37)] [(.int (f2 q0 (0 : Int32))), (.int (0 : Int32)), (.ref b37)]))
    obtain ⟨T39, h39, X39, e39, W39, V39, st39⟩ := putB X38 hx hZ e38 V37 (j := (0 : Int32)) (x := (f2 q0 (0 : Int32))) (i := 0) (by decide) (by decide) (by decide) (g := (mkF m 15 #[.val (.long q0), .second, .val (.int (6 : Int32)), .val (.ref b37)] [(.int (f2 q0 (0 : Int32))), (.int (0 : Int32)), (.ref b37)])) rfl rfl (hb hby d1_15)
    have Z39 : n0 ≤ h39.size := Nat.le_trans Z37 (Keep.of_wr W39).1
    have K39 : Keep h0 h39 [] := K37.wr W39 (Or.inr sz_b37)
    have N39 := Fr.snoc X39 N38 g_b37
    refine Goes.of st39 ?_
    show Goes _ _ _ _ _ _ _ (T39.setTop (mkF m 16 #[.val (.long q0), .second, .val (.int (6 : Int32)), .val (.ref b37)] []))
    refine Goes.of (fun t k => XS.iloadN X39.here hx rfl (hb hby d1_16) rfl k) ?_
    show Goes _ _ _ _ _ _ _ (T39.setTop (mkF m 17 #[.val (.long q0), .second, .val (.int (6 : Int32)), .val (.ref b37)] [(.int (6 : Int32))]))
    refine Goes.of (fun t k => XS.iconst X39.here hx rfl (hb hby d1_17) k) ?_
    show Goes _ _ _ _ _ _ _ (T39.setTop (mkF m 18 #[.val (.long q0), .second, .val (.int (6 : Int32)), .val (.ref b37)] [(.int (1 : Int32)), (.int (6 : Int32))]))
    refine Goes.of (fun t k => XS.icmpNo X39.here hx rfl (hb hby d1_18) rfl (tlt (by decide : (1 : Int32) < (6 : Int32))).2.2.2 k) ?_
    show Goes _ _ _ _ _ _ _ (T39.setTop (mkF m 21 #[.val (.long q0), .second, .val (.int (6 : Int32)), .val (.ref b37)] []))
    refine Goes.of (fun t k => XS.aloadN X39.here hx rfl (hb hby d1_21) rfl rfl k) ?_
    show Goes _ _ _ _ _ _ _ (T39.setTop (mkF m 22 #[.val (.long q0), .second, .val (.int (6 : Int32)), .val (.ref b37)] [(.ref b37)]))
    refine Goes.of (fun t k => XS.iconst X39.here hx rfl (hb hby d1_22) k) ?_
    show Goes _ _ _ _ _ _ _ (T39.setTop (mkF m 23 #[.val (.long q0), .second, .val (.int (6 : Int32)), .val (.ref b37)] [(.int (1 : Int32)), (.ref b37)]))
    refine Goes.of (fun t k => XS.lloadN X39.here hx rfl (hb hby d1_23) rfl k) ?_
    show Goes _ _ _ _ _ _ _ (T39.setTop (mkF m 24 #[.val (.long q0), .second, .val (.int (6 : Int32)), .val (.ref b37)] [(.long q0), (.int (1 : Int32)), (.ref b37)]))
    refine Goes.of (fun t k => XS.iconst X39.here hx rfl (hb hby d1_24) k) ?_
    show Goes _ _ _ _ _ _ _ (T39.setTop (mkF m 25 #[.val (.long q0), .second, .val (.int (6 : Int32)), .val (.ref b37)] [(.int (1 : Int32)), (.long q0), (.int (1 : Int32)), (.ref b37)]))
    obtain ⟨_, _, ⟨T40, L40, k40, n40⟩, -, X40, ⟨Lc40, hQ40, l40, y40, z40⟩, st40⟩ := Jvm.LawKit.callS X39 hx (y := (⟨"com/example/vhost/vhost/util/HashesFnv1aPinLaw", "at", "(JI)B"⟩ : MethodName)) hown (mvT hZ (hw _ (List.mem_of_getElem? (i := 5) rfl))) (mvT hZ (hw _ (List.mem_of_getElem? (i := 6) rfl))) (mvT hZ (hw _ (List.mem_of_getElem? (i := 3) rfl))) (mvT hZ (hw _ (List.mem_of_getElem? (i := 7) rfl))) (by decide) (backOf (W := 2) (rm2 l Z a0 hw [] q0 (1 : Int32)  h39 n0 ) hZ (hw _ (List.mem_of_getElem? (i := 7) rfl)) (hw _ (List.mem_of_getElem? (i := 3) rfl)) (by decide) (by decide)) (g := (mkF m 25 #[.val (.long q0), .second, .val (.int (6 : Int32)), .val (.ref b37)] [(.int (1 : Int32)), (.long q0), (.int (1 : Int32)), (.ref b37)])) rfl (by rw [hml]; rfl) (argsL := [(.long q0), (.int (1 : Int32))]) (rest := [(.int (1 : Int32)), (.ref b37)]) (lenOf pd_0 rfl) rfl (by show 2 * 0 + _ ≤ _; exact Nat.le_of_eq rfl) (hb hby d1_25) (fun _ _ => ⟨rfl, e39, (by decide : 1 + 0 ≤ _), (by decide : 8 + 0 ≤ _)⟩)
    dsimp only [Pt.U, Pt.locs, Pt.cells, Pt.slots] at X40 l40 y40 z40 st40 hQ40
    subst l40 y40 z40
    obtain ⟨rfl, N40q, e40⟩ := hQ40
    have N40 := Fr.app N39 N40q
    refine Goes.of st40 ?_
    show Goes _ _ _ _ _ _ _ (T40.setTop (mkF m 28 #[.val (.long q0), .second, .val (.int (6 : Int32)), .val (.ref b37)] [(.int (f2 q0 (1 : Int32))), (.int (1 : Int32)), (.ref b37)]))
    obtain ⟨T41, h41, X41, e41, W41, V41, st41⟩ := putB X40 hx hZ e40 V39 (j := (1 : Int32)) (x := (f2 q0 (1 : Int32))) (i := 1) (by decide) (by decide) (by decide) (g := (mkF m 28 #[.val (.long q0), .second, .val (.int (6 : Int32)), .val (.ref b37)] [(.int (f2 q0 (1 : Int32))), (.int (1 : Int32)), (.ref b37)])) rfl rfl (hb hby d1_28)
    have Z41 : n0 ≤ h41.size := Nat.le_trans Z39 (Keep.of_wr W41).1
    have K41 : Keep h0 h41 [] := K39.wr W41 (Or.inr sz_b37)
    have N41 := Fr.snoc X41 N40 g_b37
    refine Goes.of st41 ?_
    show Goes _ _ _ _ _ _ _ (T41.setTop (mkF m 29 #[.val (.long q0), .second, .val (.int (6 : Int32)), .val (.ref b37)] []))
    refine Goes.of (fun t k => XS.iloadN X41.here hx rfl (hb hby d1_29) rfl k) ?_
    show Goes _ _ _ _ _ _ _ (T41.setTop (mkF m 30 #[.val (.long q0), .second, .val (.int (6 : Int32)), .val (.ref b37)] [(.int (6 : Int32))]))
    refine Goes.of (fun t k => XS.iconst X41.here hx rfl (hb hby d1_30) k) ?_
    show Goes _ _ _ _ _ _ _ (T41.setTop (mkF m 31 #[.val (.long q0), .second, .val (.int (6 : Int32)), .val (.ref b37)] [(.int (2 : Int32)), (.int (6 : Int32))]))
    refine Goes.of (fun t k => XS.icmpNo X41.here hx rfl (hb hby d1_31) rfl (tlt (by decide : (2 : Int32) < (6 : Int32))).2.2.2 k) ?_
    show Goes _ _ _ _ _ _ _ (T41.setTop (mkF m 34 #[.val (.long q0), .second, .val (.int (6 : Int32)), .val (.ref b37)] []))
    refine Goes.of (fun t k => XS.aloadN X41.here hx rfl (hb hby d1_34) rfl rfl k) ?_
    show Goes _ _ _ _ _ _ _ (T41.setTop (mkF m 35 #[.val (.long q0), .second, .val (.int (6 : Int32)), .val (.ref b37)] [(.ref b37)]))
    refine Goes.of (fun t k => XS.iconst X41.here hx rfl (hb hby d1_35) k) ?_
    show Goes _ _ _ _ _ _ _ (T41.setTop (mkF m 36 #[.val (.long q0), .second, .val (.int (6 : Int32)), .val (.ref b37)] [(.int (2 : Int32)), (.ref b37)]))
    refine Goes.of (fun t k => XS.lloadN X41.here hx rfl (hb hby d1_36) rfl k) ?_
    show Goes _ _ _ _ _ _ _ (T41.setTop (mkF m 37 #[.val (.long q0), .second, .val (.int (6 : Int32)), .val (.ref b37)] [(.long q0), (.int (2 : Int32)), (.ref b37)]))
    refine Goes.of (fun t k => XS.iconst X41.here hx rfl (hb hby d1_37) k) ?_
    show Goes _ _ _ _ _ _ _ (T41.setTop (mkF m 38 #[.val (.long q0), .second, .val (.int (6 : Int32)), .val (.ref b37)] [(.int (2 : Int32)), (.long q0), (.int (2 : Int32)), (.ref b37)]))
    obtain ⟨_, _, ⟨T42, L42, k42, n42⟩, -, X42, ⟨Lc42, hQ42, l42, y42, z42⟩, st42⟩ := Jvm.LawKit.callS X41 hx (y := (⟨"com/example/vhost/vhost/util/HashesFnv1aPinLaw", "at", "(JI)B"⟩ : MethodName)) hown (mvT hZ (hw _ (List.mem_of_getElem? (i := 5) rfl))) (mvT hZ (hw _ (List.mem_of_getElem? (i := 6) rfl))) (mvT hZ (hw _ (List.mem_of_getElem? (i := 3) rfl))) (mvT hZ (hw _ (List.mem_of_getElem? (i := 7) rfl))) (by decide) (backOf (W := 2) (rm2 l Z a0 hw [] q0 (2 : Int32)  h41 n0 ) hZ (hw _ (List.mem_of_getElem? (i := 7) rfl)) (hw _ (List.mem_of_getElem? (i := 3) rfl)) (by decide) (by decide)) (g := (mkF m 38 #[.val (.long q0), .second, .val (.int (6 : Int32)), .val (.ref b37)] [(.int (2 : Int32)), (.long q0), (.int (2 : Int32)), (.ref b37)])) rfl (by rw [hml]; rfl) (argsL := [(.long q0), (.int (2 : Int32))]) (rest := [(.int (2 : Int32)), (.ref b37)]) (lenOf pd_0 rfl) rfl (by show 2 * 0 + _ ≤ _; exact Nat.le_of_eq rfl) (hb hby d1_38) (fun _ _ => ⟨rfl, e41, (by decide : 1 + 0 ≤ _), (by decide : 8 + 0 ≤ _)⟩)
    dsimp only [Pt.U, Pt.locs, Pt.cells, Pt.slots] at X42 l42 y42 z42 st42 hQ42
    subst l42 y42 z42
    obtain ⟨rfl, N42q, e42⟩ := hQ42
    have N42 := Fr.app N41 N42q
    refine Goes.of st42 ?_
    show Goes _ _ _ _ _ _ _ (T42.setTop (mkF m 41 #[.val (.long q0), .second, .val (.int (6 : Int32)), .val (.ref b37)] [(.int (f2 q0 (2 : Int32))), (.int (2 : Int32)), (.ref b37)]))
    obtain ⟨T43, h43, X43, e43, W43, V43, st43⟩ := putB X42 hx hZ e42 V41 (j := (2 : Int32)) (x := (f2 q0 (2 : Int32))) (i := 2) (by decide) (by decide) (by decide) (g := (mkF m 41 #[.val (.long q0), .second, .val (.int (6 : Int32)), .val (.ref b37)] [(.int (f2 q0 (2 : Int32))), (.int (2 : Int32)), (.ref b37)])) rfl rfl (hb hby d1_41)
    have Z43 : n0 ≤ h43.size := Nat.le_trans Z41 (Keep.of_wr W43).1
    have K43 : Keep h0 h43 [] := K41.wr W43 (Or.inr sz_b37)
    have N43 := Fr.snoc X43 N42 g_b37
    refine Goes.of st43 ?_
    show Goes _ _ _ _ _ _ _ (T43.setTop (mkF m 42 #[.val (.long q0), .second, .val (.int (6 : Int32)), .val (.ref b37)] []))
    refine Goes.of (fun t k => XS.iloadN X43.here hx rfl (hb hby d1_42) rfl k) ?_
    show Goes _ _ _ _ _ _ _ (T43.setTop (mkF m 43 #[.val (.long q0), .second, .val (.int (6 : Int32)), .val (.ref b37)] [(.int (6 : Int32))]))
    refine Goes.of (fun t k => XS.iconst X43.here hx rfl (hb hby d1_43) k) ?_
    show Goes _ _ _ _ _ _ _ (T43.setTop (mkF m 44 #[.val (.long q0), .second, .val (.int (6 : Int32)), .val (.ref b37)] [(.int (3 : Int32)), (.int (6 : Int32))]))
    refine Goes.of (fun t k => XS.icmpNo X43.here hx rfl (hb hby d1_44) rfl (tlt (by decide : (3 : Int32) < (6 : Int32))).2.2.2 k) ?_
    show Goes _ _ _ _ _ _ _ (T43.setTop (mkF m 47 #[.val (.long q0), .second, .val (.int (6 : Int32)), .val (.ref b37)] []))
    refine Goes.of (fun t k => XS.aloadN X43.here hx rfl (hb hby d1_47) rfl rfl k) ?_
    show Goes _ _ _ _ _ _ _ (T43.setTop (mkF m 48 #[.val (.long q0), .second, .val (.int (6 : Int32)), .val (.ref b37)] [(.ref b37)]))
    refine Goes.of (fun t k => XS.iconst X43.here hx rfl (hb hby d1_48) k) ?_
    show Goes _ _ _ _ _ _ _ (T43.setTop (mkF m 49 #[.val (.long q0), .second, .val (.int (6 : Int32)), .val (.ref b37)] [(.int (3 : Int32)), (.ref b37)]))
    refine Goes.of (fun t k => XS.lloadN X43.here hx rfl (hb hby d1_49) rfl k) ?_
    show Goes _ _ _ _ _ _ _ (T43.setTop (mkF m 50 #[.val (.long q0), .second, .val (.int (6 : Int32)), .val (.ref b37)] [(.long q0), (.int (3 : Int32)), (.ref b37)]))
    refine Goes.of (fun t k => XS.iconst X43.here hx rfl (hb hby d1_50) k) ?_
    show Goes _ _ _ _ _ _ _ (T43.setTop (mkF m 51 #[.val (.long q0), .second, .val (.int (6 : Int32)), .val (.ref b37)] [(.int (3 : Int32)), (.long q0), (.int (3 : Int32)), (.ref b37)]))
    obtain ⟨_, _, ⟨T44, L44, k44, n44⟩, -, X44, ⟨Lc44, hQ44, l44, y44, z44⟩, st44⟩ := Jvm.LawKit.callS X43 hx (y := (⟨"com/example/vhost/vhost/util/HashesFnv1aPinLaw", "at", "(JI)B"⟩ : MethodName)) hown (mvT hZ (hw _ (List.mem_of_getElem? (i := 5) rfl))) (mvT hZ (hw _ (List.mem_of_getElem? (i := 6) rfl))) (mvT hZ (hw _ (List.mem_of_getElem? (i := 3) rfl))) (mvT hZ (hw _ (List.mem_of_getElem? (i := 7) rfl))) (by decide) (backOf (W := 2) (rm2 l Z a0 hw [] q0 (3 : Int32)  h43 n0 ) hZ (hw _ (List.mem_of_getElem? (i := 7) rfl)) (hw _ (List.mem_of_getElem? (i := 3) rfl)) (by decide) (by decide)) (g := (mkF m 51 #[.val (.long q0), .second, .val (.int (6 : Int32)), .val (.ref b37)] [(.int (3 : Int32)), (.long q0), (.int (3 : Int32)), (.ref b37)])) rfl (by rw [hml]; rfl) (argsL := [(.long q0), (.int (3 : Int32))]) (rest := [(.int (3 : Int32)), (.ref b37)]) (lenOf pd_0 rfl) rfl (by show 2 * 0 + _ ≤ _; exact Nat.le_of_eq rfl) (hb hby d1_51) (fun _ _ => ⟨rfl, e43, (by decide : 1 + 0 ≤ _), (by decide : 8 + 0 ≤ _)⟩)
    dsimp only [Pt.U, Pt.locs, Pt.cells, Pt.slots] at X44 l44 y44 z44 st44 hQ44
    subst l44 y44 z44
    obtain ⟨rfl, N44q, e44⟩ := hQ44
    have N44 := Fr.app N43 N44q
    refine Goes.of st44 ?_
    show Goes _ _ _ _ _ _ _ (T44.setTop (mkF m 54 #[.val (.long q0), .second, .val (.int (6 : Int32)), .val (.ref b37)] [(.int (f2 q0 (3 : Int32))), (.int (3 : Int32)), (.ref b37)]))
    obtain ⟨T45, h45, X45, e45, W45, V45, st45⟩ := putB X44 hx hZ e44 V43 (j := (3 : Int32)) (x := (f2 q0 (3 : Int32))) (i := 3) (by decide) (by decide) (by decide) (g := (mkF m 54 #[.val (.long q0), .second, .val (.int (6 : Int32)), .val (.ref b37)] [(.int (f2 q0 (3 : Int32))), (.int (3 : Int32)), (.ref b37)])) rfl rfl (hb hby d1_54)
    have Z45 : n0 ≤ h45.size := Nat.le_trans Z43 (Keep.of_wr W45).1
    have K45 : Keep h0 h45 [] := K43.wr W45 (Or.inr sz_b37)
    have N45 := Fr.snoc X45 N44 g_b37
    refine Goes.of st45 ?_
    show Goes _ _ _ _ _ _ _ (T45.setTop (mkF m 55 #[.val (.long q0), .second, .val (.int (6 : Int32)), .val (.ref b37)] []))
    refine Goes.of (fun t k => XS.iloadN X45.here hx rfl (hb hby d1_55) rfl k) ?_
    show Goes _ _ _ _ _ _ _ (T45.setTop (mkF m 56 #[.val (.long q0), .second, .val (.int (6 : Int32)), .val (.ref b37)] [(.int (6 : Int32))]))
    refine Goes.of (fun t k => XS.iconst X45.here hx rfl (hb hby d1_56) k) ?_
    show Goes _ _ _ _ _ _ _ (T45.setTop (mkF m 57 #[.val (.long q0), .second, .val (.int (6 : Int32)), .val (.ref b37)] [(.int (4 : Int32)), (.int (6 : Int32))]))
    refine Goes.of (fun t k => XS.icmpNo X45.here hx rfl (hb hby d1_57) rfl (tlt (by decide : (4 : Int32) < (6 : Int32))).2.2.2 k) ?_
    show Goes _ _ _ _ _ _ _ (T45.setTop (mkF m 60 #[.val (.long q0), .second, .val (.int (6 : Int32)), .val (.ref b37)] []))
    refine Goes.of (fun t k => XS.aloadN X45.here hx rfl (hb hby d1_60) rfl rfl k) ?_
    show Goes _ _ _ _ _ _ _ (T45.setTop (mkF m 61 #[.val (.long q0), .second, .val (.int (6 : Int32)), .val (.ref b37)] [(.ref b37)]))
    refine Goes.of (fun t k => XS.iconst X45.here hx rfl (hb hby d1_61) k) ?_
    show Goes _ _ _ _ _ _ _ (T45.setTop (mkF m 62 #[.val (.long q0), .second, .val (.int (6 : Int32)), .val (.ref b37)] [(.int (4 : Int32)), (.ref b37)]))
    refine Goes.of (fun t k => XS.lloadN X45.here hx rfl (hb hby d1_62) rfl k) ?_
    show Goes _ _ _ _ _ _ _ (T45.setTop (mkF m 63 #[.val (.long q0), .second, .val (.int (6 : Int32)), .val (.ref b37)] [(.long q0), (.int (4 : Int32)), (.ref b37)]))
    refine Goes.of (fun t k => XS.iconst X45.here hx rfl (hb hby d1_63) k) ?_
    show Goes _ _ _ _ _ _ _ (T45.setTop (mkF m 64 #[.val (.long q0), .second, .val (.int (6 : Int32)), .val (.ref b37)] [(.int (4 : Int32)), (.long q0), (.int (4 : Int32)), (.ref b37)]))
    obtain ⟨_, _, ⟨T46, L46, k46, n46⟩, -, X46, ⟨Lc46, hQ46, l46, y46, z46⟩, st46⟩ := Jvm.LawKit.callS X45 hx (y := (⟨"com/example/vhost/vhost/util/HashesFnv1aPinLaw", "at", "(JI)B"⟩ : MethodName)) hown (mvT hZ (hw _ (List.mem_of_getElem? (i := 5) rfl))) (mvT hZ (hw _ (List.mem_of_getElem? (i := 6) rfl))) (mvT hZ (hw _ (List.mem_of_getElem? (i := 3) rfl))) (mvT hZ (hw _ (List.mem_of_getElem? (i := 7) rfl))) (by decide) (backOf (W := 2) (rm2 l Z a0 hw [] q0 (4 : Int32)  h45 n0 ) hZ (hw _ (List.mem_of_getElem? (i := 7) rfl)) (hw _ (List.mem_of_getElem? (i := 3) rfl)) (by decide) (by decide)) (g := (mkF m 64 #[.val (.long q0), .second, .val (.int (6 : Int32)), .val (.ref b37)] [(.int (4 : Int32)), (.long q0), (.int (4 : Int32)), (.ref b37)])) rfl (by rw [hml]; rfl) (argsL := [(.long q0), (.int (4 : Int32))]) (rest := [(.int (4 : Int32)), (.ref b37)]) (lenOf pd_0 rfl) rfl (by show 2 * 0 + _ ≤ _; exact Nat.le_of_eq rfl) (hb hby d1_64) (fun _ _ => ⟨rfl, e45, (by decide : 1 + 0 ≤ _), (by decide : 8 + 0 ≤ _)⟩)
    dsimp only [Pt.U, Pt.locs, Pt.cells, Pt.slots] at X46 l46 y46 z46 st46 hQ46
    subst l46 y46 z46
    obtain ⟨rfl, N46q, e46⟩ := hQ46
    have N46 := Fr.app N45 N46q
    refine Goes.of st46 ?_
    show Goes _ _ _ _ _ _ _ (T46.setTop (mkF m 67 #[.val (.long q0), .second, .val (.int (6 : Int32)), .val (.ref b37)] [(.int (f2 q0 (4 : Int32))), (.int (4 : Int32)), (.ref b37)]))
    obtain ⟨T47, h47, X47, e47, W47, V47, st47⟩ := putB X46 hx hZ e46 V45 (j := (4 : Int32)) (x := (f2 q0 (4 : Int32))) (i := 4) (by decide) (by decide) (by decide) (g := (mkF m 67 #[.val (.long q0), .second, .val (.int (6 : Int32)), .val (.ref b37)] [(.int (f2 q0 (4 : Int32))), (.int (4 : Int32)), (.ref b37)])) rfl rfl (hb hby d1_67)
    have Z47 : n0 ≤ h47.size := Nat.le_trans Z45 (Keep.of_wr W47).1
    have K47 : Keep h0 h47 [] := K45.wr W47 (Or.inr sz_b37)
    have N47 := Fr.snoc X47 N46 g_b37
    refine Goes.of st47 ?_
    show Goes _ _ _ _ _ _ _ (T47.setTop (mkF m 68 #[.val (.long q0), .second, .val (.int (6 : Int32)), .val (.ref b37)] []))
    refine Goes.of (fun t k => XS.iloadN X47.here hx rfl (hb hby d1_68) rfl k) ?_
    show Goes _ _ _ _ _ _ _ (T47.setTop (mkF m 69 #[.val (.long q0), .second, .val (.int (6 : Int32)), .val (.ref b37)] [(.int (6 : Int32))]))
    refine Goes.of (fun t k => XS.iconst X47.here hx rfl (hb hby d1_69) k) ?_
    show Goes _ _ _ _ _ _ _ (T47.setTop (mkF m 70 #[.val (.long q0), .second, .val (.int (6 : Int32)), .val (.ref b37)] [(.int (5 : Int32)), (.int (6 : Int32))]))
    refine Goes.of (fun t k => XS.icmpNo X47.here hx rfl (hb hby d1_70) rfl (tlt (by decide : (5 : Int32) < (6 : Int32))).2.2.2 k) ?_
    show Goes _ _ _ _ _ _ _ (T47.setTop (mkF m 73 #[.val (.long q0), .second, .val (.int (6 : Int32)), .val (.ref b37)] []))
    refine Goes.of (fun t k => XS.aloadN X47.here hx rfl (hb hby d1_73) rfl rfl k) ?_
    show Goes _ _ _ _ _ _ _ (T47.setTop (mkF m 74 #[.val (.long q0), .second, .val (.int (6 : Int32)), .val (.ref b37)] [(.ref b37)]))
    refine Goes.of (fun t k => XS.iconst X47.here hx rfl (hb hby d1_74) k) ?_
    show Goes _ _ _ _ _ _ _ (T47.setTop (mkF m 75 #[.val (.long q0), .second, .val (.int (6 : Int32)), .val (.ref b37)] [(.int (5 : Int32)), (.ref b37)]))
    refine Goes.of (fun t k => XS.lloadN X47.here hx rfl (hb hby d1_75) rfl k) ?_
    show Goes _ _ _ _ _ _ _ (T47.setTop (mkF m 76 #[.val (.long q0), .second, .val (.int (6 : Int32)), .val (.ref b37)] [(.long q0), (.int (5 : Int32)), (.ref b37)]))
    refine Goes.of (fun t k => XS.iconst X47.here hx rfl (hb hby d1_76) k) ?_
    show Goes _ _ _ _ _ _ _ (T47.setTop (mkF m 77 #[.val (.long q0), .second, .val (.int (6 : Int32)), .val (.ref b37)] [(.int (5 : Int32)), (.long q0), (.int (5 : Int32)), (.ref b37)]))
    obtain ⟨_, _, ⟨T48, L48, k48, n48⟩, -, X48, ⟨Lc48, hQ48, l48, y48, z48⟩, st48⟩ := Jvm.LawKit.callS X47 hx (y := (⟨"com/example/vhost/vhost/util/HashesFnv1aPinLaw", "at", "(JI)B"⟩ : MethodName)) hown (mvT hZ (hw _ (List.mem_of_getElem? (i := 5) rfl))) (mvT hZ (hw _ (List.mem_of_getElem? (i := 6) rfl))) (mvT hZ (hw _ (List.mem_of_getElem? (i := 3) rfl))) (mvT hZ (hw _ (List.mem_of_getElem? (i := 7) rfl))) (by decide) (backOf (W := 2) (rm2 l Z a0 hw [] q0 (5 : Int32)  h47 n0 ) hZ (hw _ (List.mem_of_getElem? (i := 7) rfl)) (hw _ (List.mem_of_getElem? (i := 3) rfl)) (by decide) (by decide)) (g := (mkF m 77 #[.val (.long q0), .second, .val (.int (6 : Int32)), .val (.ref b37)] [(.int (5 : Int32)), (.long q0), (.int (5 : Int32)), (.ref b37)])) rfl (by rw [hml]; rfl) (argsL := [(.long q0), (.int (5 : Int32))]) (rest := [(.int (5 : Int32)), (.ref b37)]) (lenOf pd_0 rfl) rfl (by show 2 * 0 + _ ≤ _; exact Nat.le_of_eq rfl) (hb hby d1_77) (fun _ _ => ⟨rfl, e47, (by decide : 1 + 0 ≤ _), (by decide : 8 + 0 ≤ _)⟩)
    dsimp only [Pt.U, Pt.locs, Pt.cells, Pt.slots] at X48 l48 y48 z48 st48 hQ48
    subst l48 y48 z48
    obtain ⟨rfl, N48q, e48⟩ := hQ48
    have N48 := Fr.app N47 N48q
    refine Goes.of st48 ?_
    show Goes _ _ _ _ _ _ _ (T48.setTop (mkF m 80 #[.val (.long q0), .second, .val (.int (6 : Int32)), .val (.ref b37)] [(.int (f2 q0 (5 : Int32))), (.int (5 : Int32)), (.ref b37)]))
    obtain ⟨T49, h49, X49, e49, W49, V49, st49⟩ := putB X48 hx hZ e48 V47 (j := (5 : Int32)) (x := (f2 q0 (5 : Int32))) (i := 5) (by decide) (by decide) (by decide) (g := (mkF m 80 #[.val (.long q0), .second, .val (.int (6 : Int32)), .val (.ref b37)] [(.int (f2 q0 (5 : Int32))), (.int (5 : Int32)), (.ref b37)])) rfl rfl (hb hby d1_80)
    have Z49 : n0 ≤ h49.size := Nat.le_trans Z47 (Keep.of_wr W49).1
    have K49 : Keep h0 h49 [] := K47.wr W49 (Or.inr sz_b37)
    have N49 := Fr.snoc X49 N48 g_b37
    refine Goes.of st49 ?_
    show Goes _ _ _ _ _ _ _ (T49.setTop (mkF m 81 #[.val (.long q0), .second, .val (.int (6 : Int32)), .val (.ref b37)] []))
    refine Goes.of (fun t k => XS.iloadN X49.here hx rfl (hb hby d1_81) rfl k) ?_
    show Goes _ _ _ _ _ _ _ (T49.setTop (mkF m 82 #[.val (.long q0), .second, .val (.int (6 : Int32)), .val (.ref b37)] [(.int (6 : Int32))]))
    refine Goes.of (fun t k => XS.bipush X49.here hx rfl (hb hby d1_82) k) ?_
    show Goes _ _ _ _ _ _ _ (T49.setTop (mkF m 84 #[.val (.long q0), .second, .val (.int (6 : Int32)), .val (.ref b37)] [(.int (6 : Int32)), (.int (6 : Int32))]))
    refine Goes.of (fun t k => XS.icmpYes X49.here hx rfl (pc0 := 84) (pc' := 97) rfl (hb hby d1_84) rfl (flt (by decide : ¬ ((6 : Int32) < (6 : Int32)))).2.2.2 (by decide) (by decide) k) ?_
    show Goes _ _ _ _ _ _ _ (T49.setTop (mkF m 97 #[.val (.long q0), .second, .val (.int (6 : Int32)), .val (.ref b37)] []))
    refine Goes.of (fun t k => XS.iloadN X49.here hx rfl (hb hby d1_97) rfl k) ?_
    show Goes _ _ _ _ _ _ _ (T49.setTop (mkF m 98 #[.val (.long q0), .second, .val (.int (6 : Int32)), .val (.ref b37)] [(.int (6 : Int32))]))
    refine Goes.of (fun t k => XS.bipush X49.here hx rfl (hb hby d1_98) k) ?_
    show Goes _ _ _ _ _ _ _ (T49.setTop (mkF m 100 #[.val (.long q0), .second, .val (.int (6 : Int32)), .val (.ref b37)] [(.int (7 : Int32)), (.int (6 : Int32))]))
    refine Goes.of (fun t k => XS.icmpYes X49.here hx rfl (pc0 := 100) (pc' := 113) rfl (hb hby d1_100) rfl (flt (by decide : ¬ ((7 : Int32) < (6 : Int32)))).2.2.2 (by decide) (by decide) k) ?_
    show Goes _ _ _ _ _ _ _ (T49.setTop (mkF m 113 #[.val (.long q0), .second, .val (.int (6 : Int32)), .val (.ref b37)] []))
    refine Goes.of (fun t k => XS.aloadN X49.here hx rfl (hb hby d1_113) rfl rfl k) ?_
    show Goes _ _ _ _ _ _ _ (T49.setTop (mkF m 114 #[.val (.long q0), .second, .val (.int (6 : Int32)), .val (.ref b37)] [(.ref b37)]))
    exact Goes.fin X49 hlk (v := some (.ref b37)) (fun h => by rw [Bd.returns] at h; cases h) (fun fs hr => retOut X49 hx Bd.returns (by rfl) (Or.inr (Or.inr (Or.inr (Or.inr ⟨rfl, rfl, rfl⟩)))) (hb hby d1_114) hr) (by rw [e49]; exact ⟨b37, rfl, N49, K49, sz_b37, V49.congr (fun j hj => by
          have hj' : j = 0 ∨ j = 1 ∨ j = 2 ∨ j = 3 ∨ j = 4 ∨ j = 5 := by omega
          rcases hj' with rfl | rfl | rfl | rfl | rfl | rfl <;> rfl)⟩) (by decide) (by decide)
  · refine Goes.of (fun t k => XS.iloadN X0.here hx rfl (hb hby d1_0) rfl k) ?_
    show Goes _ _ _ _ _ _ _ (s₁.setTop (mkF m 1 #[.val (.long q0), .second, .val (.int (7 : Int32)), .unset] [(.int (7 : Int32))]))
    obtain ⟨T50, h50, k50, X50, e50, E50, A50, Ea50, st50⟩ := newPE X0 hx hZ (hw _ (List.mem_of_getElem? (i := 0) rfl)) e0 (g := (mkF m 1 #[.val (.long q0), .second, .val (.int (7 : Int32)), .unset] [(.int (7 : Int32))])) rfl (hb hby d1_1) rfl (by decide) (cap := 8) (by decide) (by decide) (by decide) (by decide) (ad := "[B") (by decide)
    obtain ⟨b50, g50⟩ : ∃ z, z = h0.size := ⟨_, rfl⟩
    rw [← g50] at A50 Ea50 st50
    have V50 : AI Z h50 b50 .byte 7 (fun _ => 0) := AI.new rfl rfl A50 (by decide) (by decide)
    have g_b50 : n0 ≤ b50 := Nat.le_trans Z0 (Nat.le_of_eq g50.symm)
    have sz_b50 : h0.size ≤ b50 := Nat.le_trans (Keep.refl h0 []).1 (Nat.le_of_eq g50.symm)
    have Z50 : n0 ≤ h50.size := Nat.le_trans Z0 E50.1
    have K50 : Keep h0 h50 [] := (Keep.refl h0 []).ext E50
    refine Goes.of st50 ?_
    show Goes _ _ _ _ _ _ _ (T50.setTop (mkF m 3 #[.val (.long q0), .second, .val (.int (7 : Int32)), .unset] [(.ref b50)]))
    refine Goes.of (fun t k => XS.astoreN X50.here hx rfl (hb hby d1_3) rfl rfl (l' := #[.val (.long q0), .second, .val (.int (7 : Int32)), .val (.ref b50)]) rfl k) ?_
    show Goes _ _ _ _ _ _ _ (T50.setTop (mkF m 4 #[.val (.long q0), .second, .val (.int (7 : Int32)), .val (.ref b50)] []))
    refine Goes.of (fun t k => XS.iloadN X50.here hx rfl (hb hby d1_4) rfl k) ?_
    show Goes _ _ _ _ _ _ _ (T50.setTop (mkF m 5 #[.val (.long q0), .second, .val (.int (7 : Int32)), .val (.ref b50)] [(.int (7 : Int32))]))
    refine Goes.of (fun t k => XS.ifNo X50.here hx rfl (hb hby d1_5) rfl ((if0 _ _).trans (tlt (by decide : (0 : Int32) < (7 : Int32))).2.2.2) k) ?_
    show Goes _ _ _ _ _ _ _ (T50.setTop (mkF m 8 #[.val (.long q0), .second, .val (.int (7 : Int32)), .val (.ref b50)] []))
    refine Goes.of (fun t k => XS.aloadN X50.here hx rfl (hb hby d1_8) rfl rfl k) ?_
    show Goes _ _ _ _ _ _ _ (T50.setTop (mkF m 9 #[.val (.long q0), .second, .val (.int (7 : Int32)), .val (.ref b50)] [(.ref b50)]))
    refine Goes.of (fun t k => XS.iconst X50.here hx rfl (hb hby d1_9) k) ?_
    show Goes _ _ _ _ _ _ _ (T50.setTop (mkF m 10 #[.val (.long q0), .second, .val (.int (7 : Int32)), .val (.ref b50)] [(.int (0 : Int32)), (.ref b50)]))
    refine Goes.of (fun t k => XS.lloadN X50.here hx rfl (hb hby d1_10) rfl k) ?_
    show Goes _ _ _ _ _ _ _ (T50.setTop (mkF m 11 #[.val (.long q0), .second, .val (.int (7 : Int32)), .val (.ref b50)] [(.long q0), (.int (0 : Int32)), (.ref b50)]))
    refine Goes.of (fun t k => XS.iconst X50.here hx rfl (hb hby d1_11) k) ?_
    show Goes _ _ _ _ _ _ _ (T50.setTop (mkF m 12 #[.val (.long q0), .second, .val (.int (7 : Int32)), .val (.ref b50)] [(.int (0 : Int32)), (.long q0), (.int (0 : Int32)), (.ref b50)]))
    obtain ⟨_, _, ⟨T51, L51, k51, n51⟩, -, X51, ⟨Lc51, hQ51, l51, y51, z51⟩, st51⟩ := Jvm.LawKit.callS X50 hx (y := (⟨"com/example/vhost/vhost/util/HashesFnv1aPinLaw", "at", "(JI)B"⟩ : MethodName)) hown (mvT hZ (hw _ (List.mem_of_getElem? (i := 5) rfl))) (mvT hZ (hw _ (List.mem_of_getElem? (i := 6) rfl))) (mvT hZ (hw _ (List.mem_of_getElem? (i := 3) rfl))) (mvT hZ (hw _ (List.mem_of_getElem? (i := 7) rfl))) (by decide) (backOf (W := 2) (rm2 l Z a0 hw [] q0 (0 : Int32)  h50 n0 ) hZ (hw _ (List.mem_of_getElem? (i := 7) rfl)) (hw _ (List.mem_of_getElem? (i := 3) rfl)) (by decide) (by decide)) (g := (mkF m 12 #[.val (.long q0), .second, .val (.int (7 : Int32)), .val (.ref b50)] [(.int (0 : Int32)), (.long q0), (.int (0 : Int32)), (.ref b50)])) rfl (by rw [hml]; rfl) (argsL := [(.long q0), (.int (0 : Int32))]) (rest := [(.int (0 : Int32)), (.ref b50)]) (lenOf pd_0 rfl) rfl (by show 2 * 0 + _ ≤ _; exact Nat.le_of_eq rfl) (hb hby d1_12) (fun _ _ => ⟨rfl, e50, (by decide : 1 + 0 ≤ _), (by decide : 8 + 0 ≤ _)⟩)
    dsimp only [Pt.U, Pt.locs, Pt.cells, Pt.slots] at X51 l51 y51 z51 st51 hQ51
    subst l51 y51 z51
    obtain ⟨rfl, N51q, e51⟩ := hQ51
    have N51 := Fr.app N0 N51q
    refine Goes.of st51 ?_
    show Goes _ _ _ _ _ _ _ (T51.setTop (mkF m 15 #[.val (.long q0), .second, .val (.int (7 : Int32)), .val (.ref b50)] [(.int (f2 q0 (0 : Int32))), (.int (0 : Int32)), (.ref b50)]))
    obtain ⟨T52, h52, X52, e52, W52, V52, st52⟩ := putB X51 hx hZ e51 V50 (j := (0 : Int32)) (x := (f2 q0 (0 : Int32))) (i := 0) (by decide) (by decide) (by decide) (g := (mkF m 15 #[.val (.long q0), .second, .val (.int (7 : Int32)), .val (.ref b50)] [(.int (f2 q0 (0 : Int32))), (.int (0 : Int32)), (.ref b50)])) rfl rfl (hb hby d1_15)
    have Z52 : n0 ≤ h52.size := Nat.le_trans Z50 (Keep.of_wr W52).1
    have K52 : Keep h0 h52 [] := K50.wr W52 (Or.inr sz_b50)
    have N52 := Fr.snoc X52 N51 g_b50
    refine Goes.of st52 ?_
    show Goes _ _ _ _ _ _ _ (T52.setTop (mkF m 16 #[.val (.long q0), .second, .val (.int (7 : Int32)), .val (.ref b50)] []))
    refine Goes.of (fun t k => XS.iloadN X52.here hx rfl (hb hby d1_16) rfl k) ?_
    show Goes _ _ _ _ _ _ _ (T52.setTop (mkF m 17 #[.val (.long q0), .second, .val (.int (7 : Int32)), .val (.ref b50)] [(.int (7 : Int32))]))
    refine Goes.of (fun t k => XS.iconst X52.here hx rfl (hb hby d1_17) k) ?_
    show Goes _ _ _ _ _ _ _ (T52.setTop (mkF m 18 #[.val (.long q0), .second, .val (.int (7 : Int32)), .val (.ref b50)] [(.int (1 : Int32)), (.int (7 : Int32))]))
    refine Goes.of (fun t k => XS.icmpNo X52.here hx rfl (hb hby d1_18) rfl (tlt (by decide : (1 : Int32) < (7 : Int32))).2.2.2 k) ?_
    show Goes _ _ _ _ _ _ _ (T52.setTop (mkF m 21 #[.val (.long q0), .second, .val (.int (7 : Int32)), .val (.ref b50)] []))
    refine Goes.of (fun t k => XS.aloadN X52.here hx rfl (hb hby d1_21) rfl rfl k) ?_
    show Goes _ _ _ _ _ _ _ (T52.setTop (mkF m 22 #[.val (.long q0), .second, .val (.int (7 : Int32)), .val (.ref b50)] [(.ref b50)]))
    refine Goes.of (fun t k => XS.iconst X52.here hx rfl (hb hby d1_22) k) ?_
    show Goes _ _ _ _ _ _ _ (T52.setTop (mkF m 23 #[.val (.long q0), .second, .val (.int (7 : Int32)), .val (.ref b50)] [(.int (1 : Int32)), (.ref b50)]))
    refine Goes.of (fun t k => XS.lloadN X52.here hx rfl (hb hby d1_23) rfl k) ?_
    show Goes _ _ _ _ _ _ _ (T52.setTop (mkF m 24 #[.val (.long q0), .second, .val (.int (7 : Int32)), .val (.ref b50)] [(.long q0), (.int (1 : Int32)), (.ref b50)]))
    refine Goes.of (fun t k => XS.iconst X52.here hx rfl (hb hby d1_24) k) ?_
    show Goes _ _ _ _ _ _ _ (T52.setTop (mkF m 25 #[.val (.long q0), .second, .val (.int (7 : Int32)), .val (.ref b50)] [(.int (1 : Int32)), (.long q0), (.int (1 : Int32)), (.ref b50)]))
    obtain ⟨_, _, ⟨T53, L53, k53, n53⟩, -, X53, ⟨Lc53, hQ53, l53, y53, z53⟩, st53⟩ := Jvm.LawKit.callS X52 hx (y := (⟨"com/example/vhost/vhost/util/HashesFnv1aPinLaw", "at", "(JI)B"⟩ : MethodName)) hown (mvT hZ (hw _ (List.mem_of_getElem? (i := 5) rfl))) (mvT hZ (hw _ (List.mem_of_getElem? (i := 6) rfl))) (mvT hZ (hw _ (List.mem_of_getElem? (i := 3) rfl))) (mvT hZ (hw _ (List.mem_of_getElem? (i := 7) rfl))) (by decide) (backOf (W := 2) (rm2 l Z a0 hw [] q0 (1 : Int32)  h52 n0 ) hZ (hw _ (List.mem_of_getElem? (i := 7) rfl)) (hw _ (List.mem_of_getElem? (i := 3) rfl)) (by decide) (by decide)) (g := (mkF m 25 #[.val (.long q0), .second, .val (.int (7 : Int32)), .val (.ref b50)] [(.int (1 : Int32)), (.long q0), (.int (1 : Int32)), (.ref b50)])) rfl (by rw [hml]; rfl) (argsL := [(.long q0), (.int (1 : Int32))]) (rest := [(.int (1 : Int32)), (.ref b50)]) (lenOf pd_0 rfl) rfl (by show 2 * 0 + _ ≤ _; exact Nat.le_of_eq rfl) (hb hby d1_25) (fun _ _ => ⟨rfl, e52, (by decide : 1 + 0 ≤ _), (by decide : 8 + 0 ≤ _)⟩)
    dsimp only [Pt.U, Pt.locs, Pt.cells, Pt.slots] at X53 l53 y53 z53 st53 hQ53
    subst l53 y53 z53
    obtain ⟨rfl, N53q, e53⟩ := hQ53
    have N53 := Fr.app N52 N53q
    refine Goes.of st53 ?_
    show Goes _ _ _ _ _ _ _ (T53.setTop (mkF m 28 #[.val (.long q0), .second, .val (.int (7 : Int32)), .val (.ref b50)] [(.int (f2 q0 (1 : Int32))), (.int (1 : Int32)), (.ref b50)]))
    obtain ⟨T54, h54, X54, e54, W54, V54, st54⟩ := putB X53 hx hZ e53 V52 (j := (1 : Int32)) (x := (f2 q0 (1 : Int32))) (i := 1) (by decide) (by decide) (by decide) (g := (mkF m 28 #[.val (.long q0), .second, .val (.int (7 : Int32)), .val (.ref b50)] [(.int (f2 q0 (1 : Int32))), (.int (1 : Int32)), (.ref b50)])) rfl rfl (hb hby d1_28)
    have Z54 : n0 ≤ h54.size := Nat.le_trans Z52 (Keep.of_wr W54).1
    have K54 : Keep h0 h54 [] := K52.wr W54 (Or.inr sz_b50)
    have N54 := Fr.snoc X54 N53 g_b50
    refine Goes.of st54 ?_
    show Goes _ _ _ _ _ _ _ (T54.setTop (mkF m 29 #[.val (.long q0), .second, .val (.int (7 : Int32)), .val (.ref b50)] []))
    refine Goes.of (fun t k => XS.iloadN X54.here hx rfl (hb hby d1_29) rfl k) ?_
    show Goes _ _ _ _ _ _ _ (T54.setTop (mkF m 30 #[.val (.long q0), .second, .val (.int (7 : Int32)), .val (.ref b50)] [(.int (7 : Int32))]))
    refine Goes.of (fun t k => XS.iconst X54.here hx rfl (hb hby d1_30) k) ?_
    show Goes _ _ _ _ _ _ _ (T54.setTop (mkF m 31 #[.val (.long q0), .second, .val (.int (7 : Int32)), .val (.ref b50)] [(.int (2 : Int32)), (.int (7 : Int32))]))
    refine Goes.of (fun t k => XS.icmpNo X54.here hx rfl (hb hby d1_31) rfl (tlt (by decide : (2 : Int32) < (7 : Int32))).2.2.2 k) ?_
    show Goes _ _ _ _ _ _ _ (T54.setTop (mkF m 34 #[.val (.long q0), .second, .val (.int (7 : Int32)), .val (.ref b50)] []))
    refine Goes.of (fun t k => XS.aloadN X54.here hx rfl (hb hby d1_34) rfl rfl k) ?_
    show Goes _ _ _ _ _ _ _ (T54.setTop (mkF m 35 #[.val (.long q0), .second, .val (.int (7 : Int32)), .val (.ref b50)] [(.ref b50)]))
    refine Goes.of (fun t k => XS.iconst X54.here hx rfl (hb hby d1_35) k) ?_
    show Goes _ _ _ _ _ _ _ (T54.setTop (mkF m 36 #[.val (.long q0), .second, .val (.int (7 : Int32)), .val (.ref b50)] [(.int (2 : Int32)), (.ref b50)]))
    refine Goes.of (fun t k => XS.lloadN X54.here hx rfl (hb hby d1_36) rfl k) ?_
    show Goes _ _ _ _ _ _ _ (T54.setTop (mkF m 37 #[.val (.long q0), .second, .val (.int (7 : Int32)), .val (.ref b50)] [(.long q0), (.int (2 : Int32)), (.ref b50)]))
    refine Goes.of (fun t k => XS.iconst X54.here hx rfl (hb hby d1_37) k) ?_
    show Goes _ _ _ _ _ _ _ (T54.setTop (mkF m 38 #[.val (.long q0), .second, .val (.int (7 : Int32)), .val (.ref b50)] [(.int (2 : Int32)), (.long q0), (.int (2 : Int32)), (.ref b50)]))
    obtain ⟨_, _, ⟨T55, L55, k55, n55⟩, -, X55, ⟨Lc55, hQ55, l55, y55, z55⟩, st55⟩ := Jvm.LawKit.callS X54 hx (y := (⟨"com/example/vhost/vhost/util/HashesFnv1aPinLaw", "at", "(JI)B"⟩ : MethodName)) hown (mvT hZ (hw _ (List.mem_of_getElem? (i := 5) rfl))) (mvT hZ (hw _ (List.mem_of_getElem? (i := 6) rfl))) (mvT hZ (hw _ (List.mem_of_getElem? (i := 3) rfl))) (mvT hZ (hw _ (List.mem_of_getElem? (i := 7) rfl))) (by decide) (backOf (W := 2) (rm2 l Z a0 hw [] q0 (2 : Int32)  h54 n0 ) hZ (hw _ (List.mem_of_getElem? (i := 7) rfl)) (hw _ (List.mem_of_getElem? (i := 3) rfl)) (by decide) (by decide)) (g := (mkF m 38 #[.val (.long q0), .second, .val (.int (7 : Int32)), .val (.ref b50)] [(.int (2 : Int32)), (.long q0), (.int (2 : Int32)), (.ref b50)])) rfl (by rw [hml]; rfl) (argsL := [(.long q0), (.int (2 : Int32))]) (rest := [(.int (2 : Int32)), (.ref b50)]) (lenOf pd_0 rfl) rfl (by show 2 * 0 + _ ≤ _; exact Nat.le_of_eq rfl) (hb hby d1_38) (fun _ _ => ⟨rfl, e54, (by decide : 1 + 0 ≤ _), (by decide : 8 + 0 ≤ _)⟩)
    dsimp only [Pt.U, Pt.locs, Pt.cells, Pt.slots] at X55 l55 y55 z55 st55 hQ55
    subst l55 y55 z55
    obtain ⟨rfl, N55q, e55⟩ := hQ55
    have N55 := Fr.app N54 N55q
    refine Goes.of st55 ?_
    show Goes _ _ _ _ _ _ _ (T55.setTop (mkF m 41 #[.val (.long q0), .second, .val (.int (7 : Int32)), .val (.ref b50)] [(.int (f2 q0 (2 : Int32))), (.int (2 : Int32)), (.ref b50)]))
    obtain ⟨T56, h56, X56, e56, W56, V56, st56⟩ := putB X55 hx hZ e55 V54 (j := (2 : Int32)) (x := (f2 q0 (2 : Int32))) (i := 2) (by decide) (by decide) (by decide) (g := (mkF m 41 #[.val (.long q0), .second, .val (.int (7 : Int32)), .val (.ref b50)] [(.int (f2 q0 (2 : Int32))), (.int (2 : Int32)), (.ref b50)])) rfl rfl (hb hby d1_41)
    have Z56 : n0 ≤ h56.size := Nat.le_trans Z54 (Keep.of_wr W56).1
    have K56 : Keep h0 h56 [] := K54.wr W56 (Or.inr sz_b50)
    have N56 := Fr.snoc X56 N55 g_b50
    refine Goes.of st56 ?_
    show Goes _ _ _ _ _ _ _ (T56.setTop (mkF m 42 #[.val (.long q0), .second, .val (.int (7 : Int32)), .val (.ref b50)] []))
    refine Goes.of (fun t k => XS.iloadN X56.here hx rfl (hb hby d1_42) rfl k) ?_
    show Goes _ _ _ _ _ _ _ (T56.setTop (mkF m 43 #[.val (.long q0), .second, .val (.int (7 : Int32)), .val (.ref b50)] [(.int (7 : Int32))]))
    refine Goes.of (fun t k => XS.iconst X56.here hx rfl (hb hby d1_43) k) ?_
    show Goes _ _ _ _ _ _ _ (T56.setTop (mkF m 44 #[.val (.long q0), .second, .val (.int (7 : Int32)), .val (.ref b50)] [(.int (3 : Int32)), (.int (7 : Int32))]))
    refine Goes.of (fun t k => XS.icmpNo X56.here hx rfl (hb hby d1_44) rfl (tlt (by decide : (3 : Int32) < (7 : Int32))).2.2.2 k) ?_
    show Goes _ _ _ _ _ _ _ (T56.setTop (mkF m 47 #[.val (.long q0), .second, .val (.int (7 : Int32)), .val (.ref b50)] []))
    refine Goes.of (fun t k => XS.aloadN X56.here hx rfl (hb hby d1_47) rfl rfl k) ?_
    show Goes _ _ _ _ _ _ _ (T56.setTop (mkF m 48 #[.val (.long q0), .second, .val (.int (7 : Int32)), .val (.ref b50)] [(.ref b50)]))
    refine Goes.of (fun t k => XS.iconst X56.here hx rfl (hb hby d1_48) k) ?_
    show Goes _ _ _ _ _ _ _ (T56.setTop (mkF m 49 #[.val (.long q0), .second, .val (.int (7 : Int32)), .val (.ref b50)] [(.int (3 : Int32)), (.ref b50)]))
    refine Goes.of (fun t k => XS.lloadN X56.here hx rfl (hb hby d1_49) rfl k) ?_
    show Goes _ _ _ _ _ _ _ (T56.setTop (mkF m 50 #[.val (.long q0), .second, .val (.int (7 : Int32)), .val (.ref b50)] [(.long q0), (.int (3 : Int32)), (.ref b50)]))
    refine Goes.of (fun t k => XS.iconst X56.here hx rfl (hb hby d1_50) k) ?_
    show Goes _ _ _ _ _ _ _ (T56.setTop (mkF m 51 #[.val (.long q0), .second, .val (.int (7 : Int32)), .val (.ref b50)] [(.int (3 : Int32)), (.long q0), (.int (3 : Int32)), (.ref b50)]))
    obtain ⟨_, _, ⟨T57, L57, k57, n57⟩, -, X57, ⟨Lc57, hQ57, l57, y57, z57⟩, st57⟩ := Jvm.LawKit.callS X56 hx (y := (⟨"com/example/vhost/vhost/util/HashesFnv1aPinLaw", "at", "(JI)B"⟩ : MethodName)) hown (mvT hZ (hw _ (List.mem_of_getElem? (i := 5) rfl))) (mvT hZ (hw _ (List.mem_of_getElem? (i := 6) rfl))) (mvT hZ (hw _ (List.mem_of_getElem? (i := 3) rfl))) (mvT hZ (hw _ (List.mem_of_getElem? (i := 7) rfl))) (by decide) (backOf (W := 2) (rm2 l Z a0 hw [] q0 (3 : Int32)  h56 n0 ) hZ (hw _ (List.mem_of_getElem? (i := 7) rfl)) (hw _ (List.mem_of_getElem? (i := 3) rfl)) (by decide) (by decide)) (g := (mkF m 51 #[.val (.long q0), .second, .val (.int (7 : Int32)), .val (.ref b50)] [(.int (3 : Int32)), (.long q0), (.int (3 : Int32)), (.ref b50)])) rfl (by rw [hml]; rfl) (argsL := [(.long q0), (.int (3 : Int32))]) (rest := [(.int (3 : Int32)), (.ref b50)]) (lenOf pd_0 rfl) rfl (by show 2 * 0 + _ ≤ _; exact Nat.le_of_eq rfl) (hb hby d1_51) (fun _ _ => ⟨rfl, e56, (by decide : 1 + 0 ≤ _), (by decide : 8 + 0 ≤ _)⟩)
    dsimp only [Pt.U, Pt.locs, Pt.cells, Pt.slots] at X57 l57 y57 z57 st57 hQ57
    subst l57 y57 z57
    obtain ⟨rfl, N57q, e57⟩ := hQ57
    have N57 := Fr.app N56 N57q
    refine Goes.of st57 ?_
    show Goes _ _ _ _ _ _ _ (T57.setTop (mkF m 54 #[.val (.long q0), .second, .val (.int (7 : Int32)), .val (.ref b50)] [(.int (f2 q0 (3 : Int32))), (.int (3 : Int32)), (.ref b50)]))
    obtain ⟨T58, h58, X58, e58, W58, V58, st58⟩ := putB X57 hx hZ e57 V56 (j := (3 : Int32)) (x := (f2 q0 (3 : Int32))) (i := 3) (by decide) (by decide) (by decide) (g := (mkF m 54 #[.val (.long q0), .second, .val (.int (7 : Int32)), .val (.ref b50)] [(.int (f2 q0 (3 : Int32))), (.int (3 : Int32)), (.ref b50)])) rfl rfl (hb hby d1_54)
    have Z58 : n0 ≤ h58.size := Nat.le_trans Z56 (Keep.of_wr W58).1
    have K58 : Keep h0 h58 [] := K56.wr W58 (Or.inr sz_b50)
    have N58 := Fr.snoc X58 N57 g_b50
    refine Goes.of st58 ?_
    show Goes _ _ _ _ _ _ _ (T58.setTop (mkF m 55 #[.val (.long q0), .second, .val (.int (7 : Int32)), .val (.ref b50)] []))
    refine Goes.of (fun t k => XS.iloadN X58.here hx rfl (hb hby d1_55) rfl k) ?_
    show Goes _ _ _ _ _ _ _ (T58.setTop (mkF m 56 #[.val (.long q0), .second, .val (.int (7 : Int32)), .val (.ref b50)] [(.int (7 : Int32))]))
    refine Goes.of (fun t k => XS.iconst X58.here hx rfl (hb hby d1_56) k) ?_
    show Goes _ _ _ _ _ _ _ (T58.setTop (mkF m 57 #[.val (.long q0), .second, .val (.int (7 : Int32)), .val (.ref b50)] [(.int (4 : Int32)), (.int (7 : Int32))]))
    refine Goes.of (fun t k => XS.icmpNo X58.here hx rfl (hb hby d1_57) rfl (tlt (by decide : (4 : Int32) < (7 : Int32))).2.2.2 k) ?_
    show Goes _ _ _ _ _ _ _ (T58.setTop (mkF m 60 #[.val (.long q0), .second, .val (.int (7 : Int32)), .val (.ref b50)] []))
    refine Goes.of (fun t k => XS.aloadN X58.here hx rfl (hb hby d1_60) rfl rfl k) ?_
    show Goes _ _ _ _ _ _ _ (T58.setTop (mkF m 61 #[.val (.long q0), .second, .val (.int (7 : Int32)), .val (.ref b50)] [(.ref b50)]))
    refine Goes.of (fun t k => XS.iconst X58.here hx rfl (hb hby d1_61) k) ?_
    show Goes _ _ _ _ _ _ _ (T58.setTop (mkF m 62 #[.val (.long q0), .second, .val (.int (7 : Int32)), .val (.ref b50)] [(.int (4 : Int32)), (.ref b50)]))
    refine Goes.of (fun t k => XS.lloadN X58.here hx rfl (hb hby d1_62) rfl k) ?_
    show Goes _ _ _ _ _ _ _ (T58.setTop (mkF m 63 #[.val (.long q0), .second, .val (.int (7 : Int32)), .val (.ref b50)] [(.long q0), (.int (4 : Int32)), (.ref b50)]))
    refine Goes.of (fun t k => XS.iconst X58.here hx rfl (hb hby d1_63) k) ?_
    show Goes _ _ _ _ _ _ _ (T58.setTop (mkF m 64 #[.val (.long q0), .second, .val (.int (7 : Int32)), .val (.ref b50)] [(.int (4 : Int32)), (.long q0), (.int (4 : Int32)), (.ref b50)]))
    obtain ⟨_, _, ⟨T59, L59, k59, n59⟩, -, X59, ⟨Lc59, hQ59, l59, y59, z59⟩, st59⟩ := Jvm.LawKit.callS X58 hx (y := (⟨"com/example/vhost/vhost/util/HashesFnv1aPinLaw", "at", "(JI)B"⟩ : MethodName)) hown (mvT hZ (hw _ (List.mem_of_getElem? (i := 5) rfl))) (mvT hZ (hw _ (List.mem_of_getElem? (i := 6) rfl))) (mvT hZ (hw _ (List.mem_of_getElem? (i := 3) rfl))) (mvT hZ (hw _ (List.mem_of_getElem? (i := 7) rfl))) (by decide) (backOf (W := 2) (rm2 l Z a0 hw [] q0 (4 : Int32)  h58 n0 ) hZ (hw _ (List.mem_of_getElem? (i := 7) rfl)) (hw _ (List.mem_of_getElem? (i := 3) rfl)) (by decide) (by decide)) (g := (mkF m 64 #[.val (.long q0), .second, .val (.int (7 : Int32)), .val (.ref b50)] [(.int (4 : Int32)), (.long q0), (.int (4 : Int32)), (.ref b50)])) rfl (by rw [hml]; rfl) (argsL := [(.long q0), (.int (4 : Int32))]) (rest := [(.int (4 : Int32)), (.ref b50)]) (lenOf pd_0 rfl) rfl (by show 2 * 0 + _ ≤ _; exact Nat.le_of_eq rfl) (hb hby d1_64) (fun _ _ => ⟨rfl, e58, (by decide : 1 + 0 ≤ _), (by decide : 8 + 0 ≤ _)⟩)
    dsimp only [Pt.U, Pt.locs, Pt.cells, Pt.slots] at X59 l59 y59 z59 st59 hQ59
    subst l59 y59 z59
    obtain ⟨rfl, N59q, e59⟩ := hQ59
    have N59 := Fr.app N58 N59q
    refine Goes.of st59 ?_
    show Goes _ _ _ _ _ _ _ (T59.setTop (mkF m 67 #[.val (.long q0), .second, .val (.int (7 : Int32)), .val (.ref b50)] [(.int (f2 q0 (4 : Int32))), (.int (4 : Int32)), (.ref b50)]))
    obtain ⟨T60, h60, X60, e60, W60, V60, st60⟩ := putB X59 hx hZ e59 V58 (j := (4 : Int32)) (x := (f2 q0 (4 : Int32))) (i := 4) (by decide) (by decide) (by decide) (g := (mkF m 67 #[.val (.long q0), .second, .val (.int (7 : Int32)), .val (.ref b50)] [(.int (f2 q0 (4 : Int32))), (.int (4 : Int32)), (.ref b50)])) rfl rfl (hb hby d1_67)
    have Z60 : n0 ≤ h60.size := Nat.le_trans Z58 (Keep.of_wr W60).1
    have K60 : Keep h0 h60 [] := K58.wr W60 (Or.inr sz_b50)
    have N60 := Fr.snoc X60 N59 g_b50
    refine Goes.of st60 ?_
    show Goes _ _ _ _ _ _ _ (T60.setTop (mkF m 68 #[.val (.long q0), .second, .val (.int (7 : Int32)), .val (.ref b50)] []))
    refine Goes.of (fun t k => XS.iloadN X60.here hx rfl (hb hby d1_68) rfl k) ?_
    show Goes _ _ _ _ _ _ _ (T60.setTop (mkF m 69 #[.val (.long q0), .second, .val (.int (7 : Int32)), .val (.ref b50)] [(.int (7 : Int32))]))
    refine Goes.of (fun t k => XS.iconst X60.here hx rfl (hb hby d1_69) k) ?_
    show Goes _ _ _ _ _ _ _ (T60.setTop (mkF m 70 #[.val (.long q0), .second, .val (.int (7 : Int32)), .val (.ref b50)] [(.int (5 : Int32)), (.int (7 : Int32))]))
    refine Goes.of (fun t k => XS.icmpNo X60.here hx rfl (hb hby d1_70) rfl (tlt (by decide : (5 : Int32) < (7 : Int32))).2.2.2 k) ?_
    show Goes _ _ _ _ _ _ _ (T60.setTop (mkF m 73 #[.val (.long q0), .second, .val (.int (7 : Int32)), .val (.ref b50)] []))
    refine Goes.of (fun t k => XS.aloadN X60.here hx rfl (hb hby d1_73) rfl rfl k) ?_
    show Goes _ _ _ _ _ _ _ (T60.setTop (mkF m 74 #[.val (.long q0), .second, .val (.int (7 : Int32)), .val (.ref b50)] [(.ref b50)]))
    refine Goes.of (fun t k => XS.iconst X60.here hx rfl (hb hby d1_74) k) ?_
    show Goes _ _ _ _ _ _ _ (T60.setTop (mkF m 75 #[.val (.long q0), .second, .val (.int (7 : Int32)), .val (.ref b50)] [(.int (5 : Int32)), (.ref b50)]))
    refine Goes.of (fun t k => XS.lloadN X60.here hx rfl (hb hby d1_75) rfl k) ?_
    show Goes _ _ _ _ _ _ _ (T60.setTop (mkF m 76 #[.val (.long q0), .second, .val (.int (7 : Int32)), .val (.ref b50)] [(.long q0), (.int (5 : Int32)), (.ref b50)]))
    refine Goes.of (fun t k => XS.iconst X60.here hx rfl (hb hby d1_76) k) ?_
    show Goes _ _ _ _ _ _ _ (T60.setTop (mkF m 77 #[.val (.long q0), .second, .val (.int (7 : Int32)), .val (.ref b50)] [(.int (5 : Int32)), (.long q0), (.int (5 : Int32)), (.ref b50)]))
    obtain ⟨_, _, ⟨T61, L61, k61, n61⟩, -, X61, ⟨Lc61, hQ61, l61, y61, z61⟩, st61⟩ := Jvm.LawKit.callS X60 hx (y := (⟨"com/example/vhost/vhost/util/HashesFnv1aPinLaw", "at", "(JI)B"⟩ : MethodName)) hown (mvT hZ (hw _ (List.mem_of_getElem? (i := 5) rfl))) (mvT hZ (hw _ (List.mem_of_getElem? (i := 6) rfl))) (mvT hZ (hw _ (List.mem_of_getElem? (i := 3) rfl))) (mvT hZ (hw _ (List.mem_of_getElem? (i := 7) rfl))) (by decide) (backOf (W := 2) (rm2 l Z a0 hw [] q0 (5 : Int32)  h60 n0 ) hZ (hw _ (List.mem_of_getElem? (i := 7) rfl)) (hw _ (List.mem_of_getElem? (i := 3) rfl)) (by decide) (by decide)) (g := (mkF m 77 #[.val (.long q0), .second, .val (.int (7 : Int32)), .val (.ref b50)] [(.int (5 : Int32)), (.long q0), (.int (5 : Int32)), (.ref b50)])) rfl (by rw [hml]; rfl) (argsL := [(.long q0), (.int (5 : Int32))]) (rest := [(.int (5 : Int32)), (.ref b50)]) (lenOf pd_0 rfl) rfl (by show 2 * 0 + _ ≤ _; exact Nat.le_of_eq rfl) (hb hby d1_77) (fun _ _ => ⟨rfl, e60, (by decide : 1 + 0 ≤ _), (by decide : 8 + 0 ≤ _)⟩)
    dsimp only [Pt.U, Pt.locs, Pt.cells, Pt.slots] at X61 l61 y61 z61 st61 hQ61
    subst l61 y61 z61
    obtain ⟨rfl, N61q, e61⟩ := hQ61
    have N61 := Fr.app N60 N61q
    refine Goes.of st61 ?_
    show Goes _ _ _ _ _ _ _ (T61.setTop (mkF m 80 #[.val (.long q0), .second, .val (.int (7 : Int32)), .val (.ref b50)] [(.int (f2 q0 (5 : Int32))), (.int (5 : Int32)), (.ref b50)]))
    obtain ⟨T62, h62, X62, e62, W62, V62, st62⟩ := putB X61 hx hZ e61 V60 (j := (5 : Int32)) (x := (f2 q0 (5 : Int32))) (i := 5) (by decide) (by decide) (by decide) (g := (mkF m 80 #[.val (.long q0), .second, .val (.int (7 : Int32)), .val (.ref b50)] [(.int (f2 q0 (5 : Int32))), (.int (5 : Int32)), (.ref b50)])) rfl rfl (hb hby d1_80)
    have Z62 : n0 ≤ h62.size := Nat.le_trans Z60 (Keep.of_wr W62).1
    have K62 : Keep h0 h62 [] := K60.wr W62 (Or.inr sz_b50)
    have N62 := Fr.snoc X62 N61 g_b50
    refine Goes.of st62 ?_
    show Goes _ _ _ _ _ _ _ (T62.setTop (mkF m 81 #[.val (.long q0), .second, .val (.int (7 : Int32)), .val (.ref b50)] []))
    refine Goes.of (fun t k => XS.iloadN X62.here hx rfl (hb hby d1_81) rfl k) ?_
    show Goes _ _ _ _ _ _ _ (T62.setTop (mkF m 82 #[.val (.long q0), .second, .val (.int (7 : Int32)), .val (.ref b50)] [(.int (7 : Int32))]))
    refine Goes.of (fun t k => XS.bipush X62.here hx rfl (hb hby d1_82) k) ?_
    show Goes _ _ _ _ _ _ _ (T62.setTop (mkF m 84 #[.val (.long q0), .second, .val (.int (7 : Int32)), .val (.ref b50)] [(.int (6 : Int32)), (.int (7 : Int32))]))
    refine Goes.of (fun t k => XS.icmpNo X62.here hx rfl (hb hby d1_84) rfl (tlt (by decide : (6 : Int32) < (7 : Int32))).2.2.2 k) ?_
    show Goes _ _ _ _ _ _ _ (T62.setTop (mkF m 87 #[.val (.long q0), .second, .val (.int (7 : Int32)), .val (.ref b50)] []))
    refine Goes.of (fun t k => XS.aloadN X62.here hx rfl (hb hby d1_87) rfl rfl k) ?_
    show Goes _ _ _ _ _ _ _ (T62.setTop (mkF m 88 #[.val (.long q0), .second, .val (.int (7 : Int32)), .val (.ref b50)] [(.ref b50)]))
    refine Goes.of (fun t k => XS.bipush X62.here hx rfl (hb hby d1_88) k) ?_
    show Goes _ _ _ _ _ _ _ (T62.setTop (mkF m 90 #[.val (.long q0), .second, .val (.int (7 : Int32)), .val (.ref b50)] [(.int (6 : Int32)), (.ref b50)]))
    refine Goes.of (fun t k => XS.lloadN X62.here hx rfl (hb hby d1_90) rfl k) ?_
    show Goes _ _ _ _ _ _ _ (T62.setTop (mkF m 91 #[.val (.long q0), .second, .val (.int (7 : Int32)), .val (.ref b50)] [(.long q0), (.int (6 : Int32)), (.ref b50)]))
    refine Goes.of (fun t k => XS.bipush X62.here hx rfl (hb hby d1_91) k) ?_
    show Goes _ _ _ _ _ _ _ (T62.setTop (mkF m 93 #[.val (.long q0), .second, .val (.int (7 : Int32)), .val (.ref b50)] [(.int (6 : Int32)), (.long q0), (.int (6 : Int32)), (.ref b50)]))
    obtain ⟨_, _, ⟨T63, L63, k63, n63⟩, -, X63, ⟨Lc63, hQ63, l63, y63, z63⟩, st63⟩ := Jvm.LawKit.callS X62 hx (y := (⟨"com/example/vhost/vhost/util/HashesFnv1aPinLaw", "at", "(JI)B"⟩ : MethodName)) hown (mvT hZ (hw _ (List.mem_of_getElem? (i := 5) rfl))) (mvT hZ (hw _ (List.mem_of_getElem? (i := 6) rfl))) (mvT hZ (hw _ (List.mem_of_getElem? (i := 3) rfl))) (mvT hZ (hw _ (List.mem_of_getElem? (i := 7) rfl))) (by decide) (backOf (W := 2) (rm2 l Z a0 hw [] q0 (6 : Int32)  h62 n0 ) hZ (hw _ (List.mem_of_getElem? (i := 7) rfl)) (hw _ (List.mem_of_getElem? (i := 3) rfl)) (by decide) (by decide)) (g := (mkF m 93 #[.val (.long q0), .second, .val (.int (7 : Int32)), .val (.ref b50)] [(.int (6 : Int32)), (.long q0), (.int (6 : Int32)), (.ref b50)])) rfl (by rw [hml]; rfl) (argsL := [(.long q0), (.int (6 : Int32))]) (rest := [(.int (6 : Int32)), (.ref b50)]) (lenOf pd_0 rfl) rfl (by show 2 * 0 + _ ≤ _; exact Nat.le_of_eq rfl) (hb hby d1_93) (fun _ _ => ⟨rfl, e62, (by decide : 1 + 0 ≤ _), (by decide : 8 + 0 ≤ _)⟩)
    dsimp only [Pt.U, Pt.locs, Pt.cells, Pt.slots] at X63 l63 y63 z63 st63 hQ63
    subst l63 y63 z63
    obtain ⟨rfl, N63q, e63⟩ := hQ63
    have N63 := Fr.app N62 N63q
    refine Goes.of st63 ?_
    show Goes _ _ _ _ _ _ _ (T63.setTop (mkF m 96 #[.val (.long q0), .second, .val (.int (7 : Int32)), .val (.ref b50)] [(.int (f2 q0 (6 : Int32))), (.int (6 : Int32)), (.ref b50)]))
    obtain ⟨T64, h64, X64, e64, W64, V64, st64⟩ := putB X63 hx hZ e63 V62 (j := (6 : Int32)) (x := (f2 q0 (6 : Int32))) (i := 6) (by decide) (by decide) (by decide) (g := (mkF m 96 #[.val (.long q0), .second, .val (.int (7 : Int32)), .val (.ref b50)] [(.int (f2 q0 (6 : Int32))), (.int (6 : Int32)), (.ref b50)])) rfl rfl (hb hby d1_96)
    have Z64 : n0 ≤ h64.size := Nat.le_trans Z62 (Keep.of_wr W64).1
    have K64 : Keep h0 h64 [] := K62.wr W64 (Or.inr sz_b50)
    have N64 := Fr.snoc X64 N63 g_b50
    refine Goes.of st64 ?_
    show Goes _ _ _ _ _ _ _ (T64.setTop (mkF m 97 #[.val (.long q0), .second, .val (.int (7 : Int32)), .val (.ref b50)] []))
    refine Goes.of (fun t k => XS.iloadN X64.here hx rfl (hb hby d1_97) rfl k) ?_
    show Goes _ _ _ _ _ _ _ (T64.setTop (mkF m 98 #[.val (.long q0), .second, .val (.int (7 : Int32)), .val (.ref b50)] [(.int (7 : Int32))]))
    refine Goes.of (fun t k => XS.bipush X64.here hx rfl (hb hby d1_98) k) ?_
    show Goes _ _ _ _ _ _ _ (T64.setTop (mkF m 100 #[.val (.long q0), .second, .val (.int (7 : Int32)), .val (.ref b50)] [(.int (7 : Int32)), (.int (7 : Int32))]))
    refine Goes.of (fun t k => XS.icmpYes X64.here hx rfl (pc0 := 100) (pc' := 113) rfl (hb hby d1_100) rfl (flt (by decide : ¬ ((7 : Int32) < (7 : Int32)))).2.2.2 (by decide) (by decide) k) ?_
    show Goes _ _ _ _ _ _ _ (T64.setTop (mkF m 113 #[.val (.long q0), .second, .val (.int (7 : Int32)), .val (.ref b50)] []))
    refine Goes.of (fun t k => XS.aloadN X64.here hx rfl (hb hby d1_113) rfl rfl k) ?_
    show Goes _ _ _ _ _ _ _ (T64.setTop (mkF m 114 #[.val (.long q0), .second, .val (.int (7 : Int32)), .val (.ref b50)] [(.ref b50)]))
    exact Goes.fin X64 hlk (v := some (.ref b50)) (fun h => by rw [Bd.returns] at h; cases h) (fun fs hr => retOut X64 hx Bd.returns (by rfl) (Or.inr (Or.inr (Or.inr (Or.inr ⟨rfl, rfl, rfl⟩)))) (hb hby d1_114) hr) (by rw [e64]; exact ⟨b50, rfl, N64, K64, sz_b50, V64.congr (fun j hj => by
          have hj' : j = 0 ∨ j = 1 ∨ j = 2 ∨ j = 3 ∨ j = 4 ∨ j = 5 ∨ j = 6 := by omega
          rcases hj' with rfl | rfl | rfl | rfl | rfl | rfl | rfl <;> rfl)⟩) (by decide) (by decide)
  · refine Goes.of (fun t k => XS.iloadN X0.here hx rfl (hb hby d1_0) rfl k) ?_
    show Goes _ _ _ _ _ _ _ (s₁.setTop (mkF m 1 #[.val (.long q0), .second, .val (.int (8 : Int32)), .unset] [(.int (8 : Int32))]))
    obtain ⟨T65, h65, k65, X65, e65, E65, A65, Ea65, st65⟩ := newPE X0 hx hZ (hw _ (List.mem_of_getElem? (i := 0) rfl)) e0 (g := (mkF m 1 #[.val (.long q0), .second, .val (.int (8 : Int32)), .unset] [(.int (8 : Int32))])) rfl (hb hby d1_1) rfl (by decide) (cap := 8) (by decide) (by decide) (by decide) (by decide) (ad := "[B") (by decide)
    obtain ⟨b65, g65⟩ : ∃ z, z = h0.size := ⟨_, rfl⟩
    rw [← g65] at A65 Ea65 st65
    have V65 : AI Z h65 b65 .byte 8 (fun _ => 0) := AI.new rfl rfl A65 (by decide) (by decide)
    have g_b65 : n0 ≤ b65 := Nat.le_trans Z0 (Nat.le_of_eq g65.symm)
    have sz_b65 : h0.size ≤ b65 := Nat.le_trans (Keep.refl h0 []).1 (Nat.le_of_eq g65.symm)
    have Z65 : n0 ≤ h65.size := Nat.le_trans Z0 E65.1
    have K65 : Keep h0 h65 [] := (Keep.refl h0 []).ext E65
    refine Goes.of st65 ?_
    show Goes _ _ _ _ _ _ _ (T65.setTop (mkF m 3 #[.val (.long q0), .second, .val (.int (8 : Int32)), .unset] [(.ref b65)]))
    refine Goes.of (fun t k => XS.astoreN X65.here hx rfl (hb hby d1_3) rfl rfl (l' := #[.val (.long q0), .second, .val (.int (8 : Int32)), .val (.ref b65)]) rfl k) ?_
    show Goes _ _ _ _ _ _ _ (T65.setTop (mkF m 4 #[.val (.long q0), .second, .val (.int (8 : Int32)), .val (.ref b65)] []))
    refine Goes.of (fun t k => XS.iloadN X65.here hx rfl (hb hby d1_4) rfl k) ?_
    show Goes _ _ _ _ _ _ _ (T65.setTop (mkF m 5 #[.val (.long q0), .second, .val (.int (8 : Int32)), .val (.ref b65)] [(.int (8 : Int32))]))
    refine Goes.of (fun t k => XS.ifNo X65.here hx rfl (hb hby d1_5) rfl ((if0 _ _).trans (tlt (by decide : (0 : Int32) < (8 : Int32))).2.2.2) k) ?_
    show Goes _ _ _ _ _ _ _ (T65.setTop (mkF m 8 #[.val (.long q0), .second, .val (.int (8 : Int32)), .val (.ref b65)] []))
    refine Goes.of (fun t k => XS.aloadN X65.here hx rfl (hb hby d1_8) rfl rfl k) ?_
    show Goes _ _ _ _ _ _ _ (T65.setTop (mkF m 9 #[.val (.long q0), .second, .val (.int (8 : Int32)), .val (.ref b65)] [(.ref b65)]))
    refine Goes.of (fun t k => XS.iconst X65.here hx rfl (hb hby d1_9) k) ?_
    show Goes _ _ _ _ _ _ _ (T65.setTop (mkF m 10 #[.val (.long q0), .second, .val (.int (8 : Int32)), .val (.ref b65)] [(.int (0 : Int32)), (.ref b65)]))
    refine Goes.of (fun t k => XS.lloadN X65.here hx rfl (hb hby d1_10) rfl k) ?_
    show Goes _ _ _ _ _ _ _ (T65.setTop (mkF m 11 #[.val (.long q0), .second, .val (.int (8 : Int32)), .val (.ref b65)] [(.long q0), (.int (0 : Int32)), (.ref b65)]))
    refine Goes.of (fun t k => XS.iconst X65.here hx rfl (hb hby d1_11) k) ?_
    show Goes _ _ _ _ _ _ _ (T65.setTop (mkF m 12 #[.val (.long q0), .second, .val (.int (8 : Int32)), .val (.ref b65)] [(.int (0 : Int32)), (.long q0), (.int (0 : Int32)), (.ref b65)]))
    obtain ⟨_, _, ⟨T66, L66, k66, n66⟩, -, X66, ⟨Lc66, hQ66, l66, y66, z66⟩, st66⟩ := Jvm.LawKit.callS X65 hx (y := (⟨"com/example/vhost/vhost/util/HashesFnv1aPinLaw", "at", "(JI)B"⟩ : MethodName)) hown (mvT hZ (hw _ (List.mem_of_getElem? (i := 5) rfl))) (mvT hZ (hw _ (List.mem_of_getElem? (i := 6) rfl))) (mvT hZ (hw _ (List.mem_of_getElem? (i := 3) rfl))) (mvT hZ (hw _ (List.mem_of_getElem? (i := 7) rfl))) (by decide) (backOf (W := 2) (rm2 l Z a0 hw [] q0 (0 : Int32)  h65 n0 ) hZ (hw _ (List.mem_of_getElem? (i := 7) rfl)) (hw _ (List.mem_of_getElem? (i := 3) rfl)) (by decide) (by decide)) (g := (mkF m 12 #[.val (.long q0), .second, .val (.int (8 : Int32)), .val (.ref b65)] [(.int (0 : Int32)), (.long q0), (.int (0 : Int32)), (.ref b65)])) rfl (by rw [hml]; rfl) (argsL := [(.long q0), (.int (0 : Int32))]) (rest := [(.int (0 : Int32)), (.ref b65)]) (lenOf pd_0 rfl) rfl (by show 2 * 0 + _ ≤ _; exact Nat.le_of_eq rfl) (hb hby d1_12) (fun _ _ => ⟨rfl, e65, (by decide : 1 + 0 ≤ _), (by decide : 8 + 0 ≤ _)⟩)
    dsimp only [Pt.U, Pt.locs, Pt.cells, Pt.slots] at X66 l66 y66 z66 st66 hQ66
    subst l66 y66 z66
    obtain ⟨rfl, N66q, e66⟩ := hQ66
    have N66 := Fr.app N0 N66q
    refine Goes.of st66 ?_
    show Goes _ _ _ _ _ _ _ (T66.setTop (mkF m 15 #[.val (.long q0), .second, .val (.int (8 : Int32)), .val (.ref b65)] [(.int (f2 q0 (0 : Int32))), (.int (0 : Int32)), (.ref b65)]))
    obtain ⟨T67, h67, X67, e67, W67, V67, st67⟩ := putB X66 hx hZ e66 V65 (j := (0 : Int32)) (x := (f2 q0 (0 : Int32))) (i := 0) (by decide) (by decide) (by decide) (g := (mkF m 15 #[.val (.long q0), .second, .val (.int (8 : Int32)), .val (.ref b65)] [(.int (f2 q0 (0 : Int32))), (.int (0 : Int32)), (.ref b65)])) rfl rfl (hb hby d1_15)
    have Z67 : n0 ≤ h67.size := Nat.le_trans Z65 (Keep.of_wr W67).1
    have K67 : Keep h0 h67 [] := K65.wr W67 (Or.inr sz_b65)
    have N67 := Fr.snoc X67 N66 g_b65
    refine Goes.of st67 ?_
    show Goes _ _ _ _ _ _ _ (T67.setTop (mkF m 16 #[.val (.long q0), .second, .val (.int (8 : Int32)), .val (.ref b65)] []))
    refine Goes.of (fun t k => XS.iloadN X67.here hx rfl (hb hby d1_16) rfl k) ?_
    show Goes _ _ _ _ _ _ _ (T67.setTop (mkF m 17 #[.val (.long q0), .second, .val (.int (8 : Int32)), .val (.ref b65)] [(.int (8 : Int32))]))
    refine Goes.of (fun t k => XS.iconst X67.here hx rfl (hb hby d1_17) k) ?_
    show Goes _ _ _ _ _ _ _ (T67.setTop (mkF m 18 #[.val (.long q0), .second, .val (.int (8 : Int32)), .val (.ref b65)] [(.int (1 : Int32)), (.int (8 : Int32))]))
    refine Goes.of (fun t k => XS.icmpNo X67.here hx rfl (hb hby d1_18) rfl (tlt (by decide : (1 : Int32) < (8 : Int32))).2.2.2 k) ?_
    show Goes _ _ _ _ _ _ _ (T67.setTop (mkF m 21 #[.val (.long q0), .second, .val (.int (8 : Int32)), .val (.ref b65)] []))
    refine Goes.of (fun t k => XS.aloadN X67.here hx rfl (hb hby d1_21) rfl rfl k) ?_
    show Goes _ _ _ _ _ _ _ (T67.setTop (mkF m 22 #[.val (.long q0), .second, .val (.int (8 : Int32)), .val (.ref b65)] [(.ref b65)]))
    refine Goes.of (fun t k => XS.iconst X67.here hx rfl (hb hby d1_22) k) ?_
    show Goes _ _ _ _ _ _ _ (T67.setTop (mkF m 23 #[.val (.long q0), .second, .val (.int (8 : Int32)), .val (.ref b65)] [(.int (1 : Int32)), (.ref b65)]))
    refine Goes.of (fun t k => XS.lloadN X67.here hx rfl (hb hby d1_23) rfl k) ?_
    show Goes _ _ _ _ _ _ _ (T67.setTop (mkF m 24 #[.val (.long q0), .second, .val (.int (8 : Int32)), .val (.ref b65)] [(.long q0), (.int (1 : Int32)), (.ref b65)]))
    refine Goes.of (fun t k => XS.iconst X67.here hx rfl (hb hby d1_24) k) ?_
    show Goes _ _ _ _ _ _ _ (T67.setTop (mkF m 25 #[.val (.long q0), .second, .val (.int (8 : Int32)), .val (.ref b65)] [(.int (1 : Int32)), (.long q0), (.int (1 : Int32)), (.ref b65)]))
    obtain ⟨_, _, ⟨T68, L68, k68, n68⟩, -, X68, ⟨Lc68, hQ68, l68, y68, z68⟩, st68⟩ := Jvm.LawKit.callS X67 hx (y := (⟨"com/example/vhost/vhost/util/HashesFnv1aPinLaw", "at", "(JI)B"⟩ : MethodName)) hown (mvT hZ (hw _ (List.mem_of_getElem? (i := 5) rfl))) (mvT hZ (hw _ (List.mem_of_getElem? (i := 6) rfl))) (mvT hZ (hw _ (List.mem_of_getElem? (i := 3) rfl))) (mvT hZ (hw _ (List.mem_of_getElem? (i := 7) rfl))) (by decide) (backOf (W := 2) (rm2 l Z a0 hw [] q0 (1 : Int32)  h67 n0 ) hZ (hw _ (List.mem_of_getElem? (i := 7) rfl)) (hw _ (List.mem_of_getElem? (i := 3) rfl)) (by decide) (by decide)) (g := (mkF m 25 #[.val (.long q0), .second, .val (.int (8 : Int32)), .val (.ref b65)] [(.int (1 : Int32)), (.long q0), (.int (1 : Int32)), (.ref b65)])) rfl (by rw [hml]; rfl) (argsL := [(.long q0), (.int (1 : Int32))]) (rest := [(.int (1 : Int32)), (.ref b65)]) (lenOf pd_0 rfl) rfl (by show 2 * 0 + _ ≤ _; exact Nat.le_of_eq rfl) (hb hby d1_25) (fun _ _ => ⟨rfl, e67, (by decide : 1 + 0 ≤ _), (by decide : 8 + 0 ≤ _)⟩)
    dsimp only [Pt.U, Pt.locs, Pt.cells, Pt.slots] at X68 l68 y68 z68 st68 hQ68
    subst l68 y68 z68
    obtain ⟨rfl, N68q, e68⟩ := hQ68
    have N68 := Fr.app N67 N68q
    refine Goes.of st68 ?_
    show Goes _ _ _ _ _ _ _ (T68.setTop (mkF m 28 #[.val (.long q0), .second, .val (.int (8 : Int32)), .val (.ref b65)] [(.int (f2 q0 (1 : Int32))), (.int (1 : Int32)), (.ref b65)]))
    obtain ⟨T69, h69, X69, e69, W69, V69, st69⟩ := putB X68 hx hZ e68 V67 (j := (1 : Int32)) (x := (f2 q0 (1 : Int32))) (i := 1) (by decide) (by decide) (by decide) (g := (mkF m 28 #[.val (.long q0), .second, .val (.int (8 : Int32)), .val (.ref b65)] [(.int (f2 q0 (1 : Int32))), (.int (1 : Int32)), (.ref b65)])) rfl rfl (hb hby d1_28)
    have Z69 : n0 ≤ h69.size := Nat.le_trans Z67 (Keep.of_wr W69).1
    have K69 : Keep h0 h69 [] := K67.wr W69 (Or.inr sz_b65)
    have N69 := Fr.snoc X69 N68 g_b65
    refine Goes.of st69 ?_
    show Goes _ _ _ _ _ _ _ (T69.setTop (mkF m 29 #[.val (.long q0), .second, .val (.int (8 : Int32)), .val (.ref b65)] []))
    refine Goes.of (fun t k => XS.iloadN X69.here hx rfl (hb hby d1_29) rfl k) ?_
    show Goes _ _ _ _ _ _ _ (T69.setTop (mkF m 30 #[.val (.long q0), .second, .val (.int (8 : Int32)), .val (.ref b65)] [(.int (8 : Int32))]))
    refine Goes.of (fun t k => XS.iconst X69.here hx rfl (hb hby d1_30) k) ?_
    show Goes _ _ _ _ _ _ _ (T69.setTop (mkF m 31 #[.val (.long q0), .second, .val (.int (8 : Int32)), .val (.ref b65)] [(.int (2 : Int32)), (.int (8 : Int32))]))
    refine Goes.of (fun t k => XS.icmpNo X69.here hx rfl (hb hby d1_31) rfl (tlt (by decide : (2 : Int32) < (8 : Int32))).2.2.2 k) ?_
    show Goes _ _ _ _ _ _ _ (T69.setTop (mkF m 34 #[.val (.long q0), .second, .val (.int (8 : Int32)), .val (.ref b65)] []))
    refine Goes.of (fun t k => XS.aloadN X69.here hx rfl (hb hby d1_34) rfl rfl k) ?_
    show Goes _ _ _ _ _ _ _ (T69.setTop (mkF m 35 #[.val (.long q0), .second, .val (.int (8 : Int32)), .val (.ref b65)] [(.ref b65)]))
    refine Goes.of (fun t k => XS.iconst X69.here hx rfl (hb hby d1_35) k) ?_
    show Goes _ _ _ _ _ _ _ (T69.setTop (mkF m 36 #[.val (.long q0), .second, .val (.int (8 : Int32)), .val (.ref b65)] [(.int (2 : Int32)), (.ref b65)]))
    refine Goes.of (fun t k => XS.lloadN X69.here hx rfl (hb hby d1_36) rfl k) ?_
    show Goes _ _ _ _ _ _ _ (T69.setTop (mkF m 37 #[.val (.long q0), .second, .val (.int (8 : Int32)), .val (.ref b65)] [(.long q0), (.int (2 : Int32)), (.ref b65)]))
    refine Goes.of (fun t k => XS.iconst X69.here hx rfl (hb hby d1_37) k) ?_
    show Goes _ _ _ _ _ _ _ (T69.setTop (mkF m 38 #[.val (.long q0), .second, .val (.int (8 : Int32)), .val (.ref b65)] [(.int (2 : Int32)), (.long q0), (.int (2 : Int32)), (.ref b65)]))
    obtain ⟨_, _, ⟨T70, L70, k70, n70⟩, -, X70, ⟨Lc70, hQ70, l70, y70, z70⟩, st70⟩ := Jvm.LawKit.callS X69 hx (y := (⟨"com/example/vhost/vhost/util/HashesFnv1aPinLaw", "at", "(JI)B"⟩ : MethodName)) hown (mvT hZ (hw _ (List.mem_of_getElem? (i := 5) rfl))) (mvT hZ (hw _ (List.mem_of_getElem? (i := 6) rfl))) (mvT hZ (hw _ (List.mem_of_getElem? (i := 3) rfl))) (mvT hZ (hw _ (List.mem_of_getElem? (i := 7) rfl))) (by decide) (backOf (W := 2) (rm2 l Z a0 hw [] q0 (2 : Int32)  h69 n0 ) hZ (hw _ (List.mem_of_getElem? (i := 7) rfl)) (hw _ (List.mem_of_getElem? (i := 3) rfl)) (by decide) (by decide)) (g := (mkF m 38 #[.val (.long q0), .second, .val (.int (8 : Int32)), .val (.ref b65)] [(.int (2 : Int32)), (.long q0), (.int (2 : Int32)), (.ref b65)])) rfl (by rw [hml]; rfl) (argsL := [(.long q0), (.int (2 : Int32))]) (rest := [(.int (2 : Int32)), (.ref b65)]) (lenOf pd_0 rfl) rfl (by show 2 * 0 + _ ≤ _; exact Nat.le_of_eq rfl) (hb hby d1_38) (fun _ _ => ⟨rfl, e69, (by decide : 1 + 0 ≤ _), (by decide : 8 + 0 ≤ _)⟩)
    dsimp only [Pt.U, Pt.locs, Pt.cells, Pt.slots] at X70 l70 y70 z70 st70 hQ70
    subst l70 y70 z70
    obtain ⟨rfl, N70q, e70⟩ := hQ70
    have N70 := Fr.app N69 N70q
    refine Goes.of st70 ?_
    show Goes _ _ _ _ _ _ _ (T70.setTop (mkF m 41 #[.val (.long q0), .second, .val (.int (8 : Int32)), .val (.ref b65)] [(.int (f2 q0 (2 : Int32))), (.int (2 : Int32)), (.ref b65)]))
    obtain ⟨T71, h71, X71, e71, W71, V71, st71⟩ := putB X70 hx hZ e70 V69 (j := (2 : Int32)) (x := (f2 q0 (2 : Int32))) (i := 2) (by decide) (by decide) (by decide) (g := (mkF m 41 #[.val (.long q0), .second, .val (.int (8 : Int32)), .val (.ref b65)] [(.int (f2 q0 (2 : Int32))), (.int (2 : Int32)), (.ref b65)])) rfl rfl (hb hby d1_41)
    have Z71 : n0 ≤ h71.size := Nat.le_trans Z69 (Keep.of_wr W71).1
    have K71 : Keep h0 h71 [] := K69.wr W71 (Or.inr sz_b65)
    have N71 := Fr.snoc X71 N70 g_b65
    refine Goes.of st71 ?_
    show Goes _ _ _ _ _ _ _ (T71.setTop (mkF m 42 #[.val (.long q0), .second, .val (.int (8 : Int32)), .val (.ref b65)] []))
    refine Goes.of (fun t k => XS.iloadN X71.here hx rfl (hb hby d1_42) rfl k) ?_
    show Goes _ _ _ _ _ _ _ (T71.setTop (mkF m 43 #[.val (.long q0), .second, .val (.int (8 : Int32)), .val (.ref b65)] [(.int (8 : Int32))]))
    refine Goes.of (fun t k => XS.iconst X71.here hx rfl (hb hby d1_43) k) ?_
    show Goes _ _ _ _ _ _ _ (T71.setTop (mkF m 44 #[.val (.long q0), .second, .val (.int (8 : Int32)), .val (.ref b65)] [(.int (3 : Int32)), (.int (8 : Int32))]))
    refine Goes.of (fun t k => XS.icmpNo X71.here hx rfl (hb hby d1_44) rfl (tlt (by decide : (3 : Int32) < (8 : Int32))).2.2.2 k) ?_
    show Goes _ _ _ _ _ _ _ (T71.setTop (mkF m 47 #[.val (.long q0), .second, .val (.int (8 : Int32)), .val (.ref b65)] []))
    refine Goes.of (fun t k => XS.aloadN X71.here hx rfl (hb hby d1_47) rfl rfl k) ?_
    show Goes _ _ _ _ _ _ _ (T71.setTop (mkF m 48 #[.val (.long q0), .second, .val (.int (8 : Int32)), .val (.ref b65)] [(.ref b65)]))
    refine Goes.of (fun t k => XS.iconst X71.here hx rfl (hb hby d1_48) k) ?_
    show Goes _ _ _ _ _ _ _ (T71.setTop (mkF m 49 #[.val (.long q0), .second, .val (.int (8 : Int32)), .val (.ref b65)] [(.int (3 : Int32)), (.ref b65)]))
    refine Goes.of (fun t k => XS.lloadN X71.here hx rfl (hb hby d1_49) rfl k) ?_
    show Goes _ _ _ _ _ _ _ (T71.setTop (mkF m 50 #[.val (.long q0), .second, .val (.int (8 : Int32)), .val (.ref b65)] [(.long q0), (.int (3 : Int32)), (.ref b65)]))
    refine Goes.of (fun t k => XS.iconst X71.here hx rfl (hb hby d1_50) k) ?_
    show Goes _ _ _ _ _ _ _ (T71.setTop (mkF m 51 #[.val (.long q0), .second, .val (.int (8 : Int32)), .val (.ref b65)] [(.int (3 : Int32)), (.long q0), (.int (3 : Int32)), (.ref b65)]))
    obtain ⟨_, _, ⟨T72, L72, k72, n72⟩, -, X72, ⟨Lc72, hQ72, l72, y72, z72⟩, st72⟩ := Jvm.LawKit.callS X71 hx (y := (⟨"com/example/vhost/vhost/util/HashesFnv1aPinLaw", "at", "(JI)B"⟩ : MethodName)) hown (mvT hZ (hw _ (List.mem_of_getElem? (i := 5) rfl))) (mvT hZ (hw _ (List.mem_of_getElem? (i := 6) rfl))) (mvT hZ (hw _ (List.mem_of_getElem? (i := 3) rfl))) (mvT hZ (hw _ (List.mem_of_getElem? (i := 7) rfl))) (by decide) (backOf (W := 2) (rm2 l Z a0 hw [] q0 (3 : Int32)  h71 n0 ) hZ (hw _ (List.mem_of_getElem? (i := 7) rfl)) (hw _ (List.mem_of_getElem? (i := 3) rfl)) (by decide) (by decide)) (g := (mkF m 51 #[.val (.long q0), .second, .val (.int (8 : Int32)), .val (.ref b65)] [(.int (3 : Int32)), (.long q0), (.int (3 : Int32)), (.ref b65)])) rfl (by rw [hml]; rfl) (argsL := [(.long q0), (.int (3 : Int32))]) (rest := [(.int (3 : Int32)), (.ref b65)]) (lenOf pd_0 rfl) rfl (by show 2 * 0 + _ ≤ _; exact Nat.le_of_eq rfl) (hb hby d1_51) (fun _ _ => ⟨rfl, e71, (by decide : 1 + 0 ≤ _), (by decide : 8 + 0 ≤ _)⟩)
    dsimp only [Pt.U, Pt.locs, Pt.cells, Pt.slots] at X72 l72 y72 z72 st72 hQ72
    subst l72 y72 z72
    obtain ⟨rfl, N72q, e72⟩ := hQ72
    have N72 := Fr.app N71 N72q
    refine Goes.of st72 ?_
    show Goes _ _ _ _ _ _ _ (T72.setTop (mkF m 54 #[.val (.long q0), .second, .val (.int (8 : Int32)), .val (.ref b65)] [(.int (f2 q0 (3 : Int32))), (.int (3 : Int32)), (.ref b65)]))
    obtain ⟨T73, h73, X73, e73, W73, V73, st73⟩ := putB X72 hx hZ e72 V71 (j := (3 : Int32)) (x := (f2 q0 (3 : Int32))) (i := 3) (by decide) (by decide) (by decide) (g := (mkF m 54 #[.val (.long q0), .second, .val (.int (8 : Int32)), .val (.ref b65)] [(.int (f2 q0 (3 : Int32))), (.int (3 : Int32)), (.ref b65)])) rfl rfl (hb hby d1_54)
    have Z73 : n0 ≤ h73.size := Nat.le_trans Z71 (Keep.of_wr W73).1
    have K73 : Keep h0 h73 [] := K71.wr W73 (Or.inr sz_b65)
    have N73 := Fr.snoc X73 N72 g_b65
    refine Goes.of st73 ?_
    show Goes _ _ _ _ _ _ _ (T73.setTop (mkF m 55 #[.val (.long q0), .second, .val (.int (8 : Int32)), .val (.ref b65)] []))
    refine Goes.of (fun t k => XS.iloadN X73.here hx rfl (hb hby d1_55) rfl k) ?_
    show Goes _ _ _ _ _ _ _ (T73.setTop (mkF m 56 #[.val (.long q0), .second, .val (.int (8 : Int32)), .val (.ref b65)] [(.int (8 : Int32))]))
    refine Goes.of (fun t k => XS.iconst X73.here hx rfl (hb hby d1_56) k) ?_
    show Goes _ _ _ _ _ _ _ (T73.setTop (mkF m 57 #[.val (.long q0), .second, .val (.int (8 : Int32)), .val (.ref b65)] [(.int (4 : Int32)), (.int (8 : Int32))]))
    refine Goes.of (fun t k => XS.icmpNo X73.here hx rfl (hb hby d1_57) rfl (tlt (by decide : (4 : Int32) < (8 : Int32))).2.2.2 k) ?_
    show Goes _ _ _ _ _ _ _ (T73.setTop (mkF m 60 #[.val (.long q0), .second, .val (.int (8 : Int32)), .val (.ref b65)] []))
    refine Goes.of (fun t k => XS.aloadN X73.here hx rfl (hb hby d1_60) rfl rfl k) ?_
    show Goes _ _ _ _ _ _ _ (T73.setTop (mkF m 61 #[.val (.long q0), .second, .val (.int (8 : Int32)), .val (.ref b65)] [(.ref b65)]))
    refine Goes.of (fun t k => XS.iconst X73.here hx rfl (hb hby d1_61) k) ?_
    show Goes _ _ _ _ _ _ _ (T73.setTop (mkF m 62 #[.val (.long q0), .second, .val (.int (8 : Int32)), .val (.ref b65)] [(.int (4 : Int32)), (.ref b65)]))
    refine Goes.of (fun t k => XS.lloadN X73.here hx rfl (hb hby d1_62) rfl k) ?_
    show Goes _ _ _ _ _ _ _ (T73.setTop (mkF m 63 #[.val (.long q0), .second, .val (.int (8 : Int32)), .val (.ref b65)] [(.long q0), (.int (4 : Int32)), (.ref b65)]))
    refine Goes.of (fun t k => XS.iconst X73.here hx rfl (hb hby d1_63) k) ?_
    show Goes _ _ _ _ _ _ _ (T73.setTop (mkF m 64 #[.val (.long q0), .second, .val (.int (8 : Int32)), .val (.ref b65)] [(.int (4 : Int32)), (.long q0), (.int (4 : Int32)), (.ref b65)]))
    obtain ⟨_, _, ⟨T74, L74, k74, n74⟩, -, X74, ⟨Lc74, hQ74, l74, y74, z74⟩, st74⟩ := Jvm.LawKit.callS X73 hx (y := (⟨"com/example/vhost/vhost/util/HashesFnv1aPinLaw", "at", "(JI)B"⟩ : MethodName)) hown (mvT hZ (hw _ (List.mem_of_getElem? (i := 5) rfl))) (mvT hZ (hw _ (List.mem_of_getElem? (i := 6) rfl))) (mvT hZ (hw _ (List.mem_of_getElem? (i := 3) rfl))) (mvT hZ (hw _ (List.mem_of_getElem? (i := 7) rfl))) (by decide) (backOf (W := 2) (rm2 l Z a0 hw [] q0 (4 : Int32)  h73 n0 ) hZ (hw _ (List.mem_of_getElem? (i := 7) rfl)) (hw _ (List.mem_of_getElem? (i := 3) rfl)) (by decide) (by decide)) (g := (mkF m 64 #[.val (.long q0), .second, .val (.int (8 : Int32)), .val (.ref b65)] [(.int (4 : Int32)), (.long q0), (.int (4 : Int32)), (.ref b65)])) rfl (by rw [hml]; rfl) (argsL := [(.long q0), (.int (4 : Int32))]) (rest := [(.int (4 : Int32)), (.ref b65)]) (lenOf pd_0 rfl) rfl (by show 2 * 0 + _ ≤ _; exact Nat.le_of_eq rfl) (hb hby d1_64) (fun _ _ => ⟨rfl, e73, (by decide : 1 + 0 ≤ _), (by decide : 8 + 0 ≤ _)⟩)
    dsimp only [Pt.U, Pt.locs, Pt.cells, Pt.slots] at X74 l74 y74 z74 st74 hQ74
    subst l74 y74 z74
    obtain ⟨rfl, N74q, e74⟩ := hQ74
    have N74 := Fr.app N73 N74q
    refine Goes.of st74 ?_
    show Goes _ _ _ _ _ _ _ (T74.setTop (mkF m 67 #[.val (.long q0), .second, .val (.int (8 : Int32)), .val (.ref b65)] [(.int (f2 q0 (4 : Int32))), (.int (4 : Int32)), (.ref b65)]))
    obtain ⟨T75, h75, X75, e75, W75, V75, st75⟩ := putB X74 hx hZ e74 V73 (j := (4 : Int32)) (x := (f2 q0 (4 : Int32))) (i := 4) (by decide) (by decide) (by decide) (g := (mkF m 67 #[.val (.long q0), .second, .val (.int (8 : Int32)), .val (.ref b65)] [(.int (f2 q0 (4 : Int32))), (.int (4 : Int32)), (.ref b65)])) rfl rfl (hb hby d1_67)
    have Z75 : n0 ≤ h75.size := Nat.le_trans Z73 (Keep.of_wr W75).1
    have K75 : Keep h0 h75 [] := K73.wr W75 (Or.inr sz_b65)
    have N75 := Fr.snoc X75 N74 g_b65
    refine Goes.of st75 ?_
    show Goes _ _ _ _ _ _ _ (T75.setTop (mkF m 68 #[.val (.long q0), .second, .val (.int (8 : Int32)), .val (.ref b65)] []))
    refine Goes.of (fun t k => XS.iloadN X75.here hx rfl (hb hby d1_68) rfl k) ?_
    show Goes _ _ _ _ _ _ _ (T75.setTop (mkF m 69 #[.val (.long q0), .second, .val (.int (8 : Int32)), .val (.ref b65)] [(.int (8 : Int32))]))
    refine Goes.of (fun t k => XS.iconst X75.here hx rfl (hb hby d1_69) k) ?_
    show Goes _ _ _ _ _ _ _ (T75.setTop (mkF m 70 #[.val (.long q0), .second, .val (.int (8 : Int32)), .val (.ref b65)] [(.int (5 : Int32)), (.int (8 : Int32))]))
    refine Goes.of (fun t k => XS.icmpNo X75.here hx rfl (hb hby d1_70) rfl (tlt (by decide : (5 : Int32) < (8 : Int32))).2.2.2 k) ?_
    show Goes _ _ _ _ _ _ _ (T75.setTop (mkF m 73 #[.val (.long q0), .second, .val (.int (8 : Int32)), .val (.ref b65)] []))
    refine Goes.of (fun t k => XS.aloadN X75.here hx rfl (hb hby d1_73) rfl rfl k) ?_
    show Goes _ _ _ _ _ _ _ (T75.setTop (mkF m 74 #[.val (.long q0), .second, .val (.int (8 : Int32)), .val (.ref b65)] [(.ref b65)]))
    refine Goes.of (fun t k => XS.iconst X75.here hx rfl (hb hby d1_74) k) ?_
    show Goes _ _ _ _ _ _ _ (T75.setTop (mkF m 75 #[.val (.long q0), .second, .val (.int (8 : Int32)), .val (.ref b65)] [(.int (5 : Int32)), (.ref b65)]))
    refine Goes.of (fun t k => XS.lloadN X75.here hx rfl (hb hby d1_75) rfl k) ?_
    show Goes _ _ _ _ _ _ _ (T75.setTop (mkF m 76 #[.val (.long q0), .second, .val (.int (8 : Int32)), .val (.ref b65)] [(.long q0), (.int (5 : Int32)), (.ref b65)]))
    refine Goes.of (fun t k => XS.iconst X75.here hx rfl (hb hby d1_76) k) ?_
    show Goes _ _ _ _ _ _ _ (T75.setTop (mkF m 77 #[.val (.long q0), .second, .val (.int (8 : Int32)), .val (.ref b65)] [(.int (5 : Int32)), (.long q0), (.int (5 : Int32)), (.ref b65)]))
    obtain ⟨_, _, ⟨T76, L76, k76, n76⟩, -, X76, ⟨Lc76, hQ76, l76, y76, z76⟩, st76⟩ := Jvm.LawKit.callS X75 hx (y := (⟨"com/example/vhost/vhost/util/HashesFnv1aPinLaw", "at", "(JI)B"⟩ : MethodName)) hown (mvT hZ (hw _ (List.mem_of_getElem? (i := 5) rfl))) (mvT hZ (hw _ (List.mem_of_getElem? (i := 6) rfl))) (mvT hZ (hw _ (List.mem_of_getElem? (i := 3) rfl))) (mvT hZ (hw _ (List.mem_of_getElem? (i := 7) rfl))) (by decide) (backOf (W := 2) (rm2 l Z a0 hw [] q0 (5 : Int32)  h75 n0 ) hZ (hw _ (List.mem_of_getElem? (i := 7) rfl)) (hw _ (List.mem_of_getElem? (i := 3) rfl)) (by decide) (by decide)) (g := (mkF m 77 #[.val (.long q0), .second, .val (.int (8 : Int32)), .val (.ref b65)] [(.int (5 : Int32)), (.long q0), (.int (5 : Int32)), (.ref b65)])) rfl (by rw [hml]; rfl) (argsL := [(.long q0), (.int (5 : Int32))]) (rest := [(.int (5 : Int32)), (.ref b65)]) (lenOf pd_0 rfl) rfl (by show 2 * 0 + _ ≤ _; exact Nat.le_of_eq rfl) (hb hby d1_77) (fun _ _ => ⟨rfl, e75, (by decide : 1 + 0 ≤ _), (by decide : 8 + 0 ≤ _)⟩)
    dsimp only [Pt.U, Pt.locs, Pt.cells, Pt.slots] at X76 l76 y76 z76 st76 hQ76
    subst l76 y76 z76
    obtain ⟨rfl, N76q, e76⟩ := hQ76
    have N76 := Fr.app N75 N76q
    refine Goes.of st76 ?_
    show Goes _ _ _ _ _ _ _ (T76.setTop (mkF m 80 #[.val (.long q0), .second, .val (.int (8 : Int32)), .val (.ref b65)] [(.int (f2 q0 (5 : Int32))), (.int (5 : Int32)), (.ref b65)]))
    obtain ⟨T77, h77, X77, e77, W77, V77, st77⟩ := putB X76 hx hZ e76 V75 (j := (5 : Int32)) (x := (f2 q0 (5 : Int32))) (i := 5) (by decide) (by decide) (by decide) (g := (mkF m 80 #[.val (.long q0), .second, .val (.int (8 : Int32)), .val (.ref b65)] [(.int (f2 q0 (5 : Int32))), (.int (5 : Int32)), (.ref b65)])) rfl rfl (hb hby d1_80)
    have Z77 : n0 ≤ h77.size := Nat.le_trans Z75 (Keep.of_wr W77).1
    have K77 : Keep h0 h77 [] := K75.wr W77 (Or.inr sz_b65)
    have N77 := Fr.snoc X77 N76 g_b65
    refine Goes.of st77 ?_
    show Goes _ _ _ _ _ _ _ (T77.setTop (mkF m 81 #[.val (.long q0), .second, .val (.int (8 : Int32)), .val (.ref b65)] []))
    refine Goes.of (fun t k => XS.iloadN X77.here hx rfl (hb hby d1_81) rfl k) ?_
    show Goes _ _ _ _ _ _ _ (T77.setTop (mkF m 82 #[.val (.long q0), .second, .val (.int (8 : Int32)), .val (.ref b65)] [(.int (8 : Int32))]))
    refine Goes.of (fun t k => XS.bipush X77.here hx rfl (hb hby d1_82) k) ?_
    show Goes _ _ _ _ _ _ _ (T77.setTop (mkF m 84 #[.val (.long q0), .second, .val (.int (8 : Int32)), .val (.ref b65)] [(.int (6 : Int32)), (.int (8 : Int32))]))
    refine Goes.of (fun t k => XS.icmpNo X77.here hx rfl (hb hby d1_84) rfl (tlt (by decide : (6 : Int32) < (8 : Int32))).2.2.2 k) ?_
    show Goes _ _ _ _ _ _ _ (T77.setTop (mkF m 87 #[.val (.long q0), .second, .val (.int (8 : Int32)), .val (.ref b65)] []))
    refine Goes.of (fun t k => XS.aloadN X77.here hx rfl (hb hby d1_87) rfl rfl k) ?_
    show Goes _ _ _ _ _ _ _ (T77.setTop (mkF m 88 #[.val (.long q0), .second, .val (.int (8 : Int32)), .val (.ref b65)] [(.ref b65)]))
    refine Goes.of (fun t k => XS.bipush X77.here hx rfl (hb hby d1_88) k) ?_
    show Goes _ _ _ _ _ _ _ (T77.setTop (mkF m 90 #[.val (.long q0), .second, .val (.int (8 : Int32)), .val (.ref b65)] [(.int (6 : Int32)), (.ref b65)]))
    refine Goes.of (fun t k => XS.lloadN X77.here hx rfl (hb hby d1_90) rfl k) ?_
    show Goes _ _ _ _ _ _ _ (T77.setTop (mkF m 91 #[.val (.long q0), .second, .val (.int (8 : Int32)), .val (.ref b65)] [(.long q0), (.int (6 : Int32)), (.ref b65)]))
    refine Goes.of (fun t k => XS.bipush X77.here hx rfl (hb hby d1_91) k) ?_
    show Goes _ _ _ _ _ _ _ (T77.setTop (mkF m 93 #[.val (.long q0), .second, .val (.int (8 : Int32)), .val (.ref b65)] [(.int (6 : Int32)), (.long q0), (.int (6 : Int32)), (.ref b65)]))
    obtain ⟨_, _, ⟨T78, L78, k78, n78⟩, -, X78, ⟨Lc78, hQ78, l78, y78, z78⟩, st78⟩ := Jvm.LawKit.callS X77 hx (y := (⟨"com/example/vhost/vhost/util/HashesFnv1aPinLaw", "at", "(JI)B"⟩ : MethodName)) hown (mvT hZ (hw _ (List.mem_of_getElem? (i := 5) rfl))) (mvT hZ (hw _ (List.mem_of_getElem? (i := 6) rfl))) (mvT hZ (hw _ (List.mem_of_getElem? (i := 3) rfl))) (mvT hZ (hw _ (List.mem_of_getElem? (i := 7) rfl))) (by decide) (backOf (W := 2) (rm2 l Z a0 hw [] q0 (6 : Int32)  h77 n0 ) hZ (hw _ (List.mem_of_getElem? (i := 7) rfl)) (hw _ (List.mem_of_getElem? (i := 3) rfl)) (by decide) (by decide)) (g := (mkF m 93 #[.val (.long q0), .second, .val (.int (8 : Int32)), .val (.ref b65)] [(.int (6 : Int32)), (.long q0), (.int (6 : Int32)), (.ref b65)])) rfl (by rw [hml]; rfl) (argsL := [(.long q0), (.int (6 : Int32))]) (rest := [(.int (6 : Int32)), (.ref b65)]) (lenOf pd_0 rfl) rfl (by show 2 * 0 + _ ≤ _; exact Nat.le_of_eq rfl) (hb hby d1_93) (fun _ _ => ⟨rfl, e77, (by decide : 1 + 0 ≤ _), (by decide : 8 + 0 ≤ _)⟩)
    dsimp only [Pt.U, Pt.locs, Pt.cells, Pt.slots] at X78 l78 y78 z78 st78 hQ78
    subst l78 y78 z78
    obtain ⟨rfl, N78q, e78⟩ := hQ78
    have N78 := Fr.app N77 N78q
    refine Goes.of st78 ?_
    show Goes _ _ _ _ _ _ _ (T78.setTop (mkF m 96 #[.val (.long q0), .second, .val (.int (8 : Int32)), .val (.ref b65)] [(.int (f2 q0 (6 : Int32))), (.int (6 : Int32)), (.ref b65)]))
    obtain ⟨T79, h79, X79, e79, W79, V79, st79⟩ := putB X78 hx hZ e78 V77 (j := (6 : Int32)) (x := (f2 q0 (6 : Int32))) (i := 6) (by decide) (by decide) (by decide) (g := (mkF m 96 #[.val (.long q0), .second, .val (.int (8 : Int32)), .val (.ref b65)] [(.int (f2 q0 (6 : Int32))), (.int (6 : Int32)), (.ref b65)])) rfl rfl (hb hby d1_96)
    have Z79 : n0 ≤ h79.size := Nat.le_trans Z77 (Keep.of_wr W79).1
    have K79 : Keep h0 h79 [] := K77.wr W79 (Or.inr sz_b65)
    have N79 := Fr.snoc X79 N78 g_b65
    refine Goes.of st79 ?_
    show Goes _ _ _ _ _ _ _ (T79.setTop (mkF m 97 #[.val (.long q0), .second, .val (.int (8 : Int32)), .val (.ref b65)] []))
    refine Goes.of (fun t k => XS.iloadN X79.here hx rfl (hb hby d1_97) rfl k) ?_
    show Goes _ _ _ _ _ _ _ (T79.setTop (mkF m 98 #[.val (.long q0), .second, .val (.int (8 : Int32)), .val (.ref b65)] [(.int (8 : Int32))]))
    refine Goes.of (fun t k => XS.bipush X79.here hx rfl (hb hby d1_98) k) ?_
    show Goes _ _ _ _ _ _ _ (T79.setTop (mkF m 100 #[.val (.long q0), .second, .val (.int (8 : Int32)), .val (.ref b65)] [(.int (7 : Int32)), (.int (8 : Int32))]))
    refine Goes.of (fun t k => XS.icmpNo X79.here hx rfl (hb hby d1_100) rfl (tlt (by decide : (7 : Int32) < (8 : Int32))).2.2.2 k) ?_
    show Goes _ _ _ _ _ _ _ (T79.setTop (mkF m 103 #[.val (.long q0), .second, .val (.int (8 : Int32)), .val (.ref b65)] []))
    refine Goes.of (fun t k => XS.aloadN X79.here hx rfl (hb hby d1_103) rfl rfl k) ?_
    show Goes _ _ _ _ _ _ _ (T79.setTop (mkF m 104 #[.val (.long q0), .second, .val (.int (8 : Int32)), .val (.ref b65)] [(.ref b65)]))
    refine Goes.of (fun t k => XS.bipush X79.here hx rfl (hb hby d1_104) k) ?_
    show Goes _ _ _ _ _ _ _ (T79.setTop (mkF m 106 #[.val (.long q0), .second, .val (.int (8 : Int32)), .val (.ref b65)] [(.int (7 : Int32)), (.ref b65)]))
    refine Goes.of (fun t k => XS.lloadN X79.here hx rfl (hb hby d1_106) rfl k) ?_
    show Goes _ _ _ _ _ _ _ (T79.setTop (mkF m 107 #[.val (.long q0), .second, .val (.int (8 : Int32)), .val (.ref b65)] [(.long q0), (.int (7 : Int32)), (.ref b65)]))
    refine Goes.of (fun t k => XS.bipush X79.here hx rfl (hb hby d1_107) k) ?_
    show Goes _ _ _ _ _ _ _ (T79.setTop (mkF m 109 #[.val (.long q0), .second, .val (.int (8 : Int32)), .val (.ref b65)] [(.int (7 : Int32)), (.long q0), (.int (7 : Int32)), (.ref b65)]))
    obtain ⟨_, _, ⟨T80, L80, k80, n80⟩, -, X80, ⟨Lc80, hQ80, l80, y80, z80⟩, st80⟩ := Jvm.LawKit.callS X79 hx (y := (⟨"com/example/vhost/vhost/util/HashesFnv1aPinLaw", "at", "(JI)B"⟩ : MethodName)) hown (mvT hZ (hw _ (List.mem_of_getElem? (i := 5) rfl))) (mvT hZ (hw _ (List.mem_of_getElem? (i := 6) rfl))) (mvT hZ (hw _ (List.mem_of_getElem? (i := 3) rfl))) (mvT hZ (hw _ (List.mem_of_getElem? (i := 7) rfl))) (by decide) (backOf (W := 2) (rm2 l Z a0 hw [] q0 (7 : Int32)  h79 n0 ) hZ (hw _ (List.mem_of_getElem? (i := 7) rfl)) (hw _ (List.mem_of_getElem? (i := 3) rfl)) (by decide) (by decide)) (g := (mkF m 109 #[.val (.long q0), .second, .val (.int (8 : Int32)), .val (.ref b65)] [(.int (7 : Int32)), (.long q0), (.int (7 : Int32)), (.ref b65)])) rfl (by rw [hml]; rfl) (argsL := [(.long q0), (.int (7 : Int32))]) (rest := [(.int (7 : Int32)), (.ref b65)]) (lenOf pd_0 rfl) rfl (by show 2 * 0 + _ ≤ _; exact Nat.le_of_eq rfl) (hb hby d1_109) (fun _ _ => ⟨rfl, e79, (by decide : 1 + 0 ≤ _), (by decide : 8 + 0 ≤ _)⟩)
    dsimp only [Pt.U, Pt.locs, Pt.cells, Pt.slots] at X80 l80 y80 z80 st80 hQ80
    subst l80 y80 z80
    obtain ⟨rfl, N80q, e80⟩ := hQ80
    have N80 := Fr.app N79 N80q
    refine Goes.of st80 ?_
    show Goes _ _ _ _ _ _ _ (T80.setTop (mkF m 112 #[.val (.long q0), .second, .val (.int (8 : Int32)), .val (.ref b65)] [(.int (f2 q0 (7 : Int32))), (.int (7 : Int32)), (.ref b65)]))
    obtain ⟨T81, h81, X81, e81, W81, V81, st81⟩ := putB X80 hx hZ e80 V79 (j := (7 : Int32)) (x := (f2 q0 (7 : Int32))) (i := 7) (by decide) (by decide) (by decide) (g := (mkF m 112 #[.val (.long q0), .second, .val (.int (8 : Int32)), .val (.ref b65)] [(.int (f2 q0 (7 : Int32))), (.int (7 : Int32)), (.ref b65)])) rfl rfl (hb hby d1_112)
    have Z81 : n0 ≤ h81.size := Nat.le_trans Z79 (Keep.of_wr W81).1
    have K81 : Keep h0 h81 [] := K79.wr W81 (Or.inr sz_b65)
    have N81 := Fr.snoc X81 N80 g_b65
    refine Goes.of st81 ?_
    show Goes _ _ _ _ _ _ _ (T81.setTop (mkF m 113 #[.val (.long q0), .second, .val (.int (8 : Int32)), .val (.ref b65)] []))
    refine Goes.of (fun t k => XS.aloadN X81.here hx rfl (hb hby d1_113) rfl rfl k) ?_
    show Goes _ _ _ _ _ _ _ (T81.setTop (mkF m 114 #[.val (.long q0), .second, .val (.int (8 : Int32)), .val (.ref b65)] [(.ref b65)]))
    exact Goes.fin X81 hlk (v := some (.ref b65)) (fun h => by rw [Bd.returns] at h; cases h) (fun fs hr => retOut X81 hx Bd.returns (by rfl) (Or.inr (Or.inr (Or.inr (Or.inr ⟨rfl, rfl, rfl⟩)))) (hb hby d1_114) hr) (by rw [e81]; exact ⟨b65, rfl, N81, K81, sz_b65, V81.congr (fun j hj => by
          have hj' : j = 0 ∨ j = 1 ∨ j = 2 ∨ j = 3 ∨ j = 4 ∨ j = 5 ∨ j = 6 ∨ j = 7 := by omega
          rcases hj' with rfl | rfl | rfl | rfl | rfl | rfl | rfl | rfl <;> rfl)⟩) (by decide) (by decide)
def own_fnv (f : Nat → Int32) : Nat → Int64
  | 0 => (-3750763034362895579 : Int64)
  | k + 1 => (own_fnv f k ^^^ ((f k &&& (255 : Int32)).toInt64)) * (1099511628211 : Int64)
theorem d3_0 : decode prog_25_method_2_code 0 = .ok (.ldc2_w 7, 3) := by decide +kernel
theorem d3_3 : decode prog_25_method_2_code 3 = .ok (.lstore_n 1, 1) := by decide +kernel
theorem d3_4 : decode prog_25_method_2_code 4 = .ok (.aload_n 0, 1) := by decide +kernel
theorem d3_5 : decode prog_25_method_2_code 5 = .ok (.astore_n 3, 1) := by decide +kernel
theorem d3_6 : decode prog_25_method_2_code 6 = .ok (.aload_n 3, 1) := by decide +kernel
theorem d3_7 : decode prog_25_method_2_code 7 = .ok (.arraylength, 1) := by decide +kernel
theorem d3_8 : decode prog_25_method_2_code 8 = .ok (.istore 4, 2) := by decide +kernel
theorem d3_10 : decode prog_25_method_2_code 10 = .ok (.iconst 0, 1) := by decide +kernel
theorem d3_11 : decode prog_25_method_2_code 11 = .ok (.istore 5, 2) := by decide +kernel
theorem d3_13 : decode prog_25_method_2_code 13 = .ok (.iload 5, 2) := by decide +kernel
theorem d3_15 : decode prog_25_method_2_code 15 = .ok (.iload 4, 2) := by decide +kernel
theorem d3_17 : decode prog_25_method_2_code 17 = .ok (.if_icmp .ge 31, 3) := by decide +kernel
theorem d3_20 : decode prog_25_method_2_code 20 = .ok (.aload_n 3, 1) := by decide +kernel
theorem d3_21 : decode prog_25_method_2_code 21 = .ok (.iload 5, 2) := by decide +kernel
theorem d3_23 : decode prog_25_method_2_code 23 = .ok (.baload, 1) := by decide +kernel
theorem d3_24 : decode prog_25_method_2_code 24 = .ok (.istore 6, 2) := by decide +kernel
theorem d3_26 : decode prog_25_method_2_code 26 = .ok (.lload_n 1, 1) := by decide +kernel
theorem d3_27 : decode prog_25_method_2_code 27 = .ok (.iload 6, 2) := by decide +kernel
theorem d3_29 : decode prog_25_method_2_code 29 = .ok (.sipush 255, 3) := by decide +kernel
theorem d3_32 : decode prog_25_method_2_code 32 = .ok (.iand, 1) := by decide +kernel
theorem d3_33 : decode prog_25_method_2_code 33 = .ok (.i2l, 1) := by decide +kernel
theorem d3_34 : decode prog_25_method_2_code 34 = .ok (.lxor, 1) := by decide +kernel
theorem d3_35 : decode prog_25_method_2_code 35 = .ok (.lstore_n 1, 1) := by decide +kernel
theorem d3_36 : decode prog_25_method_2_code 36 = .ok (.lload_n 1, 1) := by decide +kernel
theorem d3_37 : decode prog_25_method_2_code 37 = .ok (.ldc2_w 9, 3) := by decide +kernel
theorem d3_40 : decode prog_25_method_2_code 40 = .ok (.lmul, 1) := by decide +kernel
theorem d3_41 : decode prog_25_method_2_code 41 = .ok (.lstore_n 1, 1) := by decide +kernel
theorem d3_42 : decode prog_25_method_2_code 42 = .ok (.iinc 5 1, 3) := by decide +kernel
theorem d3_45 : decode prog_25_method_2_code 45 = .ok (.goto (-32), 3) := by decide +kernel
theorem d3_48 : decode prog_25_method_2_code 48 = .ok (.lload_n 1, 1) := by decide +kernel
theorem d3_49 : decode prog_25_method_2_code 49 = .ok (.lreturn, 1) := by decide +kernel
theorem pn_1 : plainName "com/example/vhost/vhost/util/Hashes" = true := by first | (simp [plainName, overriddenIn]; done) | decide +kernel
theorem ef_3 (m : MethodId) (a : Addr) : entryFrame m #[(.ref a)] 7 = mkF m 0 #[.val (.ref a), .unset, .unset, .unset, .unset, .unset, .unset] [] := by first | (simp [entryFrame, mkF, argsToLocals, Value.category]; done) | rfl
def Q3 (n : Nat) (f : Nat → Int32) (h0 : Heap) (n0 : Nat) (v : Option Value) (h : Heap) (L : List Loc) : Prop := v = some (.long (own_fnv f n)) ∧ Fr n0 L ∧ h = h0
set_option maxRecDepth 65536 in
set_option maxHeartbeats 40000000 in
theorem rm3 (l : Launch) (Z : State) (a0 : Array Value) (hw : ∀ d ∈ tables_1, d.before a0 Z = true) (ws : List Jvm.Cond) (a : Addr) (n : Nat) (z : Int32) (f : Nat → Int32) (h0 : Heap) (n0 : Nat) (Z0 : n0 ≤ h0.size) (V_a : AI Z h0 a .byte n f) (hz : z.toInt = n) :
    MetFree l (⟨"com/example/vhost/vhost/util/Hashes", "fnv1a", "([B)J"⟩ : MethodName) (head1 (Jvm.Cond.code (⟨"com/example/vhost/vhost/util/Hashes", "fnv1a", "([B)J"⟩ : MethodName) prog_25_method_2_code 7 (some .long) :: ws) ({ frames := 0, cells := 0, slots := 0, locals := 0 } : Room)) (fun ar' Ur => ar' = #[(.ref a)] ∧ Z.Warmed39 Ur.vm ∧ Ur.heap = h0) (fun _ _ _ _ _ => True) (fun _ Ur or' Us => ∃ v L, or' = .returned v ∧ Q3 n f h0 n0 v Us.heap L ∧ FrameEnd Ur or' Us L 0 0) := by
  refine MetFree.of_bodySF (plainFor_of_name pn_1) hisR ?_
  intro p e s m args below meth c s₁ Bd hml0 hP hK
  obtain ⟨rfl, hZ, hh⟩ := hP
  have hx := Bd.exec
  have hby := Bd.bytes
  have hlk : meth.locks = false := BodyLoose.notSynchronized Bd
  have hml : c.maxLocals = 7 := hml0
  have hown : s.vm.findClass "com/example/vhost/vhost/util/Hashes" = some m.cls := findClass_of_methodNamed Bd.named
  have hnm := (name_of_methodNamed Bd.named Bd.method).1
  have X0 : Stand p l e ({ frames := 0, cells := 0, slots := 0, locals := 0 } : Room) s m #[(.ref a)] below meth c s₁ [] 0 0 := Stand.of_body Bd
  have e0 : s₁.heap = h0 := by rw [← hh, Bd.state]; rfl
  have N0 := Fr.nil n0
  show Goes p.tables e below s (Q3 n f h0 n0) 0 0 (s₁.setTop (entryFrame m #[(.ref a)] 7))
  refine Goes.of (fun t k => castTop (ef_3 m a) k) ?_
  show Goes _ _ _ _ _ _ _ (s₁.setTop (mkF m 0 #[.val (.ref a), .unset, .unset, .unset, .unset, .unset, .unset] []))
  refine Goes.of (fun t k => X0.ldc2Long hx hown (mvT hZ (hw _ (List.mem_of_getElem? (i := 14) rfl))) (g := (mkF m 0 #[.val (.ref a), .unset, .unset, .unset, .unset, .unset, .unset] [])) rfl (hb hby d3_0) t k) ?_
  show Goes _ _ _ _ _ _ _ (s₁.setTop (mkF m 3 #[.val (.ref a), .unset, .unset, .unset, .unset, .unset, .unset] [(.long (-3750763034362895579 : Int64))]))
  refine Goes.of (fun t k => XS.lstoreN X0.here hx rfl (hb hby d3_3) rfl (l' := #[.val (.ref a), .val (.long (-3750763034362895579 : Int64)), .second, .unset, .unset, .unset, .unset]) rfl k) ?_
  show Goes _ _ _ _ _ _ _ (s₁.setTop (mkF m 4 #[.val (.ref a), .val (.long (-3750763034362895579 : Int64)), .second, .unset, .unset, .unset, .unset] []))
  refine Goes.of (fun t k => XS.aloadN X0.here hx rfl (hb hby d3_4) rfl rfl k) ?_
  show Goes _ _ _ _ _ _ _ (s₁.setTop (mkF m 5 #[.val (.ref a), .val (.long (-3750763034362895579 : Int64)), .second, .unset, .unset, .unset, .unset] [(.ref a)]))
  refine Goes.of (fun t k => XS.astoreN X0.here hx rfl (hb hby d3_5) rfl rfl (l' := #[.val (.ref a), .val (.long (-3750763034362895579 : Int64)), .second, .val (.ref a), .unset, .unset, .unset]) rfl k) ?_
  show Goes _ _ _ _ _ _ _ (s₁.setTop (mkF m 6 #[.val (.ref a), .val (.long (-3750763034362895579 : Int64)), .second, .val (.ref a), .unset, .unset, .unset] []))
  refine Goes.of (fun t k => XS.aloadN X0.here hx rfl (hb hby d3_6) rfl rfl k) ?_
  show Goes _ _ _ _ _ _ _ (s₁.setTop (mkF m 7 #[.val (.ref a), .val (.long (-3750763034362895579 : Int64)), .second, .val (.ref a), .unset, .unset, .unset] [(.ref a)]))
  refine Goes.of (fun t k => lenA X0 hx hZ e0 V_a (z := z) hz (g := (mkF m 7 #[.val (.ref a), .val (.long (-3750763034362895579 : Int64)), .second, .val (.ref a), .unset, .unset, .unset] [(.ref a)])) rfl rfl (hb hby d3_7) t k) ?_
  show Goes _ _ _ _ _ _ _ (s₁.setTop (mkF m 8 #[.val (.ref a), .val (.long (-3750763034362895579 : Int64)), .second, .val (.ref a), .unset, .unset, .unset] [(.int z)]))
  refine Goes.of (fun t k => XS.istore X0.here hx rfl (hb hby d3_8) rfl (l' := #[.val (.ref a), .val (.long (-3750763034362895579 : Int64)), .second, .val (.ref a), .val (.int z), .unset, .unset]) rfl k) ?_
  show Goes _ _ _ _ _ _ _ (s₁.setTop (mkF m 10 #[.val (.ref a), .val (.long (-3750763034362895579 : Int64)), .second, .val (.ref a), .val (.int z), .unset, .unset] []))
  refine Goes.of (fun t k => XS.iconst X0.here hx rfl (hb hby d3_10) k) ?_
  show Goes _ _ _ _ _ _ _ (s₁.setTop (mkF m 11 #[.val (.ref a), .val (.long (-3750763034362895579 : Int64)), .second, .val (.ref a), .val (.int z), .unset, .unset] [(.int (0 : Int32))]))
  refine Goes.of (fun t k => XS.istore X0.here hx rfl (hb hby d3_11) rfl (l' := #[.val (.ref a), .val (.long (-3750763034362895579 : Int64)), .second, .val (.ref a), .val (.int z), .val (.int (0 : Int32)), .unset]) rfl k) ?_
  show Goes _ _ _ _ _ _ _ (s₁.setTop (mkF m 13 #[.val (.ref a), .val (.long (-3750763034362895579 : Int64)), .second, .val (.ref a), .val (.int z), .val (.int (0 : Int32)), .unset] []))
  have hn31 : n < 2147483648 := by obtain ⟨_, _, _, M, _⟩ := V_a; exact M
  have loop : ∀ (k : Nat), ∀ (hash : Int64) (i : Int32) (s6 : Slot) (Tloop : State) (lcloop : List Loc), Stand p l e ({ frames := 0, cells := 0, slots := 0, locals := 0 } : Room) s m #[(.ref a)] below meth c Tloop lcloop 0 0 → Tloop.heap = h0 → Fr n0 lcloop → One s6 → (i.toInt + (k : Nat) = n) → (0 ≤ i.toInt) → (hash = own_fnv f i.toNatClampNeg) → Goes p.tables e below s (Q3 n f h0 n0) 0 0 (Tloop.setTop (mkF m 13 #[.val (.ref a), .val (.long hash), .second, .val (.ref a), .val (.int z), .val (.int i), s6] [])) := by
    intro k
    induction k with
    | zero =>
      intro hash i s6 Tloop lcloop Xloop eloop Nloop hS_s6 hi hnn hh'
      have hlt : ¬ i < z := own_nlt (by omega)
      show Goes _ _ _ _ _ _ _ (Tloop.setTop (mkF m 13 #[.val (.ref a), .val (.long hash), .second, .val (.ref a), .val (.int z), .val (.int i), s6] []))
      refine Goes.of (fun t k => XS.iload Xloop.here hx rfl (hb hby d3_13) rfl k) ?_
      show Goes _ _ _ _ _ _ _ (Tloop.setTop (mkF m 15 #[.val (.ref a), .val (.long hash), .second, .val (.ref a), .val (.int z), .val (.int i), s6] [(.int i)]))
      refine Goes.of (fun t k => XS.iload Xloop.here hx rfl (hb hby d3_15) rfl k) ?_
      show Goes _ _ _ _ _ _ _ (Tloop.setTop (mkF m 17 #[.val (.ref a), .val (.long hash), .second, .val (.ref a), .val (.int z), .val (.int i), s6] [(.int z), (.int i)]))
      refine Goes.of (fun t k => XS.icmpYes Xloop.here hx rfl (pc0 := 17) (pc' := 48) rfl (hb hby d3_17) rfl (flt hlt).2.1 (by decide) (by decide) k) ?_
      show Goes _ _ _ _ _ _ _ (Tloop.setTop (mkF m 48 #[.val (.ref a), .val (.long hash), .second, .val (.ref a), .val (.int z), .val (.int i), s6] []))
      refine Goes.of (fun t k => XS.lloadN Xloop.here hx rfl (hb hby d3_48) rfl k) ?_
      show Goes _ _ _ _ _ _ _ (Tloop.setTop (mkF m 49 #[.val (.ref a), .val (.long hash), .second, .val (.ref a), .val (.int z), .val (.int i), s6] [(.long hash)]))
      exact Goes.fin Xloop hlk (v := some (.long hash)) (fun h => by rw [Bd.returns] at h; cases h) (fun fs hr => retOut Xloop hx Bd.returns (by rfl) (Or.inr (Or.inl ⟨rfl, rfl, _, rfl⟩)) (hb hby d3_49) hr) ⟨congrArg (fun z => some (Value.long z)) (by rw [hh', own_tn (z := i) (n := n) (by omega)]), Nloop, eloop⟩ (by decide) (by decide)
    | succ k ih =>
      intro hash i s6 Tloop lcloop Xloop eloop Nloop hS_s6 hi hnn hh'
      have hlt : i < z := own_ilt (by omega)
      show Goes _ _ _ _ _ _ _ (Tloop.setTop (mkF m 13 #[.val (.ref a), .val (.long hash), .second, .val (.ref a), .val (.int z), .val (.int i), s6] []))
      refine Goes.of (fun t k => XS.iload Xloop.here hx rfl (hb hby d3_13) rfl k) ?_
      show Goes _ _ _ _ _ _ _ (Tloop.setTop (mkF m 15 #[.val (.ref a), .val (.long hash), .second, .val (.ref a), .val (.int z), .val (.int i), s6] [(.int i)]))
      refine Goes.of (fun t k => XS.iload Xloop.here hx rfl (hb hby d3_15) rfl k) ?_
      show Goes _ _ _ _ _ _ _ (Tloop.setTop (mkF m 17 #[.val (.ref a), .val (.long hash), .second, .val (.ref a), .val (.int z), .val (.int i), s6] [(.int z), (.int i)]))
      refine Goes.of (fun t k => XS.icmpNo Xloop.here hx rfl (hb hby d3_17) rfl (tlt hlt).2.1 k) ?_
      show Goes _ _ _ _ _ _ _ (Tloop.setTop (mkF m 20 #[.val (.ref a), .val (.long hash), .second, .val (.ref a), .val (.int z), .val (.int i), s6] []))
      refine Goes.of (fun t k => XS.aloadN Xloop.here hx rfl (hb hby d3_20) rfl rfl k) ?_
      show Goes _ _ _ _ _ _ _ (Tloop.setTop (mkF m 21 #[.val (.ref a), .val (.long hash), .second, .val (.ref a), .val (.int z), .val (.int i), s6] [(.ref a)]))
      refine Goes.of (fun t k => XS.iload Xloop.here hx rfl (hb hby d3_21) rfl k) ?_
      show Goes _ _ _ _ _ _ _ (Tloop.setTop (mkF m 23 #[.val (.ref a), .val (.long hash), .second, .val (.ref a), .val (.int z), .val (.int i), s6] [(.int i), (.ref a)]))
      refine Goes.of (fun t k => ldB Xloop hx hZ eloop V_a (j := i) (i := i.toNatClampNeg) (v := (f i.toNatClampNeg)) (own_nn (by omega)) rfl (own_ltn (by omega) (by omega)) rfl (g := (mkF m 23 #[.val (.ref a), .val (.long hash), .second, .val (.ref a), .val (.int z), .val (.int i), s6] [(.int i), (.ref a)])) rfl rfl (hb hby d3_23) t k) ?_
      show Goes _ _ _ _ _ _ _ (Tloop.setTop (mkF m 24 #[.val (.ref a), .val (.long hash), .second, .val (.ref a), .val (.int z), .val (.int i), s6] [(.int (f i.toNatClampNeg))]))
      refine Goes.of (fun t k => XS.istoreS Xloop.here hx rfl (hb hby d3_24) rfl rfl hS_s6 k) ?_
      show Goes _ _ _ _ _ _ _ (Tloop.setTop (mkF m 26 #[.val (.ref a), .val (.long hash), .second, .val (.ref a), .val (.int z), .val (.int i), .val (.int (f i.toNatClampNeg))] []))
      refine Goes.of (fun t k => XS.lloadN Xloop.here hx rfl (hb hby d3_26) rfl k) ?_
      show Goes _ _ _ _ _ _ _ (Tloop.setTop (mkF m 27 #[.val (.ref a), .val (.long hash), .second, .val (.ref a), .val (.int z), .val (.int i), .val (.int (f i.toNatClampNeg))] [(.long hash)]))
      refine Goes.of (fun t k => XS.iload Xloop.here hx rfl (hb hby d3_27) rfl k) ?_
      show Goes _ _ _ _ _ _ _ (Tloop.setTop (mkF m 29 #[.val (.ref a), .val (.long hash), .second, .val (.ref a), .val (.int z), .val (.int i), .val (.int (f i.toNatClampNeg))] [(.int (f i.toNatClampNeg)), (.long hash)]))
      refine Goes.of (fun t k => XS.sipush Xloop.here hx rfl (hb hby d3_29) k) ?_
      show Goes _ _ _ _ _ _ _ (Tloop.setTop (mkF m 32 #[.val (.ref a), .val (.long hash), .second, .val (.ref a), .val (.int z), .val (.int i), .val (.int (f i.toNatClampNeg))] [(.int (255 : Int32)), (.int (f i.toNatClampNeg)), (.long hash)]))
      refine Goes.of (fun t k => XS.iand Xloop.here hx rfl (hb hby d3_32) rfl k) ?_
      show Goes _ _ _ _ _ _ _ (Tloop.setTop (mkF m 33 #[.val (.ref a), .val (.long hash), .second, .val (.ref a), .val (.int z), .val (.int i), .val (.int (f i.toNatClampNeg))] [(.int ((f i.toNatClampNeg) &&& (255 : Int32))), (.long hash)]))
      refine Goes.of (fun t k => XS.i2l Xloop.here hx rfl (hb hby d3_33) rfl k) ?_
      show Goes _ _ _ _ _ _ _ (Tloop.setTop (mkF m 34 #[.val (.ref a), .val (.long hash), .second, .val (.ref a), .val (.int z), .val (.int i), .val (.int (f i.toNatClampNeg))] [(.long (((f i.toNatClampNeg) &&& (255 : Int32)).toInt64)), (.long hash)]))
      refine Goes.of (fun t k => XS.lxor Xloop.here hx rfl (hb hby d3_34) rfl k) ?_
      show Goes _ _ _ _ _ _ _ (Tloop.setTop (mkF m 35 #[.val (.ref a), .val (.long hash), .second, .val (.ref a), .val (.int z), .val (.int i), .val (.int (f i.toNatClampNeg))] [(.long (hash ^^^ (((f i.toNatClampNeg) &&& (255 : Int32)).toInt64)))]))
      refine Goes.of (fun t k => XS.lstoreN Xloop.here hx rfl (hb hby d3_35) rfl (l' := #[.val (.ref a), .val (.long (hash ^^^ (((f i.toNatClampNeg) &&& (255 : Int32)).toInt64))), .second, .val (.ref a), .val (.int z), .val (.int i), .val (.int (f i.toNatClampNeg))]) rfl k) ?_
      show Goes _ _ _ _ _ _ _ (Tloop.setTop (mkF m 36 #[.val (.ref a), .val (.long (hash ^^^ (((f i.toNatClampNeg) &&& (255 : Int32)).toInt64))), .second, .val (.ref a), .val (.int z), .val (.int i), .val (.int (f i.toNatClampNeg))] []))
      refine Goes.of (fun t k => XS.lloadN Xloop.here hx rfl (hb hby d3_36) rfl k) ?_
      show Goes _ _ _ _ _ _ _ (Tloop.setTop (mkF m 37 #[.val (.ref a), .val (.long (hash ^^^ (((f i.toNatClampNeg) &&& (255 : Int32)).toInt64))), .second, .val (.ref a), .val (.int z), .val (.int i), .val (.int (f i.toNatClampNeg))] [(.long (hash ^^^ (((f i.toNatClampNeg) &&& (255 : Int32)).toInt64)))]))
      refine Goes.of (fun t k => Xloop.ldc2Long hx hown (mvT hZ (hw _ (List.mem_of_getElem? (i := 15) rfl))) (g := (mkF m 37 #[.val (.ref a), .val (.long (hash ^^^ (((f i.toNatClampNeg) &&& (255 : Int32)).toInt64))), .second, .val (.ref a), .val (.int z), .val (.int i), .val (.int (f i.toNatClampNeg))] [(.long (hash ^^^ (((f i.toNatClampNeg) &&& (255 : Int32)).toInt64)))])) rfl (hb hby d3_37) t k) ?_
      show Goes _ _ _ _ _ _ _ (Tloop.setTop (mkF m 40 #[.val (.ref a), .val (.long (hash ^^^ (((f i.toNatClampNeg) &&& (255 : Int32)).toInt64))), .second, .val (.ref a), .val (.int z), .val (.int i), .val (.int (f i.toNatClampNeg))] [(.long (1099511628211 : Int64)), (.long (hash ^^^ (((f i.toNatClampNeg) &&& (255 : Int32)).toInt64)))]))
      refine Goes.of (fun t k => XS.lmul Xloop.here hx rfl (hb hby d3_40) rfl k) ?_
      show Goes _ _ _ _ _ _ _ (Tloop.setTop (mkF m 41 #[.val (.ref a), .val (.long (hash ^^^ (((f i.toNatClampNeg) &&& (255 : Int32)).toInt64))), .second, .val (.ref a), .val (.int z), .val (.int i), .val (.int (f i.toNatClampNeg))] [(.long ((hash ^^^ (((f i.toNatClampNeg) &&& (255 : Int32)).toInt64)) * (1099511628211 : Int64)))]))
      refine Goes.of (fun t k => XS.lstoreN Xloop.here hx rfl (hb hby d3_41) rfl (l' := #[.val (.ref a), .val (.long ((hash ^^^ (((f i.toNatClampNeg) &&& (255 : Int32)).toInt64)) * (1099511628211 : Int64))), .second, .val (.ref a), .val (.int z), .val (.int i), .val (.int (f i.toNatClampNeg))]) rfl k) ?_
      show Goes _ _ _ _ _ _ _ (Tloop.setTop (mkF m 42 #[.val (.ref a), .val (.long ((hash ^^^ (((f i.toNatClampNeg) &&& (255 : Int32)).toInt64)) * (1099511628211 : Int64))), .second, .val (.ref a), .val (.int z), .val (.int i), .val (.int (f i.toNatClampNeg))] []))
      refine Goes.of (fun t k => XS.iinc Xloop.here hx rfl (hb hby d3_42) rfl (l' := #[.val (.ref a), .val (.long ((hash ^^^ (((f i.toNatClampNeg) &&& (255 : Int32)).toInt64)) * (1099511628211 : Int64))), .second, .val (.ref a), .val (.int z), .val (.int (i + (1 : Int32))), .val (.int (f i.toNatClampNeg))]) rfl k) ?_
      show Goes _ _ _ _ _ _ _ (Tloop.setTop (mkF m 45 #[.val (.ref a), .val (.long ((hash ^^^ (((f i.toNatClampNeg) &&& (255 : Int32)).toInt64)) * (1099511628211 : Int64))), .second, .val (.ref a), .val (.int z), .val (.int (i + (1 : Int32))), .val (.int (f i.toNatClampNeg))] []))
      refine Goes.of (fun t k => XS.goto Xloop.here hx rfl (pc0 := 45) (pc' := 13) rfl (hb hby d3_45) (by decide) (by decide) k) ?_
      show Goes _ _ _ _ _ _ _ (Tloop.setTop (mkF m 13 #[.val (.ref a), .val (.long ((hash ^^^ (((f i.toNatClampNeg) &&& (255 : Int32)).toInt64)) * (1099511628211 : Int64))), .second, .val (.ref a), .val (.int z), .val (.int (i + (1 : Int32))), .val (.int (f i.toNatClampNeg))] []))
      exact ih ((hash ^^^ (((f i.toNatClampNeg) &&& (255 : Int32)).toInt64)) * (1099511628211 : Int64)) (i + (1 : Int32)) (.val (.int (f i.toNatClampNeg))) _ _ Xloop eloop Nloop (One.val rfl) (by rw [own_inc (by omega)]; omega) (by rw [own_inc (by omega)]; omega) (by rw [own_tn (z := i + 1) (n := i.toNatClampNeg + 1) (by rw [own_inc (by omega)]; have := nat_of (own_nn hnn); omega), hh']; rfl)
  exact loop n (-3750763034362895579 : Int64) (0 : Int32) (.unset) _ _ X0 e0 N0 One.u (by rw [show (0 : Int32).toInt = 0 from rfl]; omega) (by decide) rfl
theorem own_7 (u : Int32) : 0 ≤ (u &&& (7 : Int32)).toInt ∧ (u &&& (7 : Int32)).toInt ≤ 7 := c_and u 7 (by decide)
theorem own_low (w : Int64) : ((w.toInt32.toInt8.toInt32.toInt8.toInt32.toInt8.toInt32 &&& (255 : Int32)).toInt64) = w &&& (255 : Int64) := by
  apply Int64.toInt_inj.mp
  rw [c_i2l, c_mask _ 255 8 (by decide) (by decide), c_maskL w 255 8 (by decide) (by decide)]
  have a := c_l2i w
  have b1 := c_i2b w.toInt32
  have b2 := c_i2b w.toInt32.toInt8.toInt32
  have b3 := c_i2b w.toInt32.toInt8.toInt32.toInt8.toInt32
  rw [show ((2 ^ 8 : Nat) : Int) = 256 by decide]
  omega
theorem own_last (p : Int64) (zz : Int32) (h0 : 0 ≤ zz.toInt) : own_fnv (own_by p) (zz + 1).toNatClampNeg = (own_fnv (own_by p) zz.toNatClampNeg ^^^ (((p.toUInt64 >>> (((8 : Int32) * zz) &&& 0x3f).toInt64.toUInt64).toInt64) &&& (255 : Int64))) * (1099511628211 : Int64) ∨ 7 < zz.toInt := by
  by_cases h7 : 7 < zz.toInt
  · exact Or.inr h7
  · left
    have e : (zz + 1).toNatClampNeg = zz.toNatClampNeg + 1 := own_tn (by rw [own_inc (by omega)]; have := nat_of (own_nn h0); omega)
    have e2 : zz.toNatClampNeg.toInt32 = zz := (back32 (own_nn h0)).1
    rw [e]
    show (own_fnv (own_by p) zz.toNatClampNeg ^^^ ((own_by p zz.toNatClampNeg &&& (255 : Int32)).toInt64)) * (1099511628211 : Int64) = _
    rw [own_by, e2, f2, own_low]
theorem pd_1 : parseMethodDescriptor "(JI)[B" = some ⟨[.long, .int], some (.array .byte)⟩ := by decide +kernel
theorem pd_2 : parseMethodDescriptor "([B)J" = some ⟨[(.array .byte)], some .long⟩ := by decide +kernel
theorem ef_0 (m : MethodId) (u0 : Int64) (u1 : Int32) : entryFrame m #[(.long u0), (.int u1)] maxLocals = mkF m 0 #[.val (.long u0), .second, .val (.int u1), .unset, .unset, .unset, .unset, .unset, .unset, .unset, .unset, .unset, .unset, .unset, .unset, .unset, .unset, .unset] [] := by first | (simp [entryFrame, mkF, argsToLocals, Value.category, maxLocals]; done) | rfl
def Q0 (n0 : Nat) (v : Option Value) (h : Heap) (L : List Loc) : Prop := v = some (.int 1) ∧ Fr n0 L
set_option maxRecDepth 65536 in
set_option maxHeartbeats 40000000 in
theorem rm0 (l : Launch) (Z : State) (a0 : Array Value) (hw : ∀ d ∈ tables_1, d.before a0 Z = true) (ws : List Jvm.Cond) (u0 : Int64) (u1 : Int32) (h0 : Heap) (n0 : Nat) (Z0 : n0 ≤ h0.size) :
    MetFree l x (head1 (Jvm.Cond.code x code maxLocals ret :: ws) room_1) (fun ar' Ur => ar' = #[(.long u0), (.int u1)] ∧ Z.Warmed39 Ur.vm ∧ Ur.heap = h0) (fun _ _ _ _ _ => True) (fun _ Ur or' Us => ∃ v L, or' = .returned v ∧ Q0 n0 v Us.heap L ∧ FrameEnd Ur or' Us L room_1.cells room_1.slots) := by
  refine MetFree.of_bodySF (plainFor_of_name pn_0) hisR ?_
  intro p e s m args below meth c s₁ Bd hml0 hP hK
  obtain ⟨rfl, hZ, hh⟩ := hP
  have hx := Bd.exec
  have hby := Bd.bytes
  have hlk : meth.locks = false := BodyLoose.notSynchronized Bd
  have hml : c.maxLocals = 18 := hml0
  have hown : s.vm.findClass "com/example/vhost/vhost/util/HashesFnv1aPinLaw" = some m.cls := findClass_of_methodNamed Bd.named
  have hnm := (name_of_methodNamed Bd.named Bd.method).1
  have X0 : Stand p l e room_1 s m #[(.long u0), (.int u1)] below meth c s₁ [] 0 0 := Stand.of_body Bd
  have e0 : s₁.heap = h0 := by rw [← hh, Bd.state]; rfl
  have N0 := Fr.nil n0
  show Goes p.tables e below s (Q0 n0) room_1.cells room_1.slots (s₁.setTop (entryFrame m #[(.long u0), (.int u1)] maxLocals))
  refine Goes.of (fun t k => castTop (ef_0 m u0 u1) k) ?_
  show Goes _ _ _ _ _ _ _ (s₁.setTop (mkF m 0 #[.val (.long u0), .second, .val (.int u1), .unset, .unset, .unset, .unset, .unset, .unset, .unset, .unset, .unset, .unset, .unset, .unset, .unset, .unset, .unset] []))
  refine Goes.of (fun t k => XS.iloadN X0.here hx rfl (hb hby at_0) rfl k) ?_
  show Goes _ _ _ _ _ _ _ (s₁.setTop (mkF m 1 #[.val (.long u0), .second, .val (.int u1), .unset, .unset, .unset, .unset, .unset, .unset, .unset, .unset, .unset, .unset, .unset, .unset, .unset, .unset, .unset] [(.int u1)]))
  refine Goes.of (fun t k => XS.bipush X0.here hx rfl (hb hby at_1) k) ?_
  show Goes _ _ _ _ _ _ _ (s₁.setTop (mkF m 3 #[.val (.long u0), .second, .val (.int u1), .unset, .unset, .unset, .unset, .unset, .unset, .unset, .unset, .unset, .unset, .unset, .unset, .unset, .unset, .unset] [(.int (7 : Int32)), (.int u1)]))
  refine Goes.of (fun t k => XS.iand X0.here hx rfl (hb hby at_3) rfl k) ?_
  show Goes _ _ _ _ _ _ _ (s₁.setTop (mkF m 4 #[.val (.long u0), .second, .val (.int u1), .unset, .unset, .unset, .unset, .unset, .unset, .unset, .unset, .unset, .unset, .unset, .unset, .unset, .unset, .unset] [(.int (u1 &&& (7 : Int32)))]))
  refine Goes.of (fun t k => XS.istoreN X0.here hx rfl (hb hby at_4) rfl (l' := #[.val (.long u0), .second, .val (.int u1), .val (.int (u1 &&& (7 : Int32))), .unset, .unset, .unset, .unset, .unset, .unset, .unset, .unset, .unset, .unset, .unset, .unset, .unset, .unset]) rfl k) ?_
  show Goes _ _ _ _ _ _ _ (s₁.setTop (mkF m 5 #[.val (.long u0), .second, .val (.int u1), .val (.int (u1 &&& (7 : Int32))), .unset, .unset, .unset, .unset, .unset, .unset, .unset, .unset, .unset, .unset, .unset, .unset, .unset, .unset] []))
  obtain ⟨zz, hy_zz⟩ : ∃ z, z = (u1 &&& (7 : Int32)) := ⟨_, rfl⟩
  rw [← hy_zz]
  show Goes _ _ _ _ _ _ _ (s₁.setTop (mkF m 5 #[.val (.long u0), .second, .val (.int u1), .val (.int zz), .unset, .unset, .unset, .unset, .unset, .unset, .unset, .unset, .unset, .unset, .unset, .unset, .unset, .unset] []))
  have h7 := own_7 u1
  rw [← hy_zz] at h7
  refine Goes.of (fun t k => XS.iconst X0.here hx rfl (hb hby at_5) k) ?_
  show Goes _ _ _ _ _ _ _ (s₁.setTop (mkF m 6 #[.val (.long u0), .second, .val (.int u1), .val (.int zz), .unset, .unset, .unset, .unset, .unset, .unset, .unset, .unset, .unset, .unset, .unset, .unset, .unset, .unset] [(.int (0 : Int32))]))
  obtain ⟨T82, h82, k82, X82, e82, E82, A82, Ea82, st82⟩ := newPE X0 hx hZ (hw _ (List.mem_of_getElem? (i := 0) rfl)) e0 (g := (mkF m 6 #[.val (.long u0), .second, .val (.int u1), .val (.int zz), .unset, .unset, .unset, .unset, .unset, .unset, .unset, .unset, .unset, .unset, .unset, .unset, .unset, .unset] [(.int (0 : Int32))])) rfl (hb hby at_6) rfl (by decide) (cap := 0) (by decide) (by decide) (by decide) (by decide) (ad := "[B") (by decide)
  obtain ⟨b82, g82⟩ : ∃ z, z = h0.size := ⟨_, rfl⟩
  rw [← g82] at A82 Ea82 st82
  have V82 : AI Z h82 b82 .byte 0 (fun _ => 0) := AI.new rfl rfl A82 (by decide) (by decide)
  have g_b82 : n0 ≤ b82 := Nat.le_trans Z0 (Nat.le_of_eq g82.symm)
  have Z82 : n0 ≤ h82.size := Nat.le_trans Z0 E82.1
  refine Goes.of st82 ?_
  show Goes _ _ _ _ _ _ _ (T82.setTop (mkF m 8 #[.val (.long u0), .second, .val (.int u1), .val (.int zz), .unset, .unset, .unset, .unset, .unset, .unset, .unset, .unset, .unset, .unset, .unset, .unset, .unset, .unset] [(.ref b82)]))
  refine Goes.of (fun t k => XS.astore X82.here hx rfl (hb hby at_8) rfl rfl (l' := #[.val (.long u0), .second, .val (.int u1), .val (.int zz), .val (.ref b82), .unset, .unset, .unset, .unset, .unset, .unset, .unset, .unset, .unset, .unset, .unset, .unset, .unset]) rfl k) ?_
  show Goes _ _ _ _ _ _ _ (T82.setTop (mkF m 10 #[.val (.long u0), .second, .val (.int u1), .val (.int zz), .val (.ref b82), .unset, .unset, .unset, .unset, .unset, .unset, .unset, .unset, .unset, .unset, .unset, .unset, .unset] []))
  refine Goes.of (fun t k => XS.lloadN X82.here hx rfl (hb hby at_10) rfl k) ?_
  show Goes _ _ _ _ _ _ _ (T82.setTop (mkF m 11 #[.val (.long u0), .second, .val (.int u1), .val (.int zz), .val (.ref b82), .unset, .unset, .unset, .unset, .unset, .unset, .unset, .unset, .unset, .unset, .unset, .unset, .unset] [(.long u0)]))
  refine Goes.of (fun t k => XS.iloadN X82.here hx rfl (hb hby at_11) rfl k) ?_
  show Goes _ _ _ _ _ _ _ (T82.setTop (mkF m 12 #[.val (.long u0), .second, .val (.int u1), .val (.int zz), .val (.ref b82), .unset, .unset, .unset, .unset, .unset, .unset, .unset, .unset, .unset, .unset, .unset, .unset, .unset] [(.int zz), (.long u0)]))
  obtain ⟨_, _, ⟨T83, L83, k83, n83⟩, -, X83, ⟨Lc83, hQ83, l83, y83, z83⟩, st83⟩ := Jvm.LawKit.callS X82 hx (y := (⟨"com/example/vhost/vhost/util/HashesFnv1aPinLaw", "bytesOf", "(JI)[B"⟩ : MethodName)) hown (mvT hZ (hw _ (List.mem_of_getElem? (i := 1) rfl))) (mvT hZ (hw _ (List.mem_of_getElem? (i := 2) rfl))) (mvT hZ (hw _ (List.mem_of_getElem? (i := 3) rfl))) (mvT hZ (hw _ (List.mem_of_getElem? (i := 4) rfl))) (by decide) (backOf (W := 0) (rm1 l Z a0 hw [] u0 zz  h82 n0 Z82 (own_c8 h7.1 (by omega))) hZ (hw _ (List.mem_of_getElem? (i := 4) rfl)) (hw _ (List.mem_of_getElem? (i := 3) rfl)) (by decide) (by decide)) (g := (mkF m 12 #[.val (.long u0), .second, .val (.int u1), .val (.int zz), .val (.ref b82), .unset, .unset, .unset, .unset, .unset, .unset, .unset, .unset, .unset, .unset, .unset, .unset, .unset] [(.int zz), (.long u0)])) rfl (by rw [hml]; rfl) (argsL := [(.long u0), (.int zz)]) (rest := []) (lenOf pd_1 rfl) rfl (by show 2 * 0 + _ ≤ _; exact Nat.le_of_eq rfl) (hb hby at_12) (fun _ _ => ⟨rfl, e82, (by decide : 1 + 1 ≤ _), (by decide : 0 + 8 ≤ _)⟩)
  dsimp only [Pt.U, Pt.locs, Pt.cells, Pt.slots] at X83 l83 y83 z83 st83 hQ83
  subst l83 y83 z83
  obtain ⟨r83, rfl, N83q, K83, sz83, V83⟩ := hQ83
  have ne_b82_r83 : b82 ≠ r83 := Nat.ne_of_lt (Nat.lt_of_lt_of_le V82.lt sz83)
  have F84 := V82.keep K83 nin0
  have Z83 : n0 ≤ T83.heap.size := Nat.le_trans Z82 K83.1
  have N83 := Fr.app N0 N83q
  refine Goes.of st83 ?_
  show Goes _ _ _ _ _ _ _ (T83.setTop (mkF m 15 #[.val (.long u0), .second, .val (.int u1), .val (.int zz), .val (.ref b82), .unset, .unset, .unset, .unset, .unset, .unset, .unset, .unset, .unset, .unset, .unset, .unset, .unset] [(.ref r83)]))
  refine Goes.of (fun t k => XS.astore X83.here hx rfl (hb hby at_15) rfl rfl (l' := #[.val (.long u0), .second, .val (.int u1), .val (.int zz), .val (.ref b82), .val (.ref r83), .unset, .unset, .unset, .unset, .unset, .unset, .unset, .unset, .unset, .unset, .unset, .unset]) rfl k) ?_
  show Goes _ _ _ _ _ _ _ (T83.setTop (mkF m 17 #[.val (.long u0), .second, .val (.int u1), .val (.int zz), .val (.ref b82), .val (.ref r83), .unset, .unset, .unset, .unset, .unset, .unset, .unset, .unset, .unset, .unset, .unset, .unset] []))
  refine Goes.of (fun t k => XS.lloadN X83.here hx rfl (hb hby at_17) rfl k) ?_
  show Goes _ _ _ _ _ _ _ (T83.setTop (mkF m 18 #[.val (.long u0), .second, .val (.int u1), .val (.int zz), .val (.ref b82), .val (.ref r83), .unset, .unset, .unset, .unset, .unset, .unset, .unset, .unset, .unset, .unset, .unset, .unset] [(.long u0)]))
  refine Goes.of (fun t k => XS.iloadN X83.here hx rfl (hb hby at_18) rfl k) ?_
  show Goes _ _ _ _ _ _ _ (T83.setTop (mkF m 19 #[.val (.long u0), .second, .val (.int u1), .val (.int zz), .val (.ref b82), .val (.ref r83), .unset, .unset, .unset, .unset, .unset, .unset, .unset, .unset, .unset, .unset, .unset, .unset] [(.int zz), (.long u0)]))
  refine Goes.of (fun t k => XS.iconst X83.here hx rfl (hb hby at_19) k) ?_
  show Goes _ _ _ _ _ _ _ (T83.setTop (mkF m 20 #[.val (.long u0), .second, .val (.int u1), .val (.int zz), .val (.ref b82), .val (.ref r83), .unset, .unset, .unset, .unset, .unset, .unset, .unset, .unset, .unset, .unset, .unset, .unset] [(.int (1 : Int32)), (.int zz), (.long u0)]))
  refine Goes.of (fun t k => XS.iadd X83.here hx rfl (hb hby at_20) rfl k) ?_
  show Goes _ _ _ _ _ _ _ (T83.setTop (mkF m 21 #[.val (.long u0), .second, .val (.int u1), .val (.int zz), .val (.ref b82), .val (.ref r83), .unset, .unset, .unset, .unset, .unset, .unset, .unset, .unset, .unset, .unset, .unset, .unset] [(.int (zz + (1 : Int32))), (.long u0)]))
  obtain ⟨_, _, ⟨T85, L85, k85, n85⟩, -, X85, ⟨Lc85, hQ85, l85, y85, z85⟩, st85⟩ := Jvm.LawKit.callS X83 hx (y := (⟨"com/example/vhost/vhost/util/HashesFnv1aPinLaw", "bytesOf", "(JI)[B"⟩ : MethodName)) hown (mvT hZ (hw _ (List.mem_of_getElem? (i := 1) rfl))) (mvT hZ (hw _ (List.mem_of_getElem? (i := 2) rfl))) (mvT hZ (hw _ (List.mem_of_getElem? (i := 3) rfl))) (mvT hZ (hw _ (List.mem_of_getElem? (i := 4) rfl))) (by decide) (backOf (W := 0) (rm1 l Z a0 hw [] u0 (zz + (1 : Int32))  T83.heap n0 Z83 (own_c8 (by rw [own_inc (by omega)]; omega) (by rw [own_inc (by omega)]; omega))) hZ (hw _ (List.mem_of_getElem? (i := 4) rfl)) (hw _ (List.mem_of_getElem? (i := 3) rfl)) (by decide) (by decide)) (g := (mkF m 21 #[.val (.long u0), .second, .val (.int u1), .val (.int zz), .val (.ref b82), .val (.ref r83), .unset, .unset, .unset, .unset, .unset, .unset, .unset, .unset, .unset, .unset, .unset, .unset] [(.int (zz + (1 : Int32))), (.long u0)])) rfl (by rw [hml]; rfl) (argsL := [(.long u0), (.int (zz + (1 : Int32)))]) (rest := []) (lenOf pd_1 rfl) rfl (by show 2 * 0 + _ ≤ _; exact Nat.le_of_eq rfl) (hb hby at_21) (fun _ _ => ⟨rfl, rfl, (by decide : 2 + 1 ≤ _), (by decide : 8 + 8 ≤ _)⟩)
  dsimp only [Pt.U, Pt.locs, Pt.cells, Pt.slots] at X85 l85 y85 z85 st85 hQ85
  subst l85 y85 z85
  obtain ⟨r85, rfl, N85q, K85, sz85, V85⟩ := hQ85
  have ne_b82_r85 : b82 ≠ r85 := Nat.ne_of_lt (Nat.lt_of_lt_of_le F84.lt sz85)
  have ne_r83_r85 : r83 ≠ r85 := Nat.ne_of_lt (Nat.lt_of_lt_of_le V83.lt sz85)
  have F86 := F84.keep K85 nin0
  have F87 := V83.keep K85 nin0
  have Z85 : n0 ≤ T85.heap.size := Nat.le_trans Z83 K85.1
  have N85 := Fr.app N83 N85q
  refine Goes.of st85 ?_
  show Goes _ _ _ _ _ _ _ (T85.setTop (mkF m 24 #[.val (.long u0), .second, .val (.int u1), .val (.int zz), .val (.ref b82), .val (.ref r83), .unset, .unset, .unset, .unset, .unset, .unset, .unset, .unset, .unset, .unset, .unset, .unset] [(.ref r85)]))
  refine Goes.of (fun t k => XS.astore X85.here hx rfl (hb hby at_24) rfl rfl (l' := #[.val (.long u0), .second, .val (.int u1), .val (.int zz), .val (.ref b82), .val (.ref r83), .val (.ref r85), .unset, .unset, .unset, .unset, .unset, .unset, .unset, .unset, .unset, .unset, .unset]) rfl k) ?_
  show Goes _ _ _ _ _ _ _ (T85.setTop (mkF m 26 #[.val (.long u0), .second, .val (.int u1), .val (.int zz), .val (.ref b82), .val (.ref r83), .val (.ref r85), .unset, .unset, .unset, .unset, .unset, .unset, .unset, .unset, .unset, .unset, .unset] []))
  refine Goes.of (fun t k => X85.ldc2Long hx hown (mvT hZ (hw _ (List.mem_of_getElem? (i := 8) rfl))) (g := (mkF m 26 #[.val (.long u0), .second, .val (.int u1), .val (.int zz), .val (.ref b82), .val (.ref r83), .val (.ref r85), .unset, .unset, .unset, .unset, .unset, .unset, .unset, .unset, .unset, .unset, .unset] [])) rfl (hb hby at_26) t k) ?_
  show Goes _ _ _ _ _ _ _ (T85.setTop (mkF m 29 #[.val (.long u0), .second, .val (.int u1), .val (.int zz), .val (.ref b82), .val (.ref r83), .val (.ref r85), .unset, .unset, .unset, .unset, .unset, .unset, .unset, .unset, .unset, .unset, .unset] [(.long (1099511628211 : Int64))]))
  refine Goes.of (fun t k => XS.lstore X85.here hx rfl (hb hby at_29) rfl (l' := #[.val (.long u0), .second, .val (.int u1), .val (.int zz), .val (.ref b82), .val (.ref r83), .val (.ref r85), .val (.long (1099511628211 : Int64)), .second, .unset, .unset, .unset, .unset, .unset, .unset, .unset, .unset, .unset]) rfl k) ?_
  show Goes _ _ _ _ _ _ _ (T85.setTop (mkF m 31 #[.val (.long u0), .second, .val (.int u1), .val (.int zz), .val (.ref b82), .val (.ref r83), .val (.ref r85), .val (.long (1099511628211 : Int64)), .second, .unset, .unset, .unset, .unset, .unset, .unset, .unset, .unset, .unset] []))
  refine Goes.of (fun t k => X85.ldc2Long hx hown (mvT hZ (hw _ (List.mem_of_getElem? (i := 9) rfl))) (g := (mkF m 31 #[.val (.long u0), .second, .val (.int u1), .val (.int zz), .val (.ref b82), .val (.ref r83), .val (.ref r85), .val (.long (1099511628211 : Int64)), .second, .unset, .unset, .unset, .unset, .unset, .unset, .unset, .unset, .unset] [])) rfl (hb hby at_31) t k) ?_
  show Goes _ _ _ _ _ _ _ (T85.setTop (mkF m 34 #[.val (.long u0), .second, .val (.int u1), .val (.int zz), .val (.ref b82), .val (.ref r83), .val (.ref r85), .val (.long (1099511628211 : Int64)), .second, .unset, .unset, .unset, .unset, .unset, .unset, .unset, .unset, .unset] [(.long (-3750763034362895579 : Int64))]))
  refine Goes.of (fun t k => XS.lstore X85.here hx rfl (hb hby at_34) rfl (l' := #[.val (.long u0), .second, .val (.int u1), .val (.int zz), .val (.ref b82), .val (.ref r83), .val (.ref r85), .val (.long (1099511628211 : Int64)), .second, .val (.long (-3750763034362895579 : Int64)), .second, .unset, .unset, .unset, .unset, .unset, .unset, .unset]) rfl k) ?_
  show Goes _ _ _ _ _ _ _ (T85.setTop (mkF m 36 #[.val (.long u0), .second, .val (.int u1), .val (.int zz), .val (.ref b82), .val (.ref r83), .val (.ref r85), .val (.long (1099511628211 : Int64)), .second, .val (.long (-3750763034362895579 : Int64)), .second, .unset, .unset, .unset, .unset, .unset, .unset, .unset] []))
  refine Goes.of (fun t k => XS.aload X85.here hx rfl (hb hby at_36) rfl rfl k) ?_
  show Goes _ _ _ _ _ _ _ (T85.setTop (mkF m 38 #[.val (.long u0), .second, .val (.int u1), .val (.int zz), .val (.ref b82), .val (.ref r83), .val (.ref r85), .val (.long (1099511628211 : Int64)), .second, .val (.long (-3750763034362895579 : Int64)), .second, .unset, .unset, .unset, .unset, .unset, .unset, .unset] [(.ref b82)]))
  obtain ⟨_, _, ⟨T88, L88, k88, n88⟩, -, X88, ⟨Lc88, hQ88, l88, y88, z88⟩, st88⟩ := Jvm.LawKit.callS X85 hx (y := (⟨"com/example/vhost/vhost/util/Hashes", "fnv1a", "([B)J"⟩ : MethodName)) hown (mvT hZ (hw _ (List.mem_of_getElem? (i := 10) rfl))) (mvT hZ (hw _ (List.mem_of_getElem? (i := 11) rfl))) (mvT hZ (hw _ (List.mem_of_getElem? (i := 12) rfl))) (mvT hZ (hw _ (List.mem_of_getElem? (i := 13) rfl))) (by decide) (backOf (W := 0) (rm3 l Z a0 hw [] b82 (0) (0 : Int32) (fun _ => 0) T85.heap n0 Z85 F86 (by decide)) hZ (hw _ (List.mem_of_getElem? (i := 13) rfl)) (hw _ (List.mem_of_getElem? (i := 12) rfl)) (by decide) (by decide)) (g := (mkF m 38 #[.val (.long u0), .second, .val (.int u1), .val (.int zz), .val (.ref b82), .val (.ref r83), .val (.ref r85), .val (.long (1099511628211 : Int64)), .second, .val (.long (-3750763034362895579 : Int64)), .second, .unset, .unset, .unset, .unset, .unset, .unset, .unset] [(.ref b82)])) rfl (by rw [hml]; rfl) (argsL := [(.ref b82)]) (rest := []) (lenOf pd_2 rfl) rfl (by show 2 * 0 + _ ≤ _; exact Nat.le_of_eq rfl) (hb hby at_38) (fun _ _ => ⟨rfl, rfl, (by decide : 3 + 0 ≤ _), (by decide : 16 + 0 ≤ _)⟩)
  dsimp only [Pt.U, Pt.locs, Pt.cells, Pt.slots] at X88 l88 y88 z88 st88 hQ88
  subst l88 y88 z88
  obtain ⟨rfl, N88q, e88⟩ := hQ88
  have N88 := Fr.app N85 N88q
  refine Goes.of st88 ?_
  show Goes _ _ _ _ _ _ _ (T88.setTop (mkF m 41 #[.val (.long u0), .second, .val (.int u1), .val (.int zz), .val (.ref b82), .val (.ref r83), .val (.ref r85), .val (.long (1099511628211 : Int64)), .second, .val (.long (-3750763034362895579 : Int64)), .second, .unset, .unset, .unset, .unset, .unset, .unset, .unset] [(.long (own_fnv (fun _ => 0) (0)))]))
  refine Goes.of (fun t k => XS.lload X88.here hx rfl (hb hby at_41) rfl k) ?_
  show Goes _ _ _ _ _ _ _ (T88.setTop (mkF m 43 #[.val (.long u0), .second, .val (.int u1), .val (.int zz), .val (.ref b82), .val (.ref r83), .val (.ref r85), .val (.long (1099511628211 : Int64)), .second, .val (.long (-3750763034362895579 : Int64)), .second, .unset, .unset, .unset, .unset, .unset, .unset, .unset] [(.long (-3750763034362895579 : Int64)), (.long (own_fnv (fun _ => 0) (0)))]))
  refine Goes.of (fun t k => XS.lcmp X88.here hx rfl (hb hby at_43) rfl k) ?_
  show Goes _ _ _ _ _ _ _ (T88.setTop (mkF m 44 #[.val (.long u0), .second, .val (.int u1), .val (.int zz), .val (.ref b82), .val (.ref r83), .val (.ref r85), .val (.long (1099511628211 : Int64)), .second, .val (.long (-3750763034362895579 : Int64)), .second, .unset, .unset, .unset, .unset, .unset, .unset, .unset] [(.int (lcmpW (own_fnv (fun _ => 0) (0)) (-3750763034362895579 : Int64)))]))
  refine Goes.of (fun t k => XS.ifNo X88.here hx rfl (hb hby at_44) rfl ((if0 _ _).trans (teq ((lw_eq _ _).mpr rfl)).2) k) ?_
  show Goes _ _ _ _ _ _ _ (T88.setTop (mkF m 47 #[.val (.long u0), .second, .val (.int u1), .val (.int zz), .val (.ref b82), .val (.ref r83), .val (.ref r85), .val (.long (1099511628211 : Int64)), .second, .val (.long (-3750763034362895579 : Int64)), .second, .unset, .unset, .unset, .unset, .unset, .unset, .unset] []))
  refine Goes.of (fun t k => XS.iconst X88.here hx rfl (hb hby at_47) k) ?_
  show Goes _ _ _ _ _ _ _ (T88.setTop (mkF m 48 #[.val (.long u0), .second, .val (.int u1), .val (.int zz), .val (.ref b82), .val (.ref r83), .val (.ref r85), .val (.long (1099511628211 : Int64)), .second, .val (.long (-3750763034362895579 : Int64)), .second, .unset, .unset, .unset, .unset, .unset, .unset, .unset] [(.int (1 : Int32))]))
  refine Goes.of (fun t k => XS.goto X88.here hx rfl (pc0 := 48) (pc' := 52) rfl (hb hby at_48) (by decide) (by decide) k) ?_
  show Goes _ _ _ _ _ _ _ (T88.setTop (mkF m 52 #[.val (.long u0), .second, .val (.int u1), .val (.int zz), .val (.ref b82), .val (.ref r83), .val (.ref r85), .val (.long (1099511628211 : Int64)), .second, .val (.long (-3750763034362895579 : Int64)), .second, .unset, .unset, .unset, .unset, .unset, .unset, .unset] [(.int (1 : Int32))]))
  refine Goes.of (fun t k => XS.istore X88.here hx rfl (hb hby at_52) rfl (l' := #[.val (.long u0), .second, .val (.int u1), .val (.int zz), .val (.ref b82), .val (.ref r83), .val (.ref r85), .val (.long (1099511628211 : Int64)), .second, .val (.long (-3750763034362895579 : Int64)), .second, .val (.int (1 : Int32)), .unset, .unset, .unset, .unset, .unset, .unset]) rfl k) ?_
  show Goes _ _ _ _ _ _ _ (T88.setTop (mkF m 54 #[.val (.long u0), .second, .val (.int u1), .val (.int zz), .val (.ref b82), .val (.ref r83), .val (.ref r85), .val (.long (1099511628211 : Int64)), .second, .val (.long (-3750763034362895579 : Int64)), .second, .val (.int (1 : Int32)), .unset, .unset, .unset, .unset, .unset, .unset] []))
  refine Goes.of (fun t k => XS.aload X88.here hx rfl (hb hby at_54) rfl rfl k) ?_
  show Goes _ _ _ _ _ _ _ (T88.setTop (mkF m 56 #[.val (.long u0), .second, .val (.int u1), .val (.int zz), .val (.ref b82), .val (.ref r83), .val (.ref r85), .val (.long (1099511628211 : Int64)), .second, .val (.long (-3750763034362895579 : Int64)), .second, .val (.int (1 : Int32)), .unset, .unset, .unset, .unset, .unset, .unset] [(.ref r83)]))
  obtain ⟨_, _, ⟨T89, L89, k89, n89⟩, -, X89, ⟨Lc89, hQ89, l89, y89, z89⟩, st89⟩ := Jvm.LawKit.callS X88 hx (y := (⟨"com/example/vhost/vhost/util/Hashes", "fnv1a", "([B)J"⟩ : MethodName)) hown (mvT hZ (hw _ (List.mem_of_getElem? (i := 10) rfl))) (mvT hZ (hw _ (List.mem_of_getElem? (i := 11) rfl))) (mvT hZ (hw _ (List.mem_of_getElem? (i := 12) rfl))) (mvT hZ (hw _ (List.mem_of_getElem? (i := 13) rfl))) (by decide) (backOf (W := 0) (rm3 l Z a0 hw [] r83 (zz.toNatClampNeg) zz (own_by u0) T85.heap n0 Z85 F87 (nat_of (own_nn h7.1))) hZ (hw _ (List.mem_of_getElem? (i := 13) rfl)) (hw _ (List.mem_of_getElem? (i := 12) rfl)) (by decide) (by decide)) (g := (mkF m 56 #[.val (.long u0), .second, .val (.int u1), .val (.int zz), .val (.ref b82), .val (.ref r83), .val (.ref r85), .val (.long (1099511628211 : Int64)), .second, .val (.long (-3750763034362895579 : Int64)), .second, .val (.int (1 : Int32)), .unset, .unset, .unset, .unset, .unset, .unset] [(.ref r83)])) rfl (by rw [hml]; rfl) (argsL := [(.ref r83)]) (rest := []) (lenOf pd_2 rfl) rfl (by show 2 * 0 + _ ≤ _; exact Nat.le_of_eq rfl) (hb hby at_56) (fun _ _ => ⟨rfl, e88, (by decide : 3 + 0 ≤ _), (by decide : 16 + 0 ≤ _)⟩)
  dsimp only [Pt.U, Pt.locs, Pt.cells, Pt.slots] at X89 l89 y89 z89 st89 hQ89
  subst l89 y89 z89
  obtain ⟨rfl, N89q, e89⟩ := hQ89
  have N89 := Fr.app N88 N89q
  refine Goes.of st89 ?_
  show Goes _ _ _ _ _ _ _ (T89.setTop (mkF m 59 #[.val (.long u0), .second, .val (.int u1), .val (.int zz), .val (.ref b82), .val (.ref r83), .val (.ref r85), .val (.long (1099511628211 : Int64)), .second, .val (.long (-3750763034362895579 : Int64)), .second, .val (.int (1 : Int32)), .unset, .unset, .unset, .unset, .unset, .unset] [(.long (own_fnv (own_by u0) (zz.toNatClampNeg)))]))
  refine Goes.of (fun t k => XS.lstore X89.here hx rfl (hb hby at_59) rfl (l' := #[.val (.long u0), .second, .val (.int u1), .val (.int zz), .val (.ref b82), .val (.ref r83), .val (.ref r85), .val (.long (1099511628211 : Int64)), .second, .val (.long (-3750763034362895579 : Int64)), .second, .val (.int (1 : Int32)), .val (.long (own_fnv (own_by u0) (zz.toNatClampNeg))), .second, .unset, .unset, .unset, .unset]) rfl k) ?_
  show Goes _ _ _ _ _ _ _ (T89.setTop (mkF m 61 #[.val (.long u0), .second, .val (.int u1), .val (.int zz), .val (.ref b82), .val (.ref r83), .val (.ref r85), .val (.long (1099511628211 : Int64)), .second, .val (.long (-3750763034362895579 : Int64)), .second, .val (.int (1 : Int32)), .val (.long (own_fnv (own_by u0) (zz.toNatClampNeg))), .second, .unset, .unset, .unset, .unset] []))
  refine Goes.of (fun t k => XS.aload X89.here hx rfl (hb hby at_61) rfl rfl k) ?_
  show Goes _ _ _ _ _ _ _ (T89.setTop (mkF m 63 #[.val (.long u0), .second, .val (.int u1), .val (.int zz), .val (.ref b82), .val (.ref r83), .val (.ref r85), .val (.long (1099511628211 : Int64)), .second, .val (.long (-3750763034362895579 : Int64)), .second, .val (.int (1 : Int32)), .val (.long (own_fnv (own_by u0) (zz.toNatClampNeg))), .second, .unset, .unset, .unset, .unset] [(.ref r85)]))
  obtain ⟨_, _, ⟨T90, L90, k90, n90⟩, -, X90, ⟨Lc90, hQ90, l90, y90, z90⟩, st90⟩ := Jvm.LawKit.callS X89 hx (y := (⟨"com/example/vhost/vhost/util/Hashes", "fnv1a", "([B)J"⟩ : MethodName)) hown (mvT hZ (hw _ (List.mem_of_getElem? (i := 10) rfl))) (mvT hZ (hw _ (List.mem_of_getElem? (i := 11) rfl))) (mvT hZ (hw _ (List.mem_of_getElem? (i := 12) rfl))) (mvT hZ (hw _ (List.mem_of_getElem? (i := 13) rfl))) (by decide) (backOf (W := 0) (rm3 l Z a0 hw [] r85 ((zz + (1 : Int32)).toNatClampNeg) (zz + (1 : Int32)) (own_by u0) T85.heap n0 Z85 V85 (nat_of (own_nn (by rw [own_inc (by omega)]; omega)))) hZ (hw _ (List.mem_of_getElem? (i := 13) rfl)) (hw _ (List.mem_of_getElem? (i := 12) rfl)) (by decide) (by decide)) (g := (mkF m 63 #[.val (.long u0), .second, .val (.int u1), .val (.int zz), .val (.ref b82), .val (.ref r83), .val (.ref r85), .val (.long (1099511628211 : Int64)), .second, .val (.long (-3750763034362895579 : Int64)), .second, .val (.int (1 : Int32)), .val (.long (own_fnv (own_by u0) (zz.toNatClampNeg))), .second, .unset, .unset, .unset, .unset] [(.ref r85)])) rfl (by rw [hml]; rfl) (argsL := [(.ref r85)]) (rest := []) (lenOf pd_2 rfl) rfl (by show 2 * 0 + _ ≤ _; exact Nat.le_of_eq rfl) (hb hby at_63) (fun _ _ => ⟨rfl, e89, (by decide : 3 + 0 ≤ _), (by decide : 16 + 0 ≤ _)⟩)
  dsimp only [Pt.U, Pt.locs, Pt.cells, Pt.slots] at X90 l90 y90 z90 st90 hQ90
  subst l90 y90 z90
  obtain ⟨rfl, N90q, e90⟩ := hQ90
  have N90 := Fr.app N89 N90q
  refine Goes.of st90 ?_
  show Goes _ _ _ _ _ _ _ (T90.setTop (mkF m 66 #[.val (.long u0), .second, .val (.int u1), .val (.int zz), .val (.ref b82), .val (.ref r83), .val (.ref r85), .val (.long (1099511628211 : Int64)), .second, .val (.long (-3750763034362895579 : Int64)), .second, .val (.int (1 : Int32)), .val (.long (own_fnv (own_by u0) (zz.toNatClampNeg))), .second, .unset, .unset, .unset, .unset] [(.long (own_fnv (own_by u0) ((zz + (1 : Int32)).toNatClampNeg)))]))
  refine Goes.of (fun t k => XS.lstore X90.here hx rfl (hb hby at_66) rfl (l' := #[.val (.long u0), .second, .val (.int u1), .val (.int zz), .val (.ref b82), .val (.ref r83), .val (.ref r85), .val (.long (1099511628211 : Int64)), .second, .val (.long (-3750763034362895579 : Int64)), .second, .val (.int (1 : Int32)), .val (.long (own_fnv (own_by u0) (zz.toNatClampNeg))), .second, .val (.long (own_fnv (own_by u0) ((zz + (1 : Int32)).toNatClampNeg))), .second, .unset, .unset]) rfl k) ?_
  show Goes _ _ _ _ _ _ _ (T90.setTop (mkF m 68 #[.val (.long u0), .second, .val (.int u1), .val (.int zz), .val (.ref b82), .val (.ref r83), .val (.ref r85), .val (.long (1099511628211 : Int64)), .second, .val (.long (-3750763034362895579 : Int64)), .second, .val (.int (1 : Int32)), .val (.long (own_fnv (own_by u0) (zz.toNatClampNeg))), .second, .val (.long (own_fnv (own_by u0) ((zz + (1 : Int32)).toNatClampNeg))), .second, .unset, .unset] []))
  refine Goes.of (fun t k => XS.lloadN X90.here hx rfl (hb hby at_68) rfl k) ?_
  show Goes _ _ _ _ _ _ _ (T90.setTop (mkF m 69 #[.val (.long u0), .second, .val (.int u1), .val (.int zz), .val (.ref b82), .val (.ref r83), .val (.ref r85), .val (.long (1099511628211 : Int64)), .second, .val (.long (-3750763034362895579 : Int64)), .second, .val (.int (1 : Int32)), .val (.long (own_fnv (own_by u0) (zz.toNatClampNeg))), .second, .val (.long (own_fnv (own_by u0) ((zz + (1 : Int32)).toNatClampNeg))), .second, .unset, .unset] [(.long u0)]))
  refine Goes.of (fun t k => XS.bipush X90.here hx rfl (hb hby at_69) k) ?_
  show Goes _ _ _ _ _ _ _ (T90.setTop (mkF m 71 #[.val (.long u0), .second, .val (.int u1), .val (.int zz), .val (.ref b82), .val (.ref r83), .val (.ref r85), .val (.long (1099511628211 : Int64)), .second, .val (.long (-3750763034362895579 : Int64)), .second, .val (.int (1 : Int32)), .val (.long (own_fnv (own_by u0) (zz.toNatClampNeg))), .second, .val (.long (own_fnv (own_by u0) ((zz + (1 : Int32)).toNatClampNeg))), .second, .unset, .unset] [(.int (8 : Int32)), (.long u0)]))
  refine Goes.of (fun t k => XS.iloadN X90.here hx rfl (hb hby at_71) rfl k) ?_
  show Goes _ _ _ _ _ _ _ (T90.setTop (mkF m 72 #[.val (.long u0), .second, .val (.int u1), .val (.int zz), .val (.ref b82), .val (.ref r83), .val (.ref r85), .val (.long (1099511628211 : Int64)), .second, .val (.long (-3750763034362895579 : Int64)), .second, .val (.int (1 : Int32)), .val (.long (own_fnv (own_by u0) (zz.toNatClampNeg))), .second, .val (.long (own_fnv (own_by u0) ((zz + (1 : Int32)).toNatClampNeg))), .second, .unset, .unset] [(.int zz), (.int (8 : Int32)), (.long u0)]))
  refine Goes.of (fun t k => XS.imul X90.here hx rfl (hb hby at_72) rfl k) ?_
  show Goes _ _ _ _ _ _ _ (T90.setTop (mkF m 73 #[.val (.long u0), .second, .val (.int u1), .val (.int zz), .val (.ref b82), .val (.ref r83), .val (.ref r85), .val (.long (1099511628211 : Int64)), .second, .val (.long (-3750763034362895579 : Int64)), .second, .val (.int (1 : Int32)), .val (.long (own_fnv (own_by u0) (zz.toNatClampNeg))), .second, .val (.long (own_fnv (own_by u0) ((zz + (1 : Int32)).toNatClampNeg))), .second, .unset, .unset] [(.int ((8 : Int32) * zz)), (.long u0)]))
  refine Goes.of (fun t k => XS.lushr X90.here hx rfl (hb hby at_73) rfl k) ?_
  show Goes _ _ _ _ _ _ _ (T90.setTop (mkF m 74 #[.val (.long u0), .second, .val (.int u1), .val (.int zz), .val (.ref b82), .val (.ref r83), .val (.ref r85), .val (.long (1099511628211 : Int64)), .second, .val (.long (-3750763034362895579 : Int64)), .second, .val (.int (1 : Int32)), .val (.long (own_fnv (own_by u0) (zz.toNatClampNeg))), .second, .val (.long (own_fnv (own_by u0) ((zz + (1 : Int32)).toNatClampNeg))), .second, .unset, .unset] [(.long ((u0.toUInt64 >>> (((8 : Int32) * zz) &&& 0x3f).toInt64.toUInt64).toInt64))]))
  refine Goes.of (fun t k => X90.ldc2Long hx hown (mvT hZ (hw _ (List.mem_of_getElem? (i := 16) rfl))) (g := (mkF m 74 #[.val (.long u0), .second, .val (.int u1), .val (.int zz), .val (.ref b82), .val (.ref r83), .val (.ref r85), .val (.long (1099511628211 : Int64)), .second, .val (.long (-3750763034362895579 : Int64)), .second, .val (.int (1 : Int32)), .val (.long (own_fnv (own_by u0) (zz.toNatClampNeg))), .second, .val (.long (own_fnv (own_by u0) ((zz + (1 : Int32)).toNatClampNeg))), .second, .unset, .unset] [(.long ((u0.toUInt64 >>> (((8 : Int32) * zz) &&& 0x3f).toInt64.toUInt64).toInt64))])) rfl (hb hby at_74) t k) ?_
  show Goes _ _ _ _ _ _ _ (T90.setTop (mkF m 77 #[.val (.long u0), .second, .val (.int u1), .val (.int zz), .val (.ref b82), .val (.ref r83), .val (.ref r85), .val (.long (1099511628211 : Int64)), .second, .val (.long (-3750763034362895579 : Int64)), .second, .val (.int (1 : Int32)), .val (.long (own_fnv (own_by u0) (zz.toNatClampNeg))), .second, .val (.long (own_fnv (own_by u0) ((zz + (1 : Int32)).toNatClampNeg))), .second, .unset, .unset] [(.long (255 : Int64)), (.long ((u0.toUInt64 >>> (((8 : Int32) * zz) &&& 0x3f).toInt64.toUInt64).toInt64))]))
  refine Goes.of (fun t k => XS.land X90.here hx rfl (hb hby at_77) rfl k) ?_
  show Goes _ _ _ _ _ _ _ (T90.setTop (mkF m 78 #[.val (.long u0), .second, .val (.int u1), .val (.int zz), .val (.ref b82), .val (.ref r83), .val (.ref r85), .val (.long (1099511628211 : Int64)), .second, .val (.long (-3750763034362895579 : Int64)), .second, .val (.int (1 : Int32)), .val (.long (own_fnv (own_by u0) (zz.toNatClampNeg))), .second, .val (.long (own_fnv (own_by u0) ((zz + (1 : Int32)).toNatClampNeg))), .second, .unset, .unset] [(.long (((u0.toUInt64 >>> (((8 : Int32) * zz) &&& 0x3f).toInt64.toUInt64).toInt64) &&& (255 : Int64)))]))
  refine Goes.of (fun t k => XS.lstore X90.here hx rfl (hb hby at_78) rfl (l' := #[.val (.long u0), .second, .val (.int u1), .val (.int zz), .val (.ref b82), .val (.ref r83), .val (.ref r85), .val (.long (1099511628211 : Int64)), .second, .val (.long (-3750763034362895579 : Int64)), .second, .val (.int (1 : Int32)), .val (.long (own_fnv (own_by u0) (zz.toNatClampNeg))), .second, .val (.long (own_fnv (own_by u0) ((zz + (1 : Int32)).toNatClampNeg))), .second, .val (.long (((u0.toUInt64 >>> (((8 : Int32) * zz) &&& 0x3f).toInt64.toUInt64).toInt64) &&& (255 : Int64))), .second]) rfl k) ?_
  show Goes _ _ _ _ _ _ _ (T90.setTop (mkF m 80 #[.val (.long u0), .second, .val (.int u1), .val (.int zz), .val (.ref b82), .val (.ref r83), .val (.ref r85), .val (.long (1099511628211 : Int64)), .second, .val (.long (-3750763034362895579 : Int64)), .second, .val (.int (1 : Int32)), .val (.long (own_fnv (own_by u0) (zz.toNatClampNeg))), .second, .val (.long (own_fnv (own_by u0) ((zz + (1 : Int32)).toNatClampNeg))), .second, .val (.long (((u0.toUInt64 >>> (((8 : Int32) * zz) &&& 0x3f).toInt64.toUInt64).toInt64) &&& (255 : Int64))), .second] []))
  refine Goes.of (fun t k => XS.iload X90.here hx rfl (hb hby at_80) rfl k) ?_
  show Goes _ _ _ _ _ _ _ (T90.setTop (mkF m 82 #[.val (.long u0), .second, .val (.int u1), .val (.int zz), .val (.ref b82), .val (.ref r83), .val (.ref r85), .val (.long (1099511628211 : Int64)), .second, .val (.long (-3750763034362895579 : Int64)), .second, .val (.int (1 : Int32)), .val (.long (own_fnv (own_by u0) (zz.toNatClampNeg))), .second, .val (.long (own_fnv (own_by u0) ((zz + (1 : Int32)).toNatClampNeg))), .second, .val (.long (((u0.toUInt64 >>> (((8 : Int32) * zz) &&& 0x3f).toInt64.toUInt64).toInt64) &&& (255 : Int64))), .second] [(.int (1 : Int32))]))
  refine Goes.of (fun t k => XS.ifNo X90.here hx rfl (hb hby at_82) rfl ((if0 _ _).trans (feq (by decide : ¬ ((1 : Int32) = (0 : Int32)))).1) k) ?_
  show Goes _ _ _ _ _ _ _ (T90.setTop (mkF m 85 #[.val (.long u0), .second, .val (.int u1), .val (.int zz), .val (.ref b82), .val (.ref r83), .val (.ref r85), .val (.long (1099511628211 : Int64)), .second, .val (.long (-3750763034362895579 : Int64)), .second, .val (.int (1 : Int32)), .val (.long (own_fnv (own_by u0) (zz.toNatClampNeg))), .second, .val (.long (own_fnv (own_by u0) ((zz + (1 : Int32)).toNatClampNeg))), .second, .val (.long (((u0.toUInt64 >>> (((8 : Int32) * zz) &&& 0x3f).toInt64.toUInt64).toInt64) &&& (255 : Int64))), .second] []))
  refine Goes.of (fun t k => XS.lload X90.here hx rfl (hb hby at_85) rfl k) ?_
  show Goes _ _ _ _ _ _ _ (T90.setTop (mkF m 87 #[.val (.long u0), .second, .val (.int u1), .val (.int zz), .val (.ref b82), .val (.ref r83), .val (.ref r85), .val (.long (1099511628211 : Int64)), .second, .val (.long (-3750763034362895579 : Int64)), .second, .val (.int (1 : Int32)), .val (.long (own_fnv (own_by u0) (zz.toNatClampNeg))), .second, .val (.long (own_fnv (own_by u0) ((zz + (1 : Int32)).toNatClampNeg))), .second, .val (.long (((u0.toUInt64 >>> (((8 : Int32) * zz) &&& 0x3f).toInt64.toUInt64).toInt64) &&& (255 : Int64))), .second] [(.long (own_fnv (own_by u0) ((zz + (1 : Int32)).toNatClampNeg)))]))
  refine Goes.of (fun t k => XS.lload X90.here hx rfl (hb hby at_87) rfl k) ?_
  show Goes _ _ _ _ _ _ _ (T90.setTop (mkF m 89 #[.val (.long u0), .second, .val (.int u1), .val (.int zz), .val (.ref b82), .val (.ref r83), .val (.ref r85), .val (.long (1099511628211 : Int64)), .second, .val (.long (-3750763034362895579 : Int64)), .second, .val (.int (1 : Int32)), .val (.long (own_fnv (own_by u0) (zz.toNatClampNeg))), .second, .val (.long (own_fnv (own_by u0) ((zz + (1 : Int32)).toNatClampNeg))), .second, .val (.long (((u0.toUInt64 >>> (((8 : Int32) * zz) &&& 0x3f).toInt64.toUInt64).toInt64) &&& (255 : Int64))), .second] [(.long (own_fnv (own_by u0) (zz.toNatClampNeg))), (.long (own_fnv (own_by u0) ((zz + (1 : Int32)).toNatClampNeg)))]))
  refine Goes.of (fun t k => XS.lload X90.here hx rfl (hb hby at_89) rfl k) ?_
  show Goes _ _ _ _ _ _ _ (T90.setTop (mkF m 91 #[.val (.long u0), .second, .val (.int u1), .val (.int zz), .val (.ref b82), .val (.ref r83), .val (.ref r85), .val (.long (1099511628211 : Int64)), .second, .val (.long (-3750763034362895579 : Int64)), .second, .val (.int (1 : Int32)), .val (.long (own_fnv (own_by u0) (zz.toNatClampNeg))), .second, .val (.long (own_fnv (own_by u0) ((zz + (1 : Int32)).toNatClampNeg))), .second, .val (.long (((u0.toUInt64 >>> (((8 : Int32) * zz) &&& 0x3f).toInt64.toUInt64).toInt64) &&& (255 : Int64))), .second] [(.long (((u0.toUInt64 >>> (((8 : Int32) * zz) &&& 0x3f).toInt64.toUInt64).toInt64) &&& (255 : Int64))), (.long (own_fnv (own_by u0) (zz.toNatClampNeg))), (.long (own_fnv (own_by u0) ((zz + (1 : Int32)).toNatClampNeg)))]))
  refine Goes.of (fun t k => XS.lxor X90.here hx rfl (hb hby at_91) rfl k) ?_
  show Goes _ _ _ _ _ _ _ (T90.setTop (mkF m 92 #[.val (.long u0), .second, .val (.int u1), .val (.int zz), .val (.ref b82), .val (.ref r83), .val (.ref r85), .val (.long (1099511628211 : Int64)), .second, .val (.long (-3750763034362895579 : Int64)), .second, .val (.int (1 : Int32)), .val (.long (own_fnv (own_by u0) (zz.toNatClampNeg))), .second, .val (.long (own_fnv (own_by u0) ((zz + (1 : Int32)).toNatClampNeg))), .second, .val (.long (((u0.toUInt64 >>> (((8 : Int32) * zz) &&& 0x3f).toInt64.toUInt64).toInt64) &&& (255 : Int64))), .second] [(.long ((own_fnv (own_by u0) (zz.toNatClampNeg)) ^^^ (((u0.toUInt64 >>> (((8 : Int32) * zz) &&& 0x3f).toInt64.toUInt64).toInt64) &&& (255 : Int64)))), (.long (own_fnv (own_by u0) ((zz + (1 : Int32)).toNatClampNeg)))]))
  refine Goes.of (fun t k => XS.lload X90.here hx rfl (hb hby at_92) rfl k) ?_
  show Goes _ _ _ _ _ _ _ (T90.setTop (mkF m 94 #[.val (.long u0), .second, .val (.int u1), .val (.int zz), .val (.ref b82), .val (.ref r83), .val (.ref r85), .val (.long (1099511628211 : Int64)), .second, .val (.long (-3750763034362895579 : Int64)), .second, .val (.int (1 : Int32)), .val (.long (own_fnv (own_by u0) (zz.toNatClampNeg))), .second, .val (.long (own_fnv (own_by u0) ((zz + (1 : Int32)).toNatClampNeg))), .second, .val (.long (((u0.toUInt64 >>> (((8 : Int32) * zz) &&& 0x3f).toInt64.toUInt64).toInt64) &&& (255 : Int64))), .second] [(.long (1099511628211 : Int64)), (.long ((own_fnv (own_by u0) (zz.toNatClampNeg)) ^^^ (((u0.toUInt64 >>> (((8 : Int32) * zz) &&& 0x3f).toInt64.toUInt64).toInt64) &&& (255 : Int64)))), (.long (own_fnv (own_by u0) ((zz + (1 : Int32)).toNatClampNeg)))]))
  refine Goes.of (fun t k => XS.lmul X90.here hx rfl (hb hby at_94) rfl k) ?_
  show Goes _ _ _ _ _ _ _ (T90.setTop (mkF m 95 #[.val (.long u0), .second, .val (.int u1), .val (.int zz), .val (.ref b82), .val (.ref r83), .val (.ref r85), .val (.long (1099511628211 : Int64)), .second, .val (.long (-3750763034362895579 : Int64)), .second, .val (.int (1 : Int32)), .val (.long (own_fnv (own_by u0) (zz.toNatClampNeg))), .second, .val (.long (own_fnv (own_by u0) ((zz + (1 : Int32)).toNatClampNeg))), .second, .val (.long (((u0.toUInt64 >>> (((8 : Int32) * zz) &&& 0x3f).toInt64.toUInt64).toInt64) &&& (255 : Int64))), .second] [(.long (((own_fnv (own_by u0) (zz.toNatClampNeg)) ^^^ (((u0.toUInt64 >>> (((8 : Int32) * zz) &&& 0x3f).toInt64.toUInt64).toInt64) &&& (255 : Int64))) * (1099511628211 : Int64))), (.long (own_fnv (own_by u0) ((zz + (1 : Int32)).toNatClampNeg)))]))
  refine Goes.of (fun t k => XS.lcmp X90.here hx rfl (hb hby at_95) rfl k) ?_
  show Goes _ _ _ _ _ _ _ (T90.setTop (mkF m 96 #[.val (.long u0), .second, .val (.int u1), .val (.int zz), .val (.ref b82), .val (.ref r83), .val (.ref r85), .val (.long (1099511628211 : Int64)), .second, .val (.long (-3750763034362895579 : Int64)), .second, .val (.int (1 : Int32)), .val (.long (own_fnv (own_by u0) (zz.toNatClampNeg))), .second, .val (.long (own_fnv (own_by u0) ((zz + (1 : Int32)).toNatClampNeg))), .second, .val (.long (((u0.toUInt64 >>> (((8 : Int32) * zz) &&& 0x3f).toInt64.toUInt64).toInt64) &&& (255 : Int64))), .second] [(.int (lcmpW (own_fnv (own_by u0) ((zz + (1 : Int32)).toNatClampNeg)) (((own_fnv (own_by u0) (zz.toNatClampNeg)) ^^^ (((u0.toUInt64 >>> (((8 : Int32) * zz) &&& 0x3f).toInt64.toUInt64).toInt64) &&& (255 : Int64))) * (1099511628211 : Int64))))]))
  refine Goes.of (fun t k => XS.ifNo X90.here hx rfl (hb hby at_96) rfl ((if0 _ _).trans (teq ((lw_eq _ _).mpr ((own_last u0 zz h7.1).resolve_right (by omega)))).2) k) ?_
  show Goes _ _ _ _ _ _ _ (T90.setTop (mkF m 99 #[.val (.long u0), .second, .val (.int u1), .val (.int zz), .val (.ref b82), .val (.ref r83), .val (.ref r85), .val (.long (1099511628211 : Int64)), .second, .val (.long (-3750763034362895579 : Int64)), .second, .val (.int (1 : Int32)), .val (.long (own_fnv (own_by u0) (zz.toNatClampNeg))), .second, .val (.long (own_fnv (own_by u0) ((zz + (1 : Int32)).toNatClampNeg))), .second, .val (.long (((u0.toUInt64 >>> (((8 : Int32) * zz) &&& 0x3f).toInt64.toUInt64).toInt64) &&& (255 : Int64))), .second] []))
  refine Goes.of (fun t k => XS.iconst X90.here hx rfl (hb hby at_99) k) ?_
  show Goes _ _ _ _ _ _ _ (T90.setTop (mkF m 100 #[.val (.long u0), .second, .val (.int u1), .val (.int zz), .val (.ref b82), .val (.ref r83), .val (.ref r85), .val (.long (1099511628211 : Int64)), .second, .val (.long (-3750763034362895579 : Int64)), .second, .val (.int (1 : Int32)), .val (.long (own_fnv (own_by u0) (zz.toNatClampNeg))), .second, .val (.long (own_fnv (own_by u0) ((zz + (1 : Int32)).toNatClampNeg))), .second, .val (.long (((u0.toUInt64 >>> (((8 : Int32) * zz) &&& 0x3f).toInt64.toUInt64).toInt64) &&& (255 : Int64))), .second] [(.int (1 : Int32))]))
  refine Goes.of (fun t k => XS.goto X90.here hx rfl (pc0 := 100) (pc' := 104) rfl (hb hby at_100) (by decide) (by decide) k) ?_
  show Goes _ _ _ _ _ _ _ (T90.setTop (mkF m 104 #[.val (.long u0), .second, .val (.int u1), .val (.int zz), .val (.ref b82), .val (.ref r83), .val (.ref r85), .val (.long (1099511628211 : Int64)), .second, .val (.long (-3750763034362895579 : Int64)), .second, .val (.int (1 : Int32)), .val (.long (own_fnv (own_by u0) (zz.toNatClampNeg))), .second, .val (.long (own_fnv (own_by u0) ((zz + (1 : Int32)).toNatClampNeg))), .second, .val (.long (((u0.toUInt64 >>> (((8 : Int32) * zz) &&& 0x3f).toInt64.toUInt64).toInt64) &&& (255 : Int64))), .second] [(.int (1 : Int32))]))
  exact Goes.fin X90 hlk (v := some (.int (1 : Int32))) (fun h => by rw [Bd.returns] at h; cases h) (fun fs hr => retN X90 hx (t := .boolean) Bd.returns (by simp) (hb hby at_104) hr) ⟨rfl, N90⟩ (by decide) (by decide)
set_option maxRecDepth 65536 in
set_option maxHeartbeats 40000000 in
theorem comes_1 {Post : Tables → Env → Array Value → State → Outcome → State → Prop} (hpost : ∀ tb e args s v u, (limb_1_1.after args s (.returned v) u = true ∧ limb_1_2.after args s (.returned v) u = true ∧ True) → FrameEnd s (.returned v) u (Jvm.fieldLocs frame_1_writes args s ++ Jvm.arrayLocs frame_1_arrays args s ++ Jvm.staticLocs frame_1_statics s) 16 128 → Post tb e args s (.returned v) u) :
    ArmFor flags0 classFile x code maxLocals ret World_1 tables_1 room_1 Calls_1 rest_1 Pre_1 Post := by
  intro l hfl _ _ p e ha hc hk s m args below hf hA hF happ hP
  obtain ⟨hcalls, hrest, hpre⟩ := hP
  obtain ⟨-, -, -, hnamed, -, -, -, hat⟩ := (Spec.applies_iff hf).mp happ
  obtain ⟨hg, hn⟩ := and_e (Cond.before_iff.mp (show (Jvm.Cond.and given_1 narrow_1).before args s = true from hpre))
  obtain ⟨g91, g92⟩ := and_e hg
  obtain ⟨g93, g94⟩ := and_e g92
  obtain ⟨w0, w1, rfl⟩ : ∃ w0 w1 : Value, args = #[w0, w1] := by
    have hs : args.size = 2 := by simpa [Cond.value, given_1] using g91
    obtain ⟨L⟩ := args
    match L, hs with
    | [w0, w1], _ => exact ⟨w0, w1, rfl⟩
  have hw := fun d (hd : d ∈ tables_1) => atoms_spec (ws := Jvm.Cond.code x code maxLocals ret :: tables_1) hat d (List.mem_cons_of_mem _ hd)
  obtain ⟨i0, ei0⟩ := isL_v g93
  obtain rfl : w0 = (.long i0) := Option.some.inj ei0
  obtain ⟨i1, ei1⟩ := is_v g94
  obtain rfl : w1 = (.int i1) := Option.some.inj ei1
  obtain ⟨n, o, h1, h2, h3, _, L, rfl, ⟨rfl, N⟩, hq⟩ := rm0 l s _ hw tables_1 i0 i1 s.heap s.heap.size (Nat.le_refl _) p e ha hc hk s m _ below hf ((Spec.applies_iff_loose hf).mp happ).1 ⟨rfl, State.Warmed39.refl s, rfl⟩ trivial
  exact ⟨n, _, h1, h2, h3, hpost _ _ _ _ _ _ ⟨Cond.after_iff.mpr rfl, Cond.after_iff.mpr (eq_i res_at (Term.int_eval (1)) rfl), trivial⟩ ⟨hq.1, hq.2.1, (hq.2.2.sift fun y hy => Or.inr (N y hy)).mono (by decide) (by decide)⟩⟩
theorem main_1_1 : Claimed_1_1 := comes_1 fun _ _ _ _ _ _ h hF => ⟨h.1, hF⟩
theorem main_1_2 : Claimed_1_2 := comes_1 fun _ _ _ _ _ _ h hF => ⟨h.2.1, hF⟩
end Jvm.Pilot.@@N@@
namespace Jvm.Pilot.@@N@@
open Jvm Jvm.ClassFile Sem Op Lib Jvm.Free Jvm.Stand Jvm.Pilot.@@N@@.Jvm.D
/-! MADE BY PROGRAM (witnessworld.py) out of the Statement's table words and the real class files: 9 classes; the members and pool entries that the words name. The judged class is class 1, her method 3. -/
namespace start1
open Jvm.ClassFile
def u (s : String) : CpInfo := .utf8 (stringToUtf16 s)
/-- a pool by its gaps: so many unusable entries, then the entry; so many at the end -/
def gap : Nat → List CpInfo → List CpInfo
  | 0, r => r
  | n + 1, r => .unusable :: gap n r
def poolList (es : List (Nat × CpInfo)) (last : Nat) : List CpInfo := es.foldr (fun e r => gap e.1 (e.2 :: r)) (gap last [])
def pool (es : List (Nat × CpInfo)) (last : Nat) : Array CpInfo := ⟨poolList es last⟩
def fileOf (pool : Array CpInfo) (this : Nat) (attrs : Array Attribute := #[]) (ms : Array MethodInfo := #[]) (fl : Nat := 33) (sup : Nat := 0) (ifs : Array Nat := #[]) (fds : Array FieldInfo := #[]) : ClassFile where
  minorVersion := 0
  majorVersion := 65
  constantPool := pool
  accessFlags := fl
  thisClass := this
  superClass := sup
  interfaces := ifs
  fields := fds
  methods := ms
  attributes := attrs
def plain (name : String) (sup : Option ClassId) : Class where
  name := name
  kind := .ordinary
  loader := none
  accessFlags := 33
  super := sup
  interfaces := #[]
  cf := none
  fields := #[]
  methods := #[]
  instanceTypes := #[]
  staticTypes := #[]
  resolved := #[]
  callSites := []
  init := .initialized
  statics := none
  mirror := none

def pool0 : Array CpInfo := pool [(5, u "<init>"), (0, u "()V"), (1, .class_ 10), (1, u "java/lang/Object")] 113

def k0m0 : Method := { name := "<init>", desc := "()V", sig := { parameters := [], returnType := none }, accessFlags := 1, code := none }
/-- java/lang/Object -/
def k0 : Class := { plain "java/lang/Object" none with
  accessFlags := 33
  interfaces := #[]
  cf := some (fileOf pool0 8 #[] #[{ accessFlags := 1, nameIndex := 5, descriptorIndex := 6, attributes := #[] }] 33 0 #[] #[])
  fields := #[]
  methods := #[k0m0]
  instanceTypes := #[]
  staticTypes := #[]
  resolved := Array.replicate 124 none
  statics := none }

def pool1 : Array CpInfo := pool [(2, .class_ 4), (1, u "java/lang/Object"), (0, u "<init>"), (0, u "()V"), (0, .methodref 8 9), (0, .class_ 10), (0, .nameAndType 11 12), (0, u "com/example/vhost/vhost/util/HashesFnv1aPinLaw"), (0, u "at"), (0, u "(JI)B"), (0, .methodref 8 14), (0, .nameAndType 15 16), (0, u "bytesOf"), (0, u "(JI)[B"), (0, .long 1099511628211), (1, .long 14695981039346656037), (1, .methodref 22 23), (0, .class_ 24), (0, .nameAndType 25 26), (0, u "com/example/vhost/vhost/util/Hashes"), (0, u "fnv1a"), (0, u "([B)J"), (0, .long 255), (6, u "law"), (0, u "(JI)Z")] 2

def k1m0 : Method := { name := "<init>", desc := "()V", sig := { parameters := [], returnType := none }, accessFlags := 1, code := none }
def k1c1 : Code := { maxStack := 4, maxLocals := 3, code := method_2_code, exceptionTable := #[], attributes := #[] }
def k1m1 : Method := { name := "at", desc := "(JI)B", sig := { parameters := [.long, .int], returnType := some .byte }, accessFlags := 10, code := some k1c1 }
def k1c2 : Code := { maxStack := 5, maxLocals := 4, code := method_3_code, exceptionTable := #[], attributes := #[] }
def k1m2 : Method := { name := "bytesOf", desc := "(JI)[B", sig := { parameters := [.long, .int], returnType := some (.array .byte) }, accessFlags := 10, code := some k1c2 }
def k1c3 : Code := { maxStack := 6, maxLocals := 18, code := code, exceptionTable := #[], attributes := #[] }
def k1m3 : Method := { name := "law", desc := "(JI)Z", sig := { parameters := [.long, .int], returnType := some .boolean }, accessFlags := 9, code := some k1c3 }
/-- com/example/vhost/vhost/util/HashesFnv1aPinLaw -/
def k1 : Class := { plain "com/example/vhost/vhost/util/HashesFnv1aPinLaw" (some 0) with
  accessFlags := 49
  interfaces := #[]
  cf := some (fileOf pool1 8 #[] #[{ accessFlags := 1, nameIndex := 5, descriptorIndex := 6, attributes := #[] }, { accessFlags := 10, nameIndex := 11, descriptorIndex := 12, attributes := #[] }, { accessFlags := 10, nameIndex := 15, descriptorIndex := 16, attributes := #[] }, { accessFlags := 9, nameIndex := 34, descriptorIndex := 35, attributes := #[] }] 49 2 #[] #[])
  fields := #[]
  methods := #[k1m0, k1m1, k1m2, k1m3]
  instanceTypes := #[]
  staticTypes := #[]
  resolved := Array.replicate 38 none
  statics := none }

def pool2 : Array CpInfo := pool [(2, .class_ 4), (1, u "java/lang/Object"), (0, u "<init>"), (0, u "()V"), (0, .long 14695981039346656037), (1, .long 1099511628211), (5, .class_ 16), (0, u "com/example/vhost/vhost/util/Hashes"), (2, u "fnv1a"), (0, u "([B)J")] 7

def k2m0 : Method := { name := "<init>", desc := "()V", sig := { parameters := [], returnType := none }, accessFlags := 2, code := none }
def k2c1 : Code := { maxStack := 4, maxLocals := 7, code := prog_25_method_2_code, exceptionTable := #[], attributes := #[] }
def k2m1 : Method := { name := "fnv1a", desc := "([B)J", sig := { parameters := [(.array .byte)], returnType := some .long }, accessFlags := 9, code := some k2c1 }
/-- com/example/vhost/vhost/util/Hashes -/
def k2 : Class := { plain "com/example/vhost/vhost/util/Hashes" (some 0) with
  accessFlags := 33
  interfaces := #[]
  cf := some (fileOf pool2 15 #[] #[{ accessFlags := 2, nameIndex := 5, descriptorIndex := 6, attributes := #[] }, { accessFlags := 9, nameIndex := 19, descriptorIndex := 20, attributes := #[] }] 33 2 #[] #[])
  fields := #[]
  methods := #[k2m0, k2m1]
  instanceTypes := #[]
  staticTypes := #[]
  resolved := Array.replicate 28 none
  statics := none }

def pool3 : Array CpInfo := pool [(1, u "java/lang/Cloneable"), (0, .class_ 1), (0, u "java/lang/Object"), (0, .class_ 3)] 3

/-- java/lang/Cloneable -/
def k3 : Class := { plain "java/lang/Cloneable" (some 0) with
  accessFlags := 1537
  interfaces := #[]
  cf := some (fileOf pool3 2 #[] #[] 1537 4 #[] #[])
  fields := #[]
  methods := #[]
  instanceTypes := #[]
  staticTypes := #[]
  resolved := Array.replicate 8 none
  statics := none }

def pool4 : Array CpInfo := pool [(1, u "java/io/Serializable"), (0, .class_ 1), (0, u "java/lang/Object"), (0, .class_ 3)] 3

/-- java/io/Serializable -/
def k4 : Class := { plain "java/io/Serializable" (some 0) with
  accessFlags := 1537
  interfaces := #[]
  cf := some (fileOf pool4 2 #[] #[] 1537 4 #[] #[])
  fields := #[]
  methods := #[]
  instanceTypes := #[]
  staticTypes := #[]
  resolved := Array.replicate 8 none
  statics := none }

/-- the primitive byte -/
def k5 : Class := { plain "byte" none with kind := .primitive 'B', accessFlags := 0x411 }
/-- [B -/
def k6 : Class := { plain "[B" (some 0) with kind := .array 5 .byte, interfaces := #[3, 4], accessFlags := 1041 }

/-- the primitive int -/
def k7 : Class := { plain "int" none with kind := .primitive 'I', accessFlags := 0x411 }
/-- [I -/
def k8 : Class := { plain "[I" (some 0) with kind := .array 7 .int, interfaces := #[3, 4], accessFlags := 1041 }

def heap : Heap := #[]
def classes : Array Class := #[k0, k1, k2, k3, k4, k5, k6, k7, k8]
def interned : List (Array UInt16 × Addr) := []
def slotsUsed : Nat := 0
def theMethod : MethodId := ⟨1, 3⟩
def args0 : Array Value := #[.long 5, .int 7]
def aboutOver (below : List Frame) : State where
  vm := { classes := classes, interned := interned.toArray }
  heap := heap
  slotsUsed := slotsUsed
  threads := #[{ frames := .invoking theMethod args0 :: below }]
def below0 : List Frame := [.native { method := ⟨0, 0⟩, args := #[] }]
def about1 : State := aboutOver below0
def p0 : Program := .bare "" "" ""
def e0 : Env := launch0.env 0 0 0
theorem w_frames : about1.frames = Frame.invoking theMethod args0 :: below0 := rfl
set_option maxRecDepth 65536 in
theorem w_args : argsFit about1.vm theMethod args0 = true := by decide +kernel
set_option maxRecDepth 65536 in
theorem w_heap : heapFits about1 = true := by decide +kernel
set_option maxRecDepth 65536 in
theorem w_runnable : about1.curStatus? = some .runnable := by decide +kernel
set_option maxRecDepth 65536 in
theorem w_alone : about1.alone = true := by decide +kernel
set_option maxRecDepth 65536 in
theorem w_named : about1.methodNamed? x = some theMethod := by decide +kernel
set_option maxRecDepth 65536 in
theorem w_hears : about1.hears theMethod below0 = true := by decide +kernel
set_option maxRecDepth 65536 in
theorem w_ripe : about1.ripe theMethod args0 below0 = true := by decide +kernel
theorem w_running : about1.status = .running := rfl
set_option maxRecDepth 65536 in
theorem w_room : about1.hasRoom e0.platform room_1 = true :=
  launch0.hasRoom_least _ room_1 (by decide +kernel) (by decide +kernel) (by decide +kernel) (by decide +kernel) (by decide +kernel) (by decide +kernel)
theorem allAtoms_all (ts : List Jvm.Cond) (a : Array Jvm.Value) (st : Jvm.State) : (allAtoms ts).before a st = ts.all (fun c => c.before a st) := by
  induction ts with
  | nil => rfl
  | cons c t ih =>
    show (Jvm.Cond.and c (allAtoms t)).before a st = _
    rw [Jvm.Cond.before_and, ih, List.all_cons]
def words1 : List Jvm.Cond := Jvm.Cond.code x code maxLocals ret :: tables_1
/-- a 'code' word, met by the world's own term for the bytes: nothing is compared byte by byte -/
theorem code_word {y : MethodName} {bytes : ByteArray} {mx : Nat} {rt : Option FieldType} {a : Array Value} {s : State} {m : MethodId} {meth : Method} {c : Code} (h1 : s.methodNamed? y = some m) (h2 : s.vm.method? m = some meth) (h3 : meth.code = some c) (h4 : c.code = bytes)
    (h5 : (c.maxLocals == mx && c.exceptionTable.isEmpty && decide (c.maxStack ≤ mostOperands) && decide (meth.sig.returnType = rt) && !meth.locks && decide (parseMethodDescriptor y.desc = some meth.sig)) = true) : (Jvm.Cond.code y bytes mx rt).before a s = true := by
  simp only [Bool.and_eq_true, beq_iff_eq, Bool.not_eq_true', decide_eq_true_eq] at h5
  obtain ⟨⟨⟨⟨⟨g1, g2⟩, g3⟩, g4⟩, g5⟩, g6⟩ := h5
  simp [Cond.before, Cond.holds, Cond.value, h1, h2, h3, h4, g1, g2, g3, g4, g5, g6]
def isCode : Jvm.Cond → Bool
  | .code _ _ _ _ => true
  | _ => false
theorem all_split {L : List Jvm.Cond} {P : Jvm.Cond → Bool} (h1 : L.all (fun c => isCode c || P c) = true) (h2 : ∀ c ∈ L.filter isCode, P c = true) : L.all P = true := by
  refine List.all_eq_true.mpr fun c hc => ?_
  have h := List.all_eq_true.mp h1 c hc
  rcases Bool.eq_false_or_eq_true (isCode c) with hi | hi
  · exact h2 c (List.mem_filter.mpr ⟨hc, hi⟩)
  · simpa [hi] using h
set_option maxRecDepth 65536 in
theorem w_c0 : (Jvm.Cond.code x code maxLocals ret).before args0 about1 = true := code_word (m := ⟨1, 3⟩) (meth := k1m3) (c := k1c3) (by decide +kernel) rfl rfl rfl (by decide +kernel)
set_option maxRecDepth 65536 in
theorem w_c1 : (Jvm.Cond.code ({ cls := "com/example/vhost/vhost/util/HashesFnv1aPinLaw", name := "bytesOf", desc := "(JI)[B" } : Jvm.MethodName) method_3_code (4 : Nat) (Option.some (Jvm.ClassFile.FieldType.array Jvm.ClassFile.FieldType.byte))).before args0 about1 = true := code_word (m := ⟨1, 2⟩) (meth := k1m2) (c := k1c2) (by decide +kernel) rfl rfl rfl (by decide +kernel)
set_option maxRecDepth 65536 in
theorem w_c2 : (Jvm.Cond.code ({ cls := "com/example/vhost/vhost/util/HashesFnv1aPinLaw", name := "at", desc := "(JI)B" } : Jvm.MethodName) method_2_code (3 : Nat) (Option.some Jvm.ClassFile.FieldType.byte)).before args0 about1 = true := code_word (m := ⟨1, 1⟩) (meth := k1m1) (c := k1c1) (by decide +kernel) rfl rfl rfl (by decide +kernel)
set_option maxRecDepth 65536 in
theorem w_c3 : (Jvm.Cond.code ({ cls := "com/example/vhost/vhost/util/Hashes", name := "fnv1a", desc := "([B)J" } : Jvm.MethodName) prog_25_method_2_code (7 : Nat) (Option.some Jvm.ClassFile.FieldType.long)).before args0 about1 = true := code_word (m := ⟨2, 1⟩) (meth := k2m1) (c := k2c1) (by decide +kernel) rfl rfl rfl (by decide +kernel)
def codes1 : List Jvm.Cond := [Jvm.Cond.code x code maxLocals ret, Jvm.Cond.code ({ cls := "com/example/vhost/vhost/util/HashesFnv1aPinLaw", name := "bytesOf", desc := "(JI)[B" } : Jvm.MethodName) method_3_code (4 : Nat) (Option.some (Jvm.ClassFile.FieldType.array Jvm.ClassFile.FieldType.byte)), Jvm.Cond.code ({ cls := "com/example/vhost/vhost/util/HashesFnv1aPinLaw", name := "at", desc := "(JI)B" } : Jvm.MethodName) method_2_code (3 : Nat) (Option.some Jvm.ClassFile.FieldType.byte), Jvm.Cond.code ({ cls := "com/example/vhost/vhost/util/Hashes", name := "fnv1a", desc := "([B)J" } : Jvm.MethodName) prog_25_method_2_code (7 : Nat) (Option.some Jvm.ClassFile.FieldType.long)]
set_option maxRecDepth 65536 in
theorem codes_eq : words1.filter isCode = codes1 := rfl
theorem w_codes : ∀ c ∈ words1.filter isCode, c.before args0 about1 = true := by
  rw [codes_eq]
  intro c hc
  simp only [codes1, List.mem_cons, List.not_mem_nil, or_false] at hc
  rcases hc with rfl | rfl | rfl | rfl
  · exact w_c0
  · exact w_c1
  · exact w_c2
  · exact w_c3
set_option maxRecDepth 65536 in
theorem w_t1 : words1.all (fun c => isCode c || c.before args0 about1) = true := by decide +kernel
theorem w_tables : (allAtoms (Jvm.Cond.code x code maxLocals ret :: tables_1)).before args0 about1 = true := by
  rw [allAtoms_all]
  show words1.all (fun c => c.before args0 about1) = true
  refine all_split ?_ w_codes
  rw [w_t1]
set_option maxRecDepth 65536 in
theorem w_case : (Jvm.Cond.and given_1 narrow_1).before args0 about1 = true := by decide +kernel
theorem w_applies : (headSpec (Jvm.Cond.code x code maxLocals ret :: tables_1) room_1).applies x e0.platform about1 = true :=
  (Spec.applies_iff w_frames).mpr ⟨w_running, w_runnable, w_alone, w_named, w_hears, w_ripe, w_room, w_tables⟩
theorem atStart : AtStart classFile x code maxLocals ret World_1 tables_1 room_1 Calls_1 rest_1 Pre_1 launch0 p0 e0 about1 theMethod args0 below0 :=
  ⟨lists_1, trivial, launch0.admits_env _ _ _, launch0.least_env, fairChoices_fair.cas, fairChoices_fair.clock, w_frames, w_args, w_heap, w_applies, trivial, trivial, w_case⟩
end start1
theorem witness_1 : WitnessClaimed_1 := ⟨start1.p0, start1.e0, start1.about1, start1.theMethod, start1.args0, start1.below0, start1.atStart⟩
end Jvm.Pilot.@@N@@
