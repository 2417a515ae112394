import JvmDerived
import JvmDerived.Pilot.@@N@@Statement
import JvmDerived.Pilot.@@N@@Code
set_option linter.unusedVariables false
set_option linter.unusedSimpArgs false
namespace Jvm.RoadKit
open Sem ClassFile Op Lib Jvm.Stand Jvm.Free Jvm.LawKit
section New
variable {p : Program} {l : Launch} {e : Env} {R : Room} {s : State} {m : MethodId} {args : Array Value} {below : List Frame} {meth : Method} {c : Code} {T : State} {locs : List Loc} {cells slots : Nat}
theorem retI (X : Stand p l e R s m args below meth c T locs cells slots) (hx : p.tables.exec = Jvm.exec) {pc : Nat} {Ls : Array Slot} {z : Int32} {rest : List Value} (hret : meth.sig.returnType = some .int) (hd : decode c.code pc = .ok (.ireturn, 1)) {fs : List Frame}
    (hl : ∀ (f : JFrame) (acts : List Action), f.method = m → f.locked = none → f.entered = [] → (doReturn e (T.setTop f) acts (some (.int z))).1 = T.setFrames fs) : Steps p.tables e below (T.setTop (mkF m pc Ls (.int z :: rest))) (T.setFrames fs) := by
  have hm' : T.vm.method? m = some meth := X.method'
  have hn : narrow .int (.int z) = .int z := rfl
  show Steps p.tables e below (T.setTop { method := m, pc := pc, locals := Ls, stack := _ :: rest, locked := none }) _
  jvm_step X.here [X.here.top, hx, hd, hm', hret, hn]
  first | (intro acts; rw [hl _ acts rfl rfl rfl]) | rw [hl _ _ rfl rfl rfl]
  exact Steps.refl _
end New
end Jvm.RoadKit
namespace Jvm.Pilot.@@N@@
open Jvm Jvm.ClassFile Sem Op Lib Jvm.Free Jvm.Stand Jvm.LawKit Jvm.RoadKit Bundle Jvm.Pilot.@@N@@.Jvm.D
section OwnKit
variable {p : Program} {l : Launch} {e : Env} {R : Room} {s : State} {m : MethodId} {args : Array Value} {below : List Frame} {meth : Method} {c : Code} {T : State} {locs : List Loc} {cells slots : Nat}
/-- from S the run comes to a return of which F holds -/
def Goes (tb : Tables) (e : Env) (below : List Frame) (s : State) (F : Option Value → Heap → List Loc → Prop) (k n : Nat) (S : State) : Prop :=
  ∃ s₂ o, Steps tb e below S s₂ ∧ s₂.status = .running ∧ Ended s₂ below o ∧ ∃ v L, o = .returned v ∧ F v s₂.heap L ∧ FrameEnd s o s₂ L k n
theorem Goes.of {tb : Tables} {F : Option Value → Heap → List Loc → Prop} {k n : Nat} {S S' : State} (h : ∀ t, Steps tb e below S' t → Steps tb e below S t) (g : Goes tb e below s F k n S') : Goes tb e below s F k n S := by
  obtain ⟨s₂, o, h1, r⟩ := g
  exact ⟨s₂, o, h _ h1, r⟩
theorem Goes.mono {tb : Tables} {F G : Option Value → Heap → List Loc → Prop} {k n : Nat} {S : State} (h : ∀ v h L, F v h L → G v h L) (g : Goes tb e below s F k n S) : Goes tb e below s G k n S := by
  obtain ⟨s₂, o, h1, h2, h3, v, L, h4, h5, h6⟩ := g
  exact ⟨s₂, o, h1, h2, h3, v, L, h4, h _ _ _ h5, h6⟩
theorem Goes.fin (X : Stand p l e R s m args below meth c T locs cells slots) (hlk : meth.locks = false) {v : Option Value} {F : Option Value → Heap → List Loc → Prop} {k n : Nat} {S : State} (hv : meth.sig.returnType = none → v = none)
    (step : ∀ fs, (∀ (f : JFrame) (acts : List Action), f.method = m → f.locked = none → f.entered = [] → (doReturn e (T.setTop f) acts v).1 = T.setFrames fs) → Steps p.tables e below S (T.setFrames fs)) (hF : F v T.heap locs) (hk : cells ≤ k) (hn : slots ≤ n) : Goes p.tables e below s F k n S := by
  obtain ⟨fs, hr, hrun, hended, hW, hsame⟩ := X.leave hv hlk
  exact ⟨_, _, step fs hr, hrun, hended, v, locs, rfl, hF, ⟨_, rfl⟩, hW, hsame.mono hk hn⟩
end OwnKit
section OwnArr
variable {p : Program} {l : Launch} {e : Env} {R : Room} {s : State} {m : MethodId} {args : Array Value} {below : List Frame} {meth : Method} {c : Code} {T : State} {locs : List Loc} {cells slots : Nat} {Z : State} {h h' : Heap} {a b : Addr} {ty : FieldType} {n i : Nat} {f : Nat → Int32} {ws : List Addr} {sl : Nat} {w : Value}
/-- at a stands an array of n places; place j holds f j -/
def AI (Z : State) (h : Heap) (a : Addr) (ty : FieldType) (n : Nat) (f : Nat → Int32) : Prop :=
  ∃ c : Cell, Arr Z h a c ty ∧ c.slots.size = n ∧ n < 2147483648 ∧ ∀ j, j < n → c.slots[j]? = some (.int (f j)) ∧ fits ty (.int (f j)) = true
def upd (f : Nat → Int32) (i : Nat) (v : Int32) : Nat → Int32 := fun j => if j = i then v else f j
theorem AI.lt (F : AI Z h a ty n f) : a < h.size := by obtain ⟨c, A, -⟩ := F; exact A.lt
theorem AI.ext (F : AI Z h a ty n f) (E : Ext h h') : AI Z h' a ty n f := by obtain ⟨c, A, r⟩ := F; exact ⟨c, A.ext E, r⟩
theorem AI.other (F : AI Z h a ty n f) (W : Wr h h' b sl w) (q : a ≠ b) : AI Z h' a ty n f := by obtain ⟨c, A, r⟩ := F; exact ⟨c, A.other W q, r⟩
theorem AI.keep (F : AI Z h a ty n f) (K : Keep h h' ws) (q : a ∉ ws) : AI Z h' a ty n f := by obtain ⟨c, A, r⟩ := F; exact ⟨c, ⟨K.2.1 a c A.1 q, A.2⟩, r⟩
theorem AI.congr {f' : Nat → Int32} (F : AI Z h a ty n f) (q : ∀ j, j < n → f j = f' j) : AI Z h a ty n f' := by
  obtain ⟨c, A, S, M, H⟩ := F
  exact ⟨c, A, S, M, fun j hj => by rw [← q j hj]; exact H j hj⟩
theorem AI.fits (F : AI Z h a ty n f) {j : Nat} (hj : j < n) : Jvm.fits ty (.int (f j)) = true := by
  obtain ⟨c, A, S, M, H⟩ := F
  exact (H j hj).2
theorem AI.new {cA : ClassId} {z : Int32} (hd : defaultValue ty = .int 0) (hf : Jvm.fits ty (.int 0) = true) (A : Arr Z h a (newA cA ty z) ty) (q : ¬ z < 0) (hn : z.toNatClampNeg = n) : AI Z h a ty n (fun _ => 0) := by
  subst hn
  refine ⟨_, A, sz_new _ _ _, (back32 q).2, fun j hj => ⟨?_, hf⟩⟩
  show (Array.replicate z.toNatClampNeg (defaultValue ty))[j]? = _
  rw [hd, Array.getElem?_replicate, if_pos hj]
theorem AI.set {v : Int32} (F : AI Z h a ty n f) (W : Wr h h' a i (.int v)) (hv : Jvm.fits ty (.int v) = true) : AI Z h' a ty n (upd f i v) := by
  obtain ⟨c, A, S, M, H⟩ := F
  refine ⟨c.setSlot i (.int v), A.same W, by rw [sz_set]; exact S, M, fun j hj => ?_⟩
  show (c.slots.setIfInBounds i (.int v))[j]? = _ ∧ _
  by_cases q : j = i
  · subst q
    rw [Array.getElem?_setIfInBounds_self_of_lt (by omega)]
    have e : upd f j v j = v := if_pos rfl
    rw [e]; exact ⟨rfl, hv⟩
  · rw [Array.getElem?_setIfInBounds_ne (Ne.symm q)]
    have e : upd f i v j = f j := if_neg q
    rw [e]; exact H j hj
theorem own_nn {j : Int32} (h : 0 ≤ j.toInt) : ¬ j < 0 := by
  rw [Int32.lt_iff_toInt_lt, show (0 : Int32).toInt = 0 from rfl]; omega
theorem own_ltn {j : Int32} {n : Nat} (h0 : 0 ≤ j.toInt) (h : j.toInt < n) : j.toNatClampNeg < n := by
  simp only [Int32.toNatClampNeg]; omega
theorem own_tn {z : Int32} {n : Nat} (h : z.toInt = n) : z.toNatClampNeg = n := by
  simp only [Int32.toNatClampNeg]; omega
theorem own_inc {i : Int32} (h : i.toInt < 2147483647) : (i + (1 : Int32)).toInt = i.toInt + 1 := by
  have a := c_iadd i 1
  have r := rng32 (i + 1)
  have r2 := rng32 i
  rw [show (1 : Int32).toInt = 1 from rfl] at a
  omega
theorem own_ilt {a b : Int32} (h : a.toInt < b.toInt) : a < b := by rw [Int32.lt_iff_toInt_lt]; exact h
theorem own_nlt {a b : Int32} (h : b.toInt ≤ a.toInt) : ¬ a < b := by rw [Int32.lt_iff_toInt_lt]; omega
theorem own_ltI {a b : Int32} (h : a < b) : a.toInt < b.toInt := Int32.lt_iff_toInt_lt.mp h
theorem own_geI {a b : Int32} (h : ¬ a < b) : b.toInt ≤ a.toInt := by rw [Int32.lt_iff_toInt_lt] at h; omega
theorem own_neI {a b : Int32} (h : ¬ a = b) : a.toInt ≠ b.toInt := fun q => h (Int32.toInt_inj.mp q)
theorem own_turn {G : Nat → Int32} {n k i : Nat} {w : Int32} (hi : i + (k + 1) = n) (hw : w = G i) : ∀ j, j < n → upd (fun j => if j + (k + 1) < n then G j else 0) i w j = if j + k < n then G j else 0 := by
  intro j hj
  by_cases q : j = i
  · subst q
    rw [if_pos (by omega)]
    exact (if_pos rfl).trans hw
  · refine (if_neg q).trans ?_
    by_cases r : j + (k + 1) < n
    · show (if _ then _ else _) = _
      rw [if_pos r, if_pos (by omega)]
    · show (if _ then _ else _) = _
      rw [if_neg r, if_neg (by omega)]
theorem own_turn2 {D : Nat → Int32} {n k i : Nat} {w : Int32} (hi : i + (k + 1) = n) : ∀ j, j < n → upd (fun j => if j + (k + 1) < n then w else D j) i w j = if j + k < n then w else D j := by
  intro j hj
  by_cases q : j = i
  · subst q
    rw [if_pos (by omega)]
    exact if_pos rfl
  · refine (if_neg q).trans ?_
    by_cases r : j + (k + 1) < n
    · show (if _ then _ else _) = _
      rw [if_pos r, if_pos (by omega)]
    · show (if _ then _ else _) = _
      rw [if_neg r, if_neg (by omega)]
theorem own_in {cl : Cell} {j : Int32} (S : cl.slots.size = n) (h0 : ¬ j < 0) (hi : j.toNatClampNeg = i) (hn : i < n) : ¬ (j < 0 ∨ cl.slots.size ≤ j.toNatClampNeg) := by
  rintro (q | q)
  · exact h0 q
  · omega
theorem ldI (X : Stand p l e R s m args below meth c T locs cells slots) (hx : p.tables.exec = Jvm.exec) (hZ : Z.Warmed39 s.vm) (eT : T.heap = h) (F : AI Z h a .int n f) {j v : Int32} (h0 : ¬ j < 0) (hi : j.toNatClampNeg = i) (hn : i < n) (hv : f i = v) {g : JFrame} (hg : g.method = m) {rest : List Value} (hs : g.stack = .int j :: .ref a :: rest) (hd : decode c.code g.pc = .ok (.iaload, 1)) (t : State)
    (k : Steps p.tables e below (T.setTop { g with pc := g.pc + 1, stack := .int v :: rest }) t) : Steps p.tables e below (T.setTop g) t := by
  obtain ⟨cl, A, S, M, H⟩ := F
  exact X.iaload hx (j := j) (v := .int v) (by rw [eT]; exact A.1) (State.isArrayOf_alike hZ.alike A.2.1) A.2.2 (own_in S h0 hi hn) (by rw [hi, (H i hn).1, hv]) hg hs hd t k
theorem ldB (X : Stand p l e R s m args below meth c T locs cells slots) (hx : p.tables.exec = Jvm.exec) (hZ : Z.Warmed39 s.vm) (eT : T.heap = h) (F : AI Z h a .byte n f) {j v : Int32} (h0 : ¬ j < 0) (hi : j.toNatClampNeg = i) (hn : i < n) (hv : f i = v) {g : JFrame} (hg : g.method = m) {rest : List Value} (hs : g.stack = .int j :: .ref a :: rest) (hd : decode c.code g.pc = .ok (.baload, 1)) (t : State)
    (k : Steps p.tables e below (T.setTop { g with pc := g.pc + 1, stack := .int v :: rest }) t) : Steps p.tables e below (T.setTop g) t := by
  obtain ⟨cl, A, S, M, H⟩ := F
  exact X.baloadBytes hx (j := j) (v := .int v) (by rw [eT]; exact A.1) (State.isArrayOf_alike hZ.alike A.2.1) A.2.2 (own_in S h0 hi hn) (by rw [hi, (H i hn).1, hv]) hg hs hd t k
theorem ldZ (X : Stand p l e R s m args below meth c T locs cells slots) (hx : p.tables.exec = Jvm.exec) (hZ : Z.Warmed39 s.vm) (eT : T.heap = h) (F : AI Z h a .boolean n f) {j v : Int32} (h0 : ¬ j < 0) (hi : j.toNatClampNeg = i) (hn : i < n) (hv : f i = v) {g : JFrame} (hg : g.method = m) {rest : List Value} (hs : g.stack = .int j :: .ref a :: rest) (hd : decode c.code g.pc = .ok (.baload, 1)) (t : State)
    (k : Steps p.tables e below (T.setTop { g with pc := g.pc + 1, stack := .int v :: rest }) t) : Steps p.tables e below (T.setTop g) t := by
  obtain ⟨cl, A, S, M, H⟩ := F
  exact X.baloadBooleans hx (j := j) (v := .int v) (by rw [eT]; exact A.1) (State.isArrayOf_alike hZ.alike A.2.1) A.2.2 (own_in S h0 hi hn) (by rw [hi, (H i hn).1, hv]) hg hs hd t k
theorem putI (X : Stand p l e R s m args below meth c T locs cells slots) (hx : p.tables.exec = Jvm.exec) (hZ : Z.Warmed39 s.vm) (eT : T.heap = h) (F : AI Z h a .int n f) {j x : Int32} (h0 : ¬ j < 0) (hi : j.toNatClampNeg = i) (hn : i < n) {g : JFrame} (hg : g.method = m) {rest : List Value} (hs : g.stack = .int x :: .int j :: .ref a :: rest) (hd : decode c.code g.pc = .ok (.iastore, 1)) :
    ∃ T' h', Stand p l e R s m args below meth c T' (locs ++ [⟨a, i⟩]) cells slots ∧ T'.heap = h' ∧ Wr h h' a i (.int x) ∧ AI Z h' a .int n (upd f i x) ∧ ∀ t, Steps p.tables e below (T'.setTop { g with pc := g.pc + 1, stack := rest }) t → Steps p.tables e below (T.setTop g) t := by
  have F0 := F
  obtain ⟨cl, A, S, M, H⟩ := F
  subst hi
  obtain ⟨T', h', X', e', W, st⟩ := stI X hx hZ eT A (own_in S h0 rfl hn) hg hs hd
  exact ⟨T', h', X', e', W, F0.set W rfl, st⟩
theorem putB (X : Stand p l e R s m args below meth c T locs cells slots) (hx : p.tables.exec = Jvm.exec) (hZ : Z.Warmed39 s.vm) (eT : T.heap = h) (F : AI Z h a .byte n f) {j x : Int32} (h0 : ¬ j < 0) (hi : j.toNatClampNeg = i) (hn : i < n) {g : JFrame} (hg : g.method = m) {rest : List Value} (hs : g.stack = .int x :: .int j :: .ref a :: rest) (hd : decode c.code g.pc = .ok (.bastore, 1)) :
    ∃ T' h', Stand p l e R s m args below meth c T' (locs ++ [⟨a, i⟩]) cells slots ∧ T'.heap = h' ∧ Wr h h' a i (.int x.toInt8.toInt32) ∧ AI Z h' a .byte n (upd f i x.toInt8.toInt32) ∧ ∀ t, Steps p.tables e below (T'.setTop { g with pc := g.pc + 1, stack := rest }) t → Steps p.tables e below (T.setTop g) t := by
  have F0 := F
  obtain ⟨cl, A, S, M, H⟩ := F
  subst hi
  obtain ⟨T', h', X', e', W, st⟩ := stB X hx hZ eT A (own_in S h0 rfl hn) hg hs hd
  exact ⟨T', h', X', e', W, F0.set W (fits_nar_byte x), st⟩
theorem putZ (X : Stand p l e R s m args below meth c T locs cells slots) (hx : p.tables.exec = Jvm.exec) (hZ : Z.Warmed39 s.vm) (eT : T.heap = h) (F : AI Z h a .boolean n f) {j x : Int32} (h0 : ¬ j < 0) (hi : j.toNatClampNeg = i) (hn : i < n) {g : JFrame} (hg : g.method = m) {rest : List Value} (hs : g.stack = .int x :: .int j :: .ref a :: rest) (hd : decode c.code g.pc = .ok (.bastore, 1)) :
    ∃ T' h', Stand p l e R s m args below meth c T' (locs ++ [⟨a, i⟩]) cells slots ∧ T'.heap = h' ∧ Wr h h' a i (.int (x &&& 1)) ∧ AI Z h' a .boolean n (upd f i (x &&& 1)) ∧ ∀ t, Steps p.tables e below (T'.setTop { g with pc := g.pc + 1, stack := rest }) t → Steps p.tables e below (T.setTop g) t := by
  have F0 := F
  obtain ⟨cl, A, S, M, H⟩ := F
  subst hi
  obtain ⟨T', h', X', e', W, st⟩ := stZ X hx hZ eT A (own_in S h0 rfl hn) hg hs hd
  exact ⟨T', h', X', e', W, F0.set W (fits_nar_bool x), st⟩
theorem lenA (X : Stand p l e R s m args below meth c T locs cells slots) (hx : p.tables.exec = Jvm.exec) (hZ : Z.Warmed39 s.vm) (eT : T.heap = h) (F : AI Z h a ty n f) {z : Int32} (hz : z.toInt = n) {g : JFrame} (hg : g.method = m) {rest : List Value} (hs : g.stack = .ref a :: rest) (hd : decode c.code g.pc = .ok (.arraylength, 1)) (t : State)
    (k : Steps p.tables e below (T.setTop { g with pc := g.pc + 1, stack := .int z :: rest }) t) : Steps p.tables e below (T.setTop g) t := by
  obtain ⟨cl, A, S, M, H⟩ := F
  have e1 : cl.slots.size.toInt32 = z := by rw [S]; exact Int32.toInt_inj.mp (by rw [len_toInt M, hz])
  exact X.arraylength hx (by rw [eT]; exact A.1) (State.isArrayOf_alike hZ.alike A.2.1) hg hs hd t (by rw [e1]; exact k)
end OwnArr
section OwnWide
variable {p : Program} {l : Launch} {e : Env} {R : Room} {s : State} {m : MethodId} {args : Array Value} {below : List Frame} {meth : Method} {c : Code} {T : State} {locs : List Loc} {cells slots : Nat}
def GoesW (tb : Tables) (e : Env) (below : List Frame) (s : State) (F : Option Value → Heap → List Loc → Prop) (k n : Nat) (S : State) : Prop :=
  ∃ s₂ o, Steps tb e below S s₂ ∧ s₂.status = .running ∧ Ended s₂ below o ∧ ∃ v L, o = .returned v ∧ F v s₂.heap L ∧ ReturnedEndW s o s₂ L k n
theorem GoesW.of {tb : Tables} {F : Option Value → Heap → List Loc → Prop} {k n : Nat} {S S' : State} (h : ∀ t, Steps tb e below S' t → Steps tb e below S t) (g : GoesW tb e below s F k n S') : GoesW tb e below s F k n S := by
  obtain ⟨s₂, o, h1, r⟩ := g
  exact ⟨s₂, o, h _ h1, r⟩
theorem GoesW.fin {vm₁ : Vm} {n1 : Nat} (X : Stand p l e R (s.setVm vm₁) m args below meth c T locs cells slots) (hlk : meth.locks = false) (hS : s.Since vm₁ n1) (hn1 : n1 ≤ T.heap.size) {v : Option Value} {F : Option Value → Heap → List Loc → Prop} {k n : Nat} {S : State} (hv : meth.sig.returnType = none → v = none)
    (step : ∀ fs, (∀ (f : JFrame) (acts : List Action), f.method = m → f.locked = none → f.entered = [] → (doReturn e (T.setTop f) acts v).1 = T.setFrames fs) → Steps p.tables e below S (T.setFrames fs)) (hF : F v T.heap locs) (hk : cells ≤ k) (hn : slots ≤ n) : GoesW p.tables e below s F k n S := by
  obtain ⟨fs, hr, hrun, hended, h1, h2, h3, h4⟩ := X.leaveW hS hn1 hv hlk
  exact ⟨_, _, step fs hr, hrun, hended, v, locs, rfl, hF, ⟨_, rfl⟩, h2, h3, h4.mono hk hn⟩
end OwnWide

theorem d5_0 : decode jdk_41_method_11_code 0 = .ok (.iload_n 0, 1) := by decide +kernel
theorem d5_1 : decode jdk_41_method_11_code 1 = .ok (.ifCond .lt 8, 3) := by decide +kernel
theorem d5_4 : decode jdk_41_method_11_code 4 = .ok (.iload_n 0, 1) := by decide +kernel
theorem d5_5 : decode jdk_41_method_11_code 5 = .ok (.iload_n 1, 1) := by decide +kernel
theorem d5_6 : decode jdk_41_method_11_code 6 = .ok (.if_icmp .lt 10, 3) := by decide +kernel
theorem d5_9 : decode jdk_41_method_11_code 9 = .ok (.aload_n 2, 1) := by decide +kernel
theorem d5_10 : decode jdk_41_method_11_code 10 = .ok (.iload_n 0, 1) := by decide +kernel
theorem d5_11 : decode jdk_41_method_11_code 11 = .ok (.iload_n 1, 1) := by decide +kernel
theorem d5_12 : decode jdk_41_method_11_code 12 = .ok (.invokestatic 95, 3) := by decide +kernel
theorem d5_15 : decode jdk_41_method_11_code 15 = .ok (.athrow, 1) := by decide +kernel
theorem d5_16 : decode jdk_41_method_11_code 16 = .ok (.iload_n 0, 1) := by decide +kernel
theorem d5_17 : decode jdk_41_method_11_code 17 = .ok (.ireturn, 1) := by decide +kernel
theorem pn_0 : plainName "jdk/internal/util/Preconditions" = true := by first | (simp [plainName, overriddenIn]; done) | decide +kernel
theorem ef_5 (m : MethodId) (i : Int32) (ln : Int32) (fm : Addr) : entryFrame m #[(.int i), (.int ln), (.ref fm)] 3 = mkF m 0 #[.val (.int i), .val (.int ln), .val (.ref fm)] [] := by first | (simp [entryFrame, mkF, argsToLocals, Value.category]; done) | rfl
def Q5 (i : Int32) (h0 : Heap) (n0 : Nat) (v : Option Value) (h : Heap) (L : List Loc) : Prop := v = some (.int i) ∧ Fr n0 L ∧ h = h0
set_option maxRecDepth 65536 in
set_option maxHeartbeats 40000000 in
theorem rm5 (l : Launch) (Z : State) (a0 : Array Value) (hw : ∀ d ∈ tables_1, d.before a0 Z = true) (ws : List Jvm.Cond) (i : Int32) (ln : Int32) (fm : Addr) (h0 : Heap) (n0 : Nat) (Z0 : n0 ≤ h0.size) (hi0 : ¬ i < (0 : Int32)) (hlt : i < ln) :
    MetFree l (⟨"jdk/internal/util/Preconditions", "checkIndex", "(IILjava/util/function/BiFunction;)I"⟩ : MethodName) (head1 (Jvm.Cond.code (⟨"jdk/internal/util/Preconditions", "checkIndex", "(IILjava/util/function/BiFunction;)I"⟩ : MethodName) jdk_41_method_11_code 3 (some .int) :: ws) ({ frames := 0, cells := 0, slots := 0, locals := 0 } : Room)) (fun ar' Ur => ar' = #[(.int i), (.int ln), (.ref fm)] ∧ Z.Warmed39 Ur.vm ∧ Ur.heap = h0) (fun _ _ _ _ _ => True) (fun _ Ur or' Us => ∃ v L, or' = .returned v ∧ Q5 i h0 n0 v Us.heap L ∧ FrameEnd Ur or' Us L 0 0) := by
  refine MetFree.of_bodySF (plainFor_of_name pn_0) hisR ?_
  intro p e s m args below meth c s₁ Bd hml0 hP hK
  obtain ⟨rfl, hZ, hh⟩ := hP
  have hx := Bd.exec
  have hby := Bd.bytes
  have hlk : meth.locks = false := BodyLoose.notSynchronized Bd
  have hml : c.maxLocals = 3 := hml0
  have hown : s.vm.findClass "jdk/internal/util/Preconditions" = some m.cls := findClass_of_methodNamed Bd.named
  have hnm := (name_of_methodNamed Bd.named Bd.method).1
  have X0 : Stand p l e ({ frames := 0, cells := 0, slots := 0, locals := 0 } : Room) s m #[(.int i), (.int ln), (.ref fm)] below meth c s₁ [] 0 0 := Stand.of_body Bd
  have e0 : s₁.heap = h0 := by rw [← hh, Bd.state]; rfl
  have N0 := Fr.nil n0
  show Goes p.tables e below s (Q5 i h0 n0) 0 0 (s₁.setTop (entryFrame m #[(.int i), (.int ln), (.ref fm)] 3))
  refine Goes.of (fun t k => castTop (ef_5 m i ln fm) k) ?_
  show Goes _ _ _ _ _ _ _ (s₁.setTop (mkF m 0 #[.val (.int i), .val (.int ln), .val (.ref fm)] []))
  refine Goes.of (fun t k => XS.iloadN X0.here hx rfl (hb hby d5_0) rfl k) ?_
  show Goes _ _ _ _ _ _ _ (s₁.setTop (mkF m 1 #[.val (.int i), .val (.int ln), .val (.ref fm)] [(.int i)]))
  refine Goes.of (fun t k => XS.ifNo X0.here hx rfl (hb hby d5_1) rfl ((if0 _ _).trans (flt hi0).1) k) ?_
  show Goes _ _ _ _ _ _ _ (s₁.setTop (mkF m 4 #[.val (.int i), .val (.int ln), .val (.ref fm)] []))
  refine Goes.of (fun t k => XS.iloadN X0.here hx rfl (hb hby d5_4) rfl k) ?_
  show Goes _ _ _ _ _ _ _ (s₁.setTop (mkF m 5 #[.val (.int i), .val (.int ln), .val (.ref fm)] [(.int i)]))
  refine Goes.of (fun t k => XS.iloadN X0.here hx rfl (hb hby d5_5) rfl k) ?_
  show Goes _ _ _ _ _ _ _ (s₁.setTop (mkF m 6 #[.val (.int i), .val (.int ln), .val (.ref fm)] [(.int ln), (.int i)]))
  refine Goes.of (fun t k => XS.icmpYes X0.here hx rfl (pc0 := 6) (pc' := 16) rfl (hb hby d5_6) rfl (tlt hlt).1 (by decide) (by decide) k) ?_
  show Goes _ _ _ _ _ _ _ (s₁.setTop (mkF m 16 #[.val (.int i), .val (.int ln), .val (.ref fm)] []))
  refine Goes.of (fun t k => XS.iloadN X0.here hx rfl (hb hby d5_16) rfl k) ?_
  show Goes _ _ _ _ _ _ _ (s₁.setTop (mkF m 17 #[.val (.int i), .val (.int ln), .val (.ref fm)] [(.int i)]))
  exact Goes.fin X0 hlk (v := some (.int i)) (fun h => by rw [Bd.returns] at h; cases h) (fun fs hr => retI X0 hx Bd.returns (hb hby d5_17) hr) ⟨rfl, N0, e0⟩ (by decide) (by decide)
theorem d7_0 : decode jdk_41_method_11_code 0 = .ok (.iload_n 0, 1) := by decide +kernel
theorem d7_1 : decode jdk_41_method_11_code 1 = .ok (.ifCond .lt 8, 3) := by decide +kernel
theorem d7_4 : decode jdk_41_method_11_code 4 = .ok (.iload_n 0, 1) := by decide +kernel
theorem d7_5 : decode jdk_41_method_11_code 5 = .ok (.iload_n 1, 1) := by decide +kernel
theorem d7_6 : decode jdk_41_method_11_code 6 = .ok (.if_icmp .lt 10, 3) := by decide +kernel
theorem d7_9 : decode jdk_41_method_11_code 9 = .ok (.aload_n 2, 1) := by decide +kernel
theorem d7_10 : decode jdk_41_method_11_code 10 = .ok (.iload_n 0, 1) := by decide +kernel
theorem d7_11 : decode jdk_41_method_11_code 11 = .ok (.iload_n 1, 1) := by decide +kernel
theorem d7_12 : decode jdk_41_method_11_code 12 = .ok (.invokestatic 95, 3) := by decide +kernel
theorem d7_15 : decode jdk_41_method_11_code 15 = .ok (.athrow, 1) := by decide +kernel
theorem d7_16 : decode jdk_41_method_11_code 16 = .ok (.iload_n 0, 1) := by decide +kernel
theorem d7_17 : decode jdk_41_method_11_code 17 = .ok (.ireturn, 1) := by decide +kernel
theorem ef_7 (m : MethodId) (i : Int32) (ln : Int32) : entryFrame m #[(.int i), (.int ln), .null] 3 = mkF m 0 #[.val (.int i), .val (.int ln), .val .null] [] := by first | (simp [entryFrame, mkF, argsToLocals, Value.category]; done) | rfl
def Q7 (i : Int32) (h0 : Heap) (n0 : Nat) (v : Option Value) (h : Heap) (L : List Loc) : Prop := v = some (.int i) ∧ Fr n0 L ∧ h = h0
set_option maxRecDepth 65536 in
set_option maxHeartbeats 40000000 in
theorem rm7 (l : Launch) (Z : State) (a0 : Array Value) (hw : ∀ d ∈ tables_1, d.before a0 Z = true) (ws : List Jvm.Cond) (i : Int32) (ln : Int32) (h0 : Heap) (n0 : Nat) (Z0 : n0 ≤ h0.size) (hi0 : ¬ i < (0 : Int32)) (hlt : i < ln) :
    MetFree l (⟨"jdk/internal/util/Preconditions", "checkIndex", "(IILjava/util/function/BiFunction;)I"⟩ : MethodName) (head1 (Jvm.Cond.code (⟨"jdk/internal/util/Preconditions", "checkIndex", "(IILjava/util/function/BiFunction;)I"⟩ : MethodName) jdk_41_method_11_code 3 (some .int) :: ws) ({ frames := 0, cells := 0, slots := 0, locals := 0 } : Room)) (fun ar' Ur => ar' = #[(.int i), (.int ln), .null] ∧ Z.Warmed39 Ur.vm ∧ Ur.heap = h0) (fun _ _ _ _ _ => True) (fun _ Ur or' Us => ∃ v L, or' = .returned v ∧ Q7 i h0 n0 v Us.heap L ∧ FrameEnd Ur or' Us L 0 0) := by
  refine MetFree.of_bodySF (plainFor_of_name pn_0) hisR ?_
  intro p e s m args below meth c s₁ Bd hml0 hP hK
  obtain ⟨rfl, hZ, hh⟩ := hP
  have hx := Bd.exec
  have hby := Bd.bytes
  have hlk : meth.locks = false := BodyLoose.notSynchronized Bd
  have hml : c.maxLocals = 3 := hml0
  have hown : s.vm.findClass "jdk/internal/util/Preconditions" = some m.cls := findClass_of_methodNamed Bd.named
  have hnm := (name_of_methodNamed Bd.named Bd.method).1
  have X0 : Stand p l e ({ frames := 0, cells := 0, slots := 0, locals := 0 } : Room) s m #[(.int i), (.int ln), .null] below meth c s₁ [] 0 0 := Stand.of_body Bd
  have e0 : s₁.heap = h0 := by rw [← hh, Bd.state]; rfl
  have N0 := Fr.nil n0
  show Goes p.tables e below s (Q7 i h0 n0) 0 0 (s₁.setTop (entryFrame m #[(.int i), (.int ln), .null] 3))
  refine Goes.of (fun t k => castTop (ef_7 m i ln) k) ?_
  show Goes _ _ _ _ _ _ _ (s₁.setTop (mkF m 0 #[.val (.int i), .val (.int ln), .val .null] []))
  refine Goes.of (fun t k => XS.iloadN X0.here hx rfl (hb hby d7_0) rfl k) ?_
  show Goes _ _ _ _ _ _ _ (s₁.setTop (mkF m 1 #[.val (.int i), .val (.int ln), .val .null] [(.int i)]))
  refine Goes.of (fun t k => XS.ifNo X0.here hx rfl (hb hby d7_1) rfl ((if0 _ _).trans (flt hi0).1) k) ?_
  show Goes _ _ _ _ _ _ _ (s₁.setTop (mkF m 4 #[.val (.int i), .val (.int ln), .val .null] []))
  refine Goes.of (fun t k => XS.iloadN X0.here hx rfl (hb hby d7_4) rfl k) ?_
  show Goes _ _ _ _ _ _ _ (s₁.setTop (mkF m 5 #[.val (.int i), .val (.int ln), .val .null] [(.int i)]))
  refine Goes.of (fun t k => XS.iloadN X0.here hx rfl (hb hby d7_5) rfl k) ?_
  show Goes _ _ _ _ _ _ _ (s₁.setTop (mkF m 6 #[.val (.int i), .val (.int ln), .val .null] [(.int ln), (.int i)]))
  refine Goes.of (fun t k => XS.icmpYes X0.here hx rfl (pc0 := 6) (pc' := 16) rfl (hb hby d7_6) rfl (tlt hlt).1 (by decide) (by decide) k) ?_
  show Goes _ _ _ _ _ _ _ (s₁.setTop (mkF m 16 #[.val (.int i), .val (.int ln), .val .null] []))
  refine Goes.of (fun t k => XS.iloadN X0.here hx rfl (hb hby d7_16) rfl k) ?_
  show Goes _ _ _ _ _ _ _ (s₁.setTop (mkF m 17 #[.val (.int i), .val (.int ln), .val .null] [(.int i)]))
  exact Goes.fin X0 hlk (v := some (.int i)) (fun h => by rw [Bd.returns] at h; cases h) (fun fs hr => retI X0 hx Bd.returns (hb hby d7_17) hr) ⟨rfl, N0, e0⟩ (by decide) (by decide)
theorem d4_0 : decode jdk_42_method_155_code 0 = .ok (.iload_n 0, 1) := by decide +kernel
theorem d4_1 : decode jdk_42_method_155_code 1 = .ok (.iload_n 1, 1) := by decide +kernel
theorem d4_2 : decode jdk_42_method_155_code 2 = .ok (.getstatic 1053, 3) := by decide +kernel
theorem d4_5 : decode jdk_42_method_155_code 5 = .ok (.invokestatic 1059, 3) := by decide +kernel
theorem d4_8 : decode jdk_42_method_155_code 8 = .ok (.pop, 1) := by decide +kernel
theorem d4_9 : decode jdk_42_method_155_code 9 = .ok (.return_, 1) := by decide +kernel
theorem pn_1 : plainName "java/lang/String" = true := by first | (simp [plainName, overriddenIn]; done) | decide +kernel
theorem pd_0 : parseMethodDescriptor "(IILjava/util/function/BiFunction;)I" = some ⟨[.int, .int, (.object "java/util/function/BiFunction")], some .int⟩ := by decide +kernel
theorem ef_4 (m : MethodId) (i : Int32) (ln : Int32) : entryFrame m #[(.int i), (.int ln)] 2 = mkF m 0 #[.val (.int i), .val (.int ln)] [] := by first | (simp [entryFrame, mkF, argsToLocals, Value.category]; done) | rfl
def Q4 (h0 : Heap) (n0 : Nat) (v : Option Value) (h : Heap) (L : List Loc) : Prop := v = none ∧ Fr n0 L ∧ h = h0
set_option maxRecDepth 65536 in
set_option maxHeartbeats 40000000 in
theorem rm4 (l : Launch) (Z : State) (a0 : Array Value) (hw : ∀ d ∈ tables_1, d.before a0 Z = true) (ws : List Jvm.Cond) (i : Int32) (ln : Int32) (fm : Value) (h0 : Heap) (n0 : Nat) (Z0 : n0 ≤ h0.size) (hfm : fm.isRef = true) (S_fm : Sta Z h0 "jdk/internal/util/Preconditions" "SIOOBE_FORMATTER" "Ljava/util/function/BiFunction;" fm) (hi0 : ¬ i < (0 : Int32)) (hlt : i < ln) :
    MetFree l (⟨"java/lang/String", "checkIndex", "(II)V"⟩ : MethodName) (head1 (Jvm.Cond.code (⟨"java/lang/String", "checkIndex", "(II)V"⟩ : MethodName) jdk_42_method_155_code 2 none :: ws) ({ frames := 1, cells := 0, slots := 0, locals := 14 } : Room)) (fun ar' Ur => ar' = #[(.int i), (.int ln)] ∧ Z.Warmed39 Ur.vm ∧ Ur.heap = h0) (fun _ _ _ _ _ => True) (fun _ Ur or' Us => ∃ v L, or' = .returned v ∧ Q4 h0 n0 v Us.heap L ∧ FrameEnd Ur or' Us L 0 0) := by
  refine MetFree.of_bodySF (plainFor_of_name pn_1) hisR ?_
  intro p e s m args below meth c s₁ Bd hml0 hP hK
  obtain ⟨rfl, hZ, hh⟩ := hP
  have hx := Bd.exec
  have hby := Bd.bytes
  have hlk : meth.locks = false := BodyLoose.notSynchronized Bd
  have hml : c.maxLocals = 2 := hml0
  have hown : s.vm.findClass "java/lang/String" = some m.cls := findClass_of_methodNamed Bd.named
  have hnm := (name_of_methodNamed Bd.named Bd.method).1
  have X0 : Stand p l e ({ frames := 1, cells := 0, slots := 0, locals := 14 } : Room) s m #[(.int i), (.int ln)] below meth c s₁ [] 0 0 := Stand.of_body Bd
  have e0 : s₁.heap = h0 := by rw [← hh, Bd.state]; rfl
  have N0 := Fr.nil n0
  show Goes p.tables e below s (Q4 h0 n0) 0 0 (s₁.setTop (entryFrame m #[(.int i), (.int ln)] 2))
  refine Goes.of (fun t k => castTop (ef_4 m i ln) k) ?_
  show Goes _ _ _ _ _ _ _ (s₁.setTop (mkF m 0 #[.val (.int i), .val (.int ln)] []))
  rcases ref_cases hfm with rfl | ⟨fa, rfl⟩
  · refine Goes.of (fun t k => XS.iloadN X0.here hx rfl (hb hby d4_0) rfl k) ?_
    show Goes _ _ _ _ _ _ _ (s₁.setTop (mkF m 1 #[.val (.int i), .val (.int ln)] [(.int i)]))
    refine Goes.of (fun t k => XS.iloadN X0.here hx rfl (hb hby d4_1) rfl k) ?_
    show Goes _ _ _ _ _ _ _ (s₁.setTop (mkF m 2 #[.val (.int i), .val (.int ln)] [(.int ln), (.int i)]))
    obtain ⟨T1, X1, e1, st1⟩ := getS2 X0 hx hZ hown (host := "") (Or.inl (hw _ (List.mem_of_getElem? (i := 30) rfl))) Via.refl e0 S_fm (g := (mkF m 2 #[.val (.int i), .val (.int ln)] [(.int ln), (.int i)])) rfl (hb hby d4_2)
    refine Goes.of st1 ?_
    show Goes _ _ _ _ _ _ _ (T1.setTop (mkF m 5 #[.val (.int i), .val (.int ln)] [.null, (.int ln), (.int i)]))
    obtain ⟨_, _, ⟨T2, L2, k2, n2⟩, -, X2, ⟨Lc2, hQ2, l2, y2, z2⟩, st2⟩ := Jvm.LawKit.callS X1 hx (y := (⟨"jdk/internal/util/Preconditions", "checkIndex", "(IILjava/util/function/BiFunction;)I"⟩ : MethodName)) hown (mvT hZ (hw _ (List.mem_of_getElem? (i := 32) rfl))) (mvT hZ (hw _ (List.mem_of_getElem? (i := 33) rfl))) (mvT hZ (hw _ (List.mem_of_getElem? (i := 31) rfl))) (mvT hZ (hw _ (List.mem_of_getElem? (i := 34) rfl))) (by decide) (backOf (W := 0) (rm7 l Z a0 hw [] i ln  h0 n0 Z0 hi0 hlt) hZ (hw _ (List.mem_of_getElem? (i := 34) rfl)) (hw _ (List.mem_of_getElem? (i := 31) rfl)) (by decide) (by decide)) (g := (mkF m 5 #[.val (.int i), .val (.int ln)] [.null, (.int ln), (.int i)])) rfl (by rw [hml]; rfl) (argsL := [(.int i), (.int ln), .null]) (rest := []) (lenOf pd_0 rfl) rfl (by show 2 * 0 + _ ≤ _; exact Nat.le_of_eq rfl) (hb hby d4_5) (fun _ _ => ⟨rfl, e1, (by decide : 0 + 0 ≤ _), (by decide : 0 + 0 ≤ _)⟩)
    dsimp only [Pt.U, Pt.locs, Pt.cells, Pt.slots] at X2 l2 y2 z2 st2 hQ2
    replace l2 := l2.symm
    replace y2 := y2.symm
    replace z2 := z2.symm
    subst l2 y2 z2
    obtain ⟨rfl, N2q, e2⟩ := hQ2
    have N2 := Fr.app N0 N2q
    refine Goes.of st2 ?_
    show Goes _ _ _ _ _ _ _ (T2.setTop (mkF m 8 #[.val (.int i), .val (.int ln)] [(.int i)]))
    refine Goes.of (fun t k => XS.pop X2.here hx rfl (hb hby d4_8) rfl rfl k) ?_
    show Goes _ _ _ _ _ _ _ (T2.setTop (mkF m 9 #[.val (.int i), .val (.int ln)] []))
    exact Goes.fin X2 hlk (v := none) (fun _ => rfl) (fun fs hr => X2.returnOut hx Bd.returns (hb hby d4_9) hr) ⟨rfl, N2, e2⟩ (by decide) (by decide)
  · refine Goes.of (fun t k => XS.iloadN X0.here hx rfl (hb hby d4_0) rfl k) ?_
    show Goes _ _ _ _ _ _ _ (s₁.setTop (mkF m 1 #[.val (.int i), .val (.int ln)] [(.int i)]))
    refine Goes.of (fun t k => XS.iloadN X0.here hx rfl (hb hby d4_1) rfl k) ?_
    show Goes _ _ _ _ _ _ _ (s₁.setTop (mkF m 2 #[.val (.int i), .val (.int ln)] [(.int ln), (.int i)]))
    obtain ⟨T3, X3, e3, st3⟩ := getS2 X0 hx hZ hown (host := "") (Or.inl (hw _ (List.mem_of_getElem? (i := 30) rfl))) Via.refl e0 S_fm (g := (mkF m 2 #[.val (.int i), .val (.int ln)] [(.int ln), (.int i)])) rfl (hb hby d4_2)
    refine Goes.of st3 ?_
    show Goes _ _ _ _ _ _ _ (T3.setTop (mkF m 5 #[.val (.int i), .val (.int ln)] [(.ref fa), (.int ln), (.int i)]))
    obtain ⟨_, _, ⟨T4, L4, k4, n4⟩, -, X4, ⟨Lc4, hQ4, l4, y4, z4⟩, st4⟩ := Jvm.LawKit.callS X3 hx (y := (⟨"jdk/internal/util/Preconditions", "checkIndex", "(IILjava/util/function/BiFunction;)I"⟩ : MethodName)) hown (mvT hZ (hw _ (List.mem_of_getElem? (i := 32) rfl))) (mvT hZ (hw _ (List.mem_of_getElem? (i := 33) rfl))) (mvT hZ (hw _ (List.mem_of_getElem? (i := 31) rfl))) (mvT hZ (hw _ (List.mem_of_getElem? (i := 34) rfl))) (by decide) (backOf (W := 0) (rm5 l Z a0 hw [] i ln fa  h0 n0 Z0 hi0 hlt) hZ (hw _ (List.mem_of_getElem? (i := 34) rfl)) (hw _ (List.mem_of_getElem? (i := 31) rfl)) (by decide) (by decide)) (g := (mkF m 5 #[.val (.int i), .val (.int ln)] [(.ref fa), (.int ln), (.int i)])) rfl (by rw [hml]; rfl) (argsL := [(.int i), (.int ln), (.ref fa)]) (rest := []) (lenOf pd_0 rfl) rfl (by show 2 * 0 + _ ≤ _; exact Nat.le_of_eq rfl) (hb hby d4_5) (fun _ _ => ⟨rfl, e3, (by decide : 0 + 0 ≤ _), (by decide : 0 + 0 ≤ _)⟩)
    dsimp only [Pt.U, Pt.locs, Pt.cells, Pt.slots] at X4 l4 y4 z4 st4 hQ4
    replace l4 := l4.symm
    replace y4 := y4.symm
    replace z4 := z4.symm
    subst l4 y4 z4
    obtain ⟨rfl, N4q, e4⟩ := hQ4
    have N4 := Fr.app N0 N4q
    refine Goes.of st4 ?_
    show Goes _ _ _ _ _ _ _ (T4.setTop (mkF m 8 #[.val (.int i), .val (.int ln)] [(.int i)]))
    refine Goes.of (fun t k => XS.pop X4.here hx rfl (hb hby d4_8) rfl rfl k) ?_
    show Goes _ _ _ _ _ _ _ (T4.setTop (mkF m 9 #[.val (.int i), .val (.int ln)] []))
    exact Goes.fin X4 hlk (v := none) (fun _ => rfl) (fun fs hr => X4.returnOut hx Bd.returns (hb hby d4_9) hr) ⟨rfl, N4, e4⟩ (by decide) (by decide)
theorem d3_0 : decode jdk_43_method_2_code 0 = .ok (.iload_n 1, 1) := by decide +kernel
theorem d3_1 : decode jdk_43_method_2_code 1 = .ok (.aload_n 0, 1) := by decide +kernel
theorem d3_2 : decode jdk_43_method_2_code 2 = .ok (.arraylength, 1) := by decide +kernel
theorem d3_3 : decode jdk_43_method_2_code 3 = .ok (.invokestatic 9, 3) := by decide +kernel
theorem d3_6 : decode jdk_43_method_2_code 6 = .ok (.aload_n 0, 1) := by decide +kernel
theorem d3_7 : decode jdk_43_method_2_code 7 = .ok (.iload_n 1, 1) := by decide +kernel
theorem d3_8 : decode jdk_43_method_2_code 8 = .ok (.baload, 1) := by decide +kernel
theorem d3_9 : decode jdk_43_method_2_code 9 = .ok (.sipush 255, 3) := by decide +kernel
theorem d3_12 : decode jdk_43_method_2_code 12 = .ok (.iand, 1) := by decide +kernel
theorem d3_13 : decode jdk_43_method_2_code 13 = .ok (.i2c, 1) := by decide +kernel
theorem d3_14 : decode jdk_43_method_2_code 14 = .ok (.ireturn, 1) := by decide +kernel
theorem pn_2 : plainName "java/lang/StringLatin1" = true := by first | (simp [plainName, overriddenIn]; done) | decide +kernel
theorem pd_1 : parseMethodDescriptor "(II)V" = some ⟨[.int, .int], none⟩ := by decide +kernel
theorem ef_3 (m : MethodId) (b : Addr) (i : Int32) : entryFrame m #[(.ref b), (.int i)] 2 = mkF m 0 #[.val (.ref b), .val (.int i)] [] := by first | (simp [entryFrame, mkF, argsToLocals, Value.category]; done) | rfl
def Q3 (f : Nat → Int32) (i : Int32) (h0 : Heap) (n0 : Nat) (v : Option Value) (h : Heap) (L : List Loc) : Prop := v = some (.int (f i.toNatClampNeg &&& (255 : Int32))) ∧ Fr n0 L ∧ h = h0
set_option maxRecDepth 65536 in
set_option maxHeartbeats 40000000 in
theorem rm3 (l : Launch) (Z : State) (a0 : Array Value) (hw : ∀ d ∈ tables_1, d.before a0 Z = true) (ws : List Jvm.Cond) (b : Addr) (i : Int32) (n : Nat) (z : Int32) (f : Nat → Int32) (fm : Value) (h0 : Heap) (n0 : Nat) (Z0 : n0 ≤ h0.size) (V_b : AI Z h0 b .byte n f) (hz : z.toInt = n) (hfm : fm.isRef = true) (S_fm : Sta Z h0 "jdk/internal/util/Preconditions" "SIOOBE_FORMATTER" "Ljava/util/function/BiFunction;" fm) (hi0 : ¬ i < (0 : Int32)) (hlt : i < z) :
    MetFree l (⟨"java/lang/StringLatin1", "charAt", "([BI)C"⟩ : MethodName) (head1 (Jvm.Cond.code (⟨"java/lang/StringLatin1", "charAt", "([BI)C"⟩ : MethodName) jdk_43_method_2_code 2 (some .char) :: ws) ({ frames := 2, cells := 0, slots := 0, locals := 27 } : Room)) (fun ar' Ur => ar' = #[(.ref b), (.int i)] ∧ Z.Warmed39 Ur.vm ∧ Ur.heap = h0) (fun _ _ _ _ _ => True) (fun _ Ur or' Us => ∃ v L, or' = .returned v ∧ Q3 f i h0 n0 v Us.heap L ∧ FrameEnd Ur or' Us L 0 0) := by
  refine MetFree.of_bodySF (plainFor_of_name pn_2) hisR ?_
  intro p e s m args below meth c s₁ Bd hml0 hP hK
  obtain ⟨rfl, hZ, hh⟩ := hP
  have hx := Bd.exec
  have hby := Bd.bytes
  have hlk : meth.locks = false := BodyLoose.notSynchronized Bd
  have hml : c.maxLocals = 2 := hml0
  have hown : s.vm.findClass "java/lang/StringLatin1" = some m.cls := findClass_of_methodNamed Bd.named
  have hnm := (name_of_methodNamed Bd.named Bd.method).1
  have X0 : Stand p l e ({ frames := 2, cells := 0, slots := 0, locals := 27 } : Room) s m #[(.ref b), (.int i)] below meth c s₁ [] 0 0 := Stand.of_body Bd
  have e0 : s₁.heap = h0 := by rw [← hh, Bd.state]; rfl
  have N0 := Fr.nil n0
  show Goes p.tables e below s (Q3 f i h0 n0) 0 0 (s₁.setTop (entryFrame m #[(.ref b), (.int i)] 2))
  refine Goes.of (fun t k => castTop (ef_3 m b i) k) ?_
  show Goes _ _ _ _ _ _ _ (s₁.setTop (mkF m 0 #[.val (.ref b), .val (.int i)] []))
  refine Goes.of (fun t k => XS.iloadN X0.here hx rfl (hb hby d3_0) rfl k) ?_
  show Goes _ _ _ _ _ _ _ (s₁.setTop (mkF m 1 #[.val (.ref b), .val (.int i)] [(.int i)]))
  refine Goes.of (fun t k => XS.aloadN X0.here hx rfl (hb hby d3_1) rfl rfl k) ?_
  show Goes _ _ _ _ _ _ _ (s₁.setTop (mkF m 2 #[.val (.ref b), .val (.int i)] [(.ref b), (.int i)]))
  refine Goes.of (fun t k => lenA X0 hx hZ e0 V_b (z := z) hz (g := (mkF m 2 #[.val (.ref b), .val (.int i)] [(.ref b), (.int i)])) rfl rfl (hb hby d3_2) t k) ?_
  show Goes _ _ _ _ _ _ _ (s₁.setTop (mkF m 3 #[.val (.ref b), .val (.int i)] [(.int z), (.int i)]))
  obtain ⟨_, _, ⟨T5, L5, k5, n5⟩, -, X5, ⟨Lc5, hQ5, l5, y5, z5⟩, st5⟩ := Jvm.LawKit.callS X0 hx (y := (⟨"java/lang/String", "checkIndex", "(II)V"⟩ : MethodName)) hown (mvT hZ (hw _ (List.mem_of_getElem? (i := 27) rfl))) (mvT hZ (hw _ (List.mem_of_getElem? (i := 28) rfl))) (mvT hZ (hw _ (List.mem_of_getElem? (i := 3) rfl))) (mvT hZ (hw _ (List.mem_of_getElem? (i := 29) rfl))) (by decide) (backOf (W := 0) (rm4 l Z a0 hw [] i z fm h0 n0 Z0 hfm S_fm hi0 hlt) hZ (hw _ (List.mem_of_getElem? (i := 29) rfl)) (hw _ (List.mem_of_getElem? (i := 3) rfl)) (by decide) (by decide)) (g := (mkF m 3 #[.val (.ref b), .val (.int i)] [(.int z), (.int i)])) rfl (by rw [hml]; rfl) (argsL := [(.int i), (.int z)]) (rest := []) (lenOf pd_1 rfl) rfl (by show 2 * 0 + _ ≤ _; exact Nat.le_of_eq rfl) (hb hby d3_3) (fun _ _ => ⟨rfl, e0, (by decide : 0 + 0 ≤ _), (by decide : 0 + 0 ≤ _)⟩)
  dsimp only [Pt.U, Pt.locs, Pt.cells, Pt.slots] at X5 l5 y5 z5 st5 hQ5
  replace l5 := l5.symm
  replace y5 := y5.symm
  replace z5 := z5.symm
  subst l5 y5 z5
  obtain ⟨rfl, N5q, e5⟩ := hQ5
  have N5 := Fr.app N0 N5q
  refine Goes.of st5 ?_
  show Goes _ _ _ _ _ _ _ (T5.setTop (mkF m 6 #[.val (.ref b), .val (.int i)] []))
  refine Goes.of (fun t k => XS.aloadN X5.here hx rfl (hb hby d3_6) rfl rfl k) ?_
  show Goes _ _ _ _ _ _ _ (T5.setTop (mkF m 7 #[.val (.ref b), .val (.int i)] [(.ref b)]))
  refine Goes.of (fun t k => XS.iloadN X5.here hx rfl (hb hby d3_7) rfl k) ?_
  show Goes _ _ _ _ _ _ _ (T5.setTop (mkF m 8 #[.val (.ref b), .val (.int i)] [(.int i), (.ref b)]))
  have hlt' := own_ltI hlt
  have hnn' := nat_of hi0
  refine Goes.of (fun t k => ldB X5 hx hZ e5 V_b (j := i) (i := i.toNatClampNeg) (v := (f i.toNatClampNeg)) hi0 rfl (by omega) rfl (g := (mkF m 8 #[.val (.ref b), .val (.int i)] [(.int i), (.ref b)])) rfl rfl (hb hby d3_8) t k) ?_
  show Goes _ _ _ _ _ _ _ (T5.setTop (mkF m 9 #[.val (.ref b), .val (.int i)] [(.int (f i.toNatClampNeg))]))
  refine Goes.of (fun t k => XS.sipush X5.here hx rfl (hb hby d3_9) k) ?_
  show Goes _ _ _ _ _ _ _ (T5.setTop (mkF m 12 #[.val (.ref b), .val (.int i)] [(.int (255 : Int32)), (.int (f i.toNatClampNeg))]))
  refine Goes.of (fun t k => XS.iand X5.here hx rfl (hb hby d3_12) rfl k) ?_
  show Goes _ _ _ _ _ _ _ (T5.setTop (mkF m 13 #[.val (.ref b), .val (.int i)] [(.int ((f i.toNatClampNeg) &&& (255 : Int32)))]))
  refine Goes.of (fun t k => XS.i2c X5.here hx rfl (hb hby d3_13) rfl k) ?_
  show Goes _ _ _ _ _ _ _ (T5.setTop (mkF m 14 #[.val (.ref b), .val (.int i)] [(.int (((f i.toNatClampNeg) &&& (255 : Int32)).toUInt32.toUInt16.toUInt32.toInt32))]))
  exact Goes.fin X5 hlk (v := some (.int ((((f i.toNatClampNeg) &&& (255 : Int32)).toUInt32.toUInt16.toUInt32.toInt32).toUInt32.toUInt16.toUInt32.toInt32))) (fun h => by rw [Bd.returns] at h; cases h) (fun fs hr => retN X5 hx (t := .char) Bd.returns (by simp) (hb hby d3_14) hr) ⟨congrArg (fun z => some (Value.int z)) (by rw [i2c_mask, i2c_mask]), N5, e5⟩ (by decide) (by decide)
theorem d2_0 : decode jdk_42_method_154_code 0 = .ok (.getstatic 38, 3) := by decide +kernel
theorem d2_3 : decode jdk_42_method_154_code 3 = .ok (.ifCond .eq 14, 3) := by decide +kernel
theorem d2_6 : decode jdk_42_method_154_code 6 = .ok (.aload_n 0, 1) := by decide +kernel
theorem d2_7 : decode jdk_42_method_154_code 7 = .ok (.getfield 15, 3) := by decide +kernel
theorem d2_10 : decode jdk_42_method_154_code 10 = .ok (.ifCond .ne 7, 3) := by decide +kernel
theorem d2_13 : decode jdk_42_method_154_code 13 = .ok (.iconst 1, 1) := by decide +kernel
theorem d2_14 : decode jdk_42_method_154_code 14 = .ok (.goto 4, 3) := by decide +kernel
theorem d2_17 : decode jdk_42_method_154_code 17 = .ok (.iconst 0, 1) := by decide +kernel
theorem d2_18 : decode jdk_42_method_154_code 18 = .ok (.ireturn, 1) := by decide +kernel
theorem ef_2 (m : MethodId) (o : Addr) : entryFrame m #[(.ref o)] 1 = mkF m 0 #[.val (.ref o)] [] := by first | (simp [entryFrame, mkF, argsToLocals, Value.category]; done) | rfl
def Q2 (h0 : Heap) (n0 : Nat) (v : Option Value) (h : Heap) (L : List Loc) : Prop := v = some (.int 1) ∧ Fr n0 L ∧ h = h0
set_option maxRecDepth 65536 in
set_option maxHeartbeats 40000000 in
theorem rm2 (l : Launch) (Z : State) (a0 : Array Value) (hw : ∀ d ∈ tables_1, d.before a0 Z = true) (ws : List Jvm.Cond) (o : Addr) (cs : Int32) (h0 : Heap) (n0 : Nat) (Z0 : n0 ≤ h0.size) (S_cs : Sta Z h0 "java/lang/String" "COMPACT_STRINGS" "Z" (.int cs)) (hcs : ¬ cs = (0 : Int32)) (F_c : Fld Z h0 o "java/lang/String" "coder" "B" (.int (0 : Int32))) :
    MetFree l (⟨"java/lang/String", "isLatin1", "()Z"⟩ : MethodName) (head1 (Jvm.Cond.code (⟨"java/lang/String", "isLatin1", "()Z"⟩ : MethodName) jdk_42_method_154_code 1 (some .boolean) :: ws) ({ frames := 0, cells := 0, slots := 0, locals := 0 } : Room)) (fun ar' Ur => ar' = #[(.ref o)] ∧ Z.Warmed39 Ur.vm ∧ Ur.heap = h0) (fun _ _ _ _ _ => True) (fun _ Ur or' Us => ∃ v L, or' = .returned v ∧ Q2 h0 n0 v Us.heap L ∧ FrameEnd Ur or' Us L 0 0) := by
  refine MetFree.of_bodySF (plainFor_of_name pn_1) hisR ?_
  intro p e s m args below meth c s₁ Bd hml0 hP hK
  obtain ⟨rfl, hZ, hh⟩ := hP
  have hx := Bd.exec
  have hby := Bd.bytes
  have hlk : meth.locks = false := BodyLoose.notSynchronized Bd
  have hml : c.maxLocals = 1 := hml0
  have hown : s.vm.findClass "java/lang/String" = some m.cls := findClass_of_methodNamed Bd.named
  have hnm := (name_of_methodNamed Bd.named Bd.method).1
  have X0 : Stand p l e ({ frames := 0, cells := 0, slots := 0, locals := 0 } : Room) s m #[(.ref o)] below meth c s₁ [] 0 0 := Stand.of_body Bd
  have e0 : s₁.heap = h0 := by rw [← hh, Bd.state]; rfl
  have N0 := Fr.nil n0
  show Goes p.tables e below s (Q2 h0 n0) 0 0 (s₁.setTop (entryFrame m #[(.ref o)] 1))
  refine Goes.of (fun t k => castTop (ef_2 m o) k) ?_
  show Goes _ _ _ _ _ _ _ (s₁.setTop (mkF m 0 #[.val (.ref o)] []))
  obtain ⟨T6, X6, e6, st6⟩ := getS2 X0 hx hZ hown (host := "") (Or.inl (hw _ (List.mem_of_getElem? (i := 20) rfl))) Via.refl e0 S_cs (g := (mkF m 0 #[.val (.ref o)] [])) rfl (hb hby d2_0)
  refine Goes.of st6 ?_
  show Goes _ _ _ _ _ _ _ (T6.setTop (mkF m 3 #[.val (.ref o)] [(.int cs)]))
  refine Goes.of (fun t k => XS.ifNo X6.here hx rfl (hb hby d2_3) rfl ((if0 _ _).trans (feq hcs).1) k) ?_
  show Goes _ _ _ _ _ _ _ (T6.setTop (mkF m 6 #[.val (.ref o)] []))
  refine Goes.of (fun t k => XS.aloadN X6.here hx rfl (hb hby d2_6) rfl rfl k) ?_
  show Goes _ _ _ _ _ _ _ (T6.setTop (mkF m 7 #[.val (.ref o)] [(.ref o)]))
  obtain ⟨T7, X7, e7, st7⟩ := getF X6 hx hZ hown (host := "") (Or.inl (hw _ (List.mem_of_getElem? (i := 21) rfl))) Via.refl e6 F_c (g := (mkF m 7 #[.val (.ref o)] [(.ref o)])) rfl rfl (hb hby d2_7)
  refine Goes.of st7 ?_
  show Goes _ _ _ _ _ _ _ (T7.setTop (mkF m 10 #[.val (.ref o)] [(.int (0 : Int32))]))
  refine Goes.of (fun t k => XS.ifNo X7.here hx rfl (hb hby d2_10) rfl ((if0 _ _).trans (teq (rfl : (0 : Int32) = (0 : Int32))).2) k) ?_
  show Goes _ _ _ _ _ _ _ (T7.setTop (mkF m 13 #[.val (.ref o)] []))
  refine Goes.of (fun t k => XS.iconst X7.here hx rfl (hb hby d2_13) k) ?_
  show Goes _ _ _ _ _ _ _ (T7.setTop (mkF m 14 #[.val (.ref o)] [(.int (1 : Int32))]))
  refine Goes.of (fun t k => XS.goto X7.here hx rfl (pc0 := 14) (pc' := 18) rfl (hb hby d2_14) (by decide) (by decide) k) ?_
  show Goes _ _ _ _ _ _ _ (T7.setTop (mkF m 18 #[.val (.ref o)] [(.int (1 : Int32))]))
  exact Goes.fin X7 hlk (v := some (.int (1 : Int32))) (fun h => by rw [Bd.returns] at h; cases h) (fun fs hr => retN X7 hx (t := .boolean) Bd.returns (by simp) (hb hby d2_18) hr) ⟨rfl, N0, e7⟩ (by decide) (by decide)
theorem d1_0 : decode jdk_42_method_56_code 0 = .ok (.aload_n 0, 1) := by decide +kernel
theorem d1_1 : decode jdk_42_method_56_code 1 = .ok (.invokevirtual 492, 3) := by decide +kernel
theorem d1_4 : decode jdk_42_method_56_code 4 = .ok (.ifCond .eq 12, 3) := by decide +kernel
theorem d1_7 : decode jdk_42_method_56_code 7 = .ok (.aload_n 0, 1) := by decide +kernel
theorem d1_8 : decode jdk_42_method_56_code 8 = .ok (.getfield 9, 3) := by decide +kernel
theorem d1_11 : decode jdk_42_method_56_code 11 = .ok (.iload_n 1, 1) := by decide +kernel
theorem d1_12 : decode jdk_42_method_56_code 12 = .ok (.invokestatic 495, 3) := by decide +kernel
theorem d1_15 : decode jdk_42_method_56_code 15 = .ok (.ireturn, 1) := by decide +kernel
theorem d1_16 : decode jdk_42_method_56_code 16 = .ok (.aload_n 0, 1) := by decide +kernel
theorem d1_17 : decode jdk_42_method_56_code 17 = .ok (.getfield 9, 3) := by decide +kernel
theorem d1_20 : decode jdk_42_method_56_code 20 = .ok (.iload_n 1, 1) := by decide +kernel
theorem d1_21 : decode jdk_42_method_56_code 21 = .ok (.invokestatic 498, 3) := by decide +kernel
theorem d1_24 : decode jdk_42_method_56_code 24 = .ok (.ireturn, 1) := by decide +kernel
theorem pd_2 : parseMethodDescriptor "()Z" = some ⟨[], some .boolean⟩ := by decide +kernel
theorem pd_3 : parseMethodDescriptor "([BI)C" = some ⟨[(.array .byte), .int], some .char⟩ := by decide +kernel
theorem ef_1 (m : MethodId) (o : Addr) (i : Int32) : entryFrame m #[(.ref o), (.int i)] 2 = mkF m 0 #[.val (.ref o), .val (.int i)] [] := by first | (simp [entryFrame, mkF, argsToLocals, Value.category]; done) | rfl
def Q1 (f : Nat → Int32) (i : Int32) (h0 : Heap) (n0 : Nat) (v : Option Value) (h : Heap) (L : List Loc) : Prop := v = some (.int (f i.toNatClampNeg &&& (255 : Int32))) ∧ Fr n0 L ∧ h = h0
set_option maxRecDepth 65536 in
set_option maxHeartbeats 40000000 in
theorem rm1 (l : Launch) (Z : State) (a0 : Array Value) (hw : ∀ d ∈ tables_1, d.before a0 Z = true) (ws : List Jvm.Cond) (o : Addr) (i : Int32) (b : Addr) (n : Nat) (z : Int32) (f : Nat → Int32) (cs : Int32) (fm : Value) (h0 : Heap) (n0 : Nat) (Z0 : n0 ≤ h0.size) (E_o : Exa Z h0 o "java/lang/String") (F_c : Fld Z h0 o "java/lang/String" "coder" "B" (.int (0 : Int32))) (F_v : Fld Z h0 o "java/lang/String" "value" "[B" (.ref b)) (V_b : AI Z h0 b .byte n f) (hz : z.toInt = n) (S_cs : Sta Z h0 "java/lang/String" "COMPACT_STRINGS" "Z" (.int cs)) (hcs : ¬ cs = (0 : Int32)) (hfm : fm.isRef = true) (S_fm : Sta Z h0 "jdk/internal/util/Preconditions" "SIOOBE_FORMATTER" "Ljava/util/function/BiFunction;" fm) (hi0 : ¬ i < (0 : Int32)) (hlt : i < z) :
    MetFree l (⟨"java/lang/String", "charAt", "(I)C"⟩ : MethodName) (head1 (Jvm.Cond.code (⟨"java/lang/String", "charAt", "(I)C"⟩ : MethodName) jdk_42_method_56_code 2 (some .char) :: ws) ({ frames := 3, cells := 0, slots := 0, locals := 40 } : Room)) (fun ar' Ur => ar' = #[(.ref o), (.int i)] ∧ Z.Warmed39 Ur.vm ∧ Ur.heap = h0) (fun _ _ _ _ _ => True) (fun _ Ur or' Us => ∃ v L, or' = .returned v ∧ Q1 f i h0 n0 v Us.heap L ∧ FrameEnd Ur or' Us L 0 0) := by
  refine MetFree.of_bodySF (plainFor_of_name pn_1) hisR ?_
  intro p e s m args below meth c s₁ Bd hml0 hP hK
  obtain ⟨rfl, hZ, hh⟩ := hP
  have hx := Bd.exec
  have hby := Bd.bytes
  have hlk : meth.locks = false := BodyLoose.notSynchronized Bd
  have hml : c.maxLocals = 2 := hml0
  have hown : s.vm.findClass "java/lang/String" = some m.cls := findClass_of_methodNamed Bd.named
  have hnm := (name_of_methodNamed Bd.named Bd.method).1
  have X0 : Stand p l e ({ frames := 3, cells := 0, slots := 0, locals := 40 } : Room) s m #[(.ref o), (.int i)] below meth c s₁ [] 0 0 := Stand.of_body Bd
  have e0 : s₁.heap = h0 := by rw [← hh, Bd.state]; rfl
  have N0 := Fr.nil n0
  show Goes p.tables e below s (Q1 f i h0 n0) 0 0 (s₁.setTop (entryFrame m #[(.ref o), (.int i)] 2))
  refine Goes.of (fun t k => castTop (ef_1 m o i) k) ?_
  show Goes _ _ _ _ _ _ _ (s₁.setTop (mkF m 0 #[.val (.ref o), .val (.int i)] []))
  refine Goes.of (fun t k => XS.aloadN X0.here hx rfl (hb hby d1_0) rfl rfl k) ?_
  show Goes _ _ _ _ _ _ _ (s₁.setTop (mkF m 1 #[.val (.ref o), .val (.int i)] [(.ref o)]))
  obtain ⟨cq8, kq8, q8a, q8b, q8c⟩ := isOf hZ e0 E_o
  obtain ⟨_, _, ⟨T8, L8, k8, n8⟩, -, X8, ⟨Lc8, hQ8, l8, y8, z8⟩, st8⟩ := X0.virtualBack hx (y := (⟨"java/lang/String", "isLatin1", "()Z"⟩ : MethodName)) (z := (⟨"java/lang/String", "isLatin1", "()Z"⟩ : MethodName)) hown (mvT hZ (hw _ (List.mem_of_getElem? (i := 15) rfl))) (mvT hZ (hw _ (List.mem_of_getElem? (i := 16) rfl))) (notFace_of_selects (args := #[]) (mvT hZ (hw _ (List.mem_of_getElem? (i := 18) rfl)))) (mvT hZ (hw _ (List.mem_of_getElem? (i := 18) rfl))) (mvT hZ (hw _ (List.mem_of_getElem? (i := 17) rfl))) (by decide) (backOf (W := 0) (rm2 l Z a0 hw [] o cs h0 n0 Z0 S_cs hcs F_c) hZ (hw _ (List.mem_of_getElem? (i := 19) rfl)) (hw _ (List.mem_of_getElem? (i := 3) rfl)) (by decide) (by decide)) q8a q8c (g := (mkF m 1 #[.val (.ref o), .val (.int i)] [(.ref o)])) rfl (by rw [hml]; rfl) (Steps.refl _) (argsL := []) (rest := []) (lenOf pd_2 rfl) rfl (by show 2 * 0 + _ ≤ _; exact Nat.le_of_eq rfl) (hb hby d1_1) (fun _ _ => ⟨rfl, e0, (by decide : 0 + 0 ≤ _), (by decide : 0 + 0 ≤ _)⟩)
  dsimp only [Pt.U, Pt.locs, Pt.cells, Pt.slots] at X8 l8 y8 z8 st8 hQ8
  replace l8 := l8.symm
  replace y8 := y8.symm
  replace z8 := z8.symm
  subst l8 y8 z8
  obtain ⟨rfl, N8q, e8⟩ := hQ8
  have N8 := Fr.app N0 N8q
  refine Goes.of (fun t k => st8.trans k) ?_
  show Goes _ _ _ _ _ _ _ (T8.setTop (mkF m 4 #[.val (.ref o), .val (.int i)] [(.int (1 : Int32))]))
  refine Goes.of (fun t k => XS.ifNo X8.here hx rfl (hb hby d1_4) rfl ((if0 _ _).trans (feq (by decide : ¬ ((1 : Int32) = (0 : Int32)))).1) k) ?_
  show Goes _ _ _ _ _ _ _ (T8.setTop (mkF m 7 #[.val (.ref o), .val (.int i)] []))
  refine Goes.of (fun t k => XS.aloadN X8.here hx rfl (hb hby d1_7) rfl rfl k) ?_
  show Goes _ _ _ _ _ _ _ (T8.setTop (mkF m 8 #[.val (.ref o), .val (.int i)] [(.ref o)]))
  obtain ⟨T9, X9, e9, st9⟩ := getF X8 hx hZ hown (host := "") (Or.inl (hw _ (List.mem_of_getElem? (i := 22) rfl))) Via.refl e8 F_v (g := (mkF m 8 #[.val (.ref o), .val (.int i)] [(.ref o)])) rfl rfl (hb hby d1_8)
  refine Goes.of st9 ?_
  show Goes _ _ _ _ _ _ _ (T9.setTop (mkF m 11 #[.val (.ref o), .val (.int i)] [(.ref b)]))
  refine Goes.of (fun t k => XS.iloadN X9.here hx rfl (hb hby d1_11) rfl k) ?_
  show Goes _ _ _ _ _ _ _ (T9.setTop (mkF m 12 #[.val (.ref o), .val (.int i)] [(.int i), (.ref b)]))
  obtain ⟨_, _, ⟨T10, L10, k10, n10⟩, -, X10, ⟨Lc10, hQ10, l10, y10, z10⟩, st10⟩ := Jvm.LawKit.callS X9 hx (y := (⟨"java/lang/StringLatin1", "charAt", "([BI)C"⟩ : MethodName)) hown (mvT hZ (hw _ (List.mem_of_getElem? (i := 23) rfl))) (mvT hZ (hw _ (List.mem_of_getElem? (i := 24) rfl))) (mvT hZ (hw _ (List.mem_of_getElem? (i := 25) rfl))) (mvT hZ (hw _ (List.mem_of_getElem? (i := 26) rfl))) (by decide) (backOf (W := 0) (rm3 l Z a0 hw [] b i n z f fm h0 n0 Z0 V_b hz hfm S_fm hi0 hlt) hZ (hw _ (List.mem_of_getElem? (i := 26) rfl)) (hw _ (List.mem_of_getElem? (i := 25) rfl)) (by decide) (by decide)) (g := (mkF m 12 #[.val (.ref o), .val (.int i)] [(.int i), (.ref b)])) rfl (by rw [hml]; rfl) (argsL := [(.ref b), (.int i)]) (rest := []) (lenOf pd_3 rfl) rfl (by show 2 * 0 + _ ≤ _; exact Nat.le_of_eq rfl) (hb hby d1_12) (fun _ _ => ⟨rfl, e9, (by decide : 0 + 0 ≤ _), (by decide : 0 + 0 ≤ _)⟩)
  dsimp only [Pt.U, Pt.locs, Pt.cells, Pt.slots] at X10 l10 y10 z10 st10 hQ10
  replace l10 := l10.symm
  replace y10 := y10.symm
  replace z10 := z10.symm
  subst l10 y10 z10
  obtain ⟨rfl, N10q, e10⟩ := hQ10
  have N10 := Fr.app N8 N10q
  refine Goes.of st10 ?_
  show Goes _ _ _ _ _ _ _ (T10.setTop (mkF m 15 #[.val (.ref o), .val (.int i)] [(.int (f i.toNatClampNeg &&& (255 : Int32)))]))
  exact Goes.fin X10 hlk (v := some (.int ((f i.toNatClampNeg &&& (255 : Int32)).toUInt32.toUInt16.toUInt32.toInt32))) (fun h => by rw [Bd.returns] at h; cases h) (fun fs hr => retN X10 hx (t := .char) Bd.returns (by simp) (hb hby d1_15) hr) ⟨congrArg (fun z => some (Value.int z)) (by rw [i2c_mask]), N10, e10⟩ (by decide) (by decide)
theorem own_add3 {i : Int32} {k : Int32} {K : Int} (hk : k.toInt = K) (h0 : 0 ≤ i.toInt ∧ i.toInt ≤ 3) (h1 : 0 ≤ K ∧ K ≤ 3) : (i + k).toInt = i.toInt + K := by
  have a := c_iadd i k
  have r := rng32 (i + k)
  omega
theorem d6_0 : decode prog_78_method_2_code 0 = .ok (.aload_n 0, 1) := by decide +kernel
theorem d6_1 : decode prog_78_method_2_code 1 = .ok (.iload_n 1, 1) := by decide +kernel
theorem d6_2 : decode prog_78_method_2_code 2 = .ok (.iaload, 1) := by decide +kernel
theorem d6_3 : decode prog_78_method_2_code 3 = .ok (.tableswitch 246 0 46 #[236, 236, 236, 236, 236, 201, 214, 246, 246, 246, 246, 246, 246, 236, 236, 236, 236, 236, 246, 201, 214, 246, 246, 241, 246, 246, 241, 241, 246, 246, 241, 246, 246, 246, 236, 236, 231, 231, 220, 226, 226, 241, 236, 246, 246, 246, 236], 201) := by decide +kernel
theorem d6_204 : decode prog_78_method_2_code 204 = .ok (.iconst 4, 1) := by decide +kernel
theorem d6_205 : decode prog_78_method_2_code 205 = .ok (.iconst 2, 1) := by decide +kernel
theorem d6_206 : decode prog_78_method_2_code 206 = .ok (.aload_n 0, 1) := by decide +kernel
theorem d6_207 : decode prog_78_method_2_code 207 = .ok (.iload_n 1, 1) := by decide +kernel
theorem d6_208 : decode prog_78_method_2_code 208 = .ok (.iconst 3, 1) := by decide +kernel
theorem d6_209 : decode prog_78_method_2_code 209 = .ok (.iadd, 1) := by decide +kernel
theorem d6_210 : decode prog_78_method_2_code 210 = .ok (.iaload, 1) := by decide +kernel
theorem d6_211 : decode prog_78_method_2_code 211 = .ok (.imul, 1) := by decide +kernel
theorem d6_212 : decode prog_78_method_2_code 212 = .ok (.iadd, 1) := by decide +kernel
theorem d6_213 : decode prog_78_method_2_code 213 = .ok (.istore_n 2, 1) := by decide +kernel
theorem d6_214 : decode prog_78_method_2_code 214 = .ok (.goto 37, 3) := by decide +kernel
theorem d6_217 : decode prog_78_method_2_code 217 = .ok (.bipush 6, 2) := by decide +kernel
theorem d6_219 : decode prog_78_method_2_code 219 = .ok (.istore_n 2, 1) := by decide +kernel
theorem d6_220 : decode prog_78_method_2_code 220 = .ok (.goto 31, 3) := by decide +kernel
theorem d6_223 : decode prog_78_method_2_code 223 = .ok (.bipush 7, 2) := by decide +kernel
theorem d6_225 : decode prog_78_method_2_code 225 = .ok (.istore_n 2, 1) := by decide +kernel
theorem d6_226 : decode prog_78_method_2_code 226 = .ok (.goto 25, 3) := by decide +kernel
theorem d6_229 : decode prog_78_method_2_code 229 = .ok (.iconst 5, 1) := by decide +kernel
theorem d6_230 : decode prog_78_method_2_code 230 = .ok (.istore_n 2, 1) := by decide +kernel
theorem d6_231 : decode prog_78_method_2_code 231 = .ok (.goto 20, 3) := by decide +kernel
theorem d6_234 : decode prog_78_method_2_code 234 = .ok (.iconst 4, 1) := by decide +kernel
theorem d6_235 : decode prog_78_method_2_code 235 = .ok (.istore_n 2, 1) := by decide +kernel
theorem d6_236 : decode prog_78_method_2_code 236 = .ok (.goto 15, 3) := by decide +kernel
theorem d6_239 : decode prog_78_method_2_code 239 = .ok (.iconst 3, 1) := by decide +kernel
theorem d6_240 : decode prog_78_method_2_code 240 = .ok (.istore_n 2, 1) := by decide +kernel
theorem d6_241 : decode prog_78_method_2_code 241 = .ok (.goto 10, 3) := by decide +kernel
theorem d6_244 : decode prog_78_method_2_code 244 = .ok (.iconst 1, 1) := by decide +kernel
theorem d6_245 : decode prog_78_method_2_code 245 = .ok (.istore_n 2, 1) := by decide +kernel
theorem d6_246 : decode prog_78_method_2_code 246 = .ok (.goto 5, 3) := by decide +kernel
theorem d6_249 : decode prog_78_method_2_code 249 = .ok (.iconst 2, 1) := by decide +kernel
theorem d6_250 : decode prog_78_method_2_code 250 = .ok (.istore_n 2, 1) := by decide +kernel
theorem d6_251 : decode prog_78_method_2_code 251 = .ok (.iload_n 2, 1) := by decide +kernel
theorem d6_252 : decode prog_78_method_2_code 252 = .ok (.ireturn, 1) := by decide +kernel
theorem pn_3 : plainName "com/example/dutiful_logic/dutifullogic/Op" = true := by first | (simp [plainName, overriddenIn]; done) | decide +kernel
theorem ef_6 (m : MethodId) (a : Addr) (i : Int32) : entryFrame m #[(.ref a), (.int i)] 3 = mkF m 0 #[.val (.ref a), .val (.int i), .unset] [] := by first | (simp [entryFrame, mkF, argsToLocals, Value.category]; done) | rfl
def f6 (x y : Int32) : Int32 :=
  (if x = (0 : Int32) then (3 : Int32)
  else (if x = (1 : Int32) then (3 : Int32)
    else (if x = (2 : Int32) then (3 : Int32)
      else (if x = (3 : Int32) then (3 : Int32)
        else (if x = (4 : Int32) then (3 : Int32)
          else (if x = (5 : Int32) then ((4 : Int32) + ((2 : Int32) * y))
            else (if x = (6 : Int32) then (6 : Int32)
              else (if x = (7 : Int32) then (2 : Int32)
                else (if x = (8 : Int32) then (2 : Int32)
                  else (if x = (9 : Int32) then (2 : Int32)
                    else (if x = (10 : Int32) then (2 : Int32)
                      else (if x = (11 : Int32) then (2 : Int32)
                        else (if x = (12 : Int32) then (2 : Int32)
                          else (if x = (13 : Int32) then (3 : Int32)
                            else (if x = (14 : Int32) then (3 : Int32)
                              else (if x = (15 : Int32) then (3 : Int32)
                                else (if x = (16 : Int32) then (3 : Int32)
                                  else (if x = (17 : Int32) then (3 : Int32)
                                    else (if x = (18 : Int32) then (2 : Int32)
                                      else (if x = (19 : Int32) then ((4 : Int32) + ((2 : Int32) * y))
                                        else (if x = (20 : Int32) then (6 : Int32)
                                          else (if x = (21 : Int32) then (2 : Int32)
                                            else (if x = (22 : Int32) then (2 : Int32)
                                              else (if x = (23 : Int32) then (1 : Int32)
                                                else (if x = (24 : Int32) then (2 : Int32)
                                                  else (if x = (25 : Int32) then (2 : Int32)
                                                    else (if x = (26 : Int32) then (1 : Int32)
                                                      else (if x = (27 : Int32) then (1 : Int32)
                                                        else (if x = (28 : Int32) then (2 : Int32)
                                                          else (if x = (29 : Int32) then (2 : Int32)
                                                            else (if x = (30 : Int32) then (1 : Int32)
                                                              else (if x = (31 : Int32) then (2 : Int32)
                                                                else (if x = (32 : Int32) then (2 : Int32)
                                                                  else (if x = (33 : Int32) then (2 : Int32)
                                                                    else (if x = (34 : Int32) then (3 : Int32)
                                                                      else (if x = (35 : Int32) then (3 : Int32)
                                                                        else (if x = (36 : Int32) then (4 : Int32)
                                                                          else (if x = (37 : Int32) then (4 : Int32)
                                                                            else (if x = (38 : Int32) then (7 : Int32)
                                                                              else (if x = (39 : Int32) then (5 : Int32)
                                                                                else (if x = (40 : Int32) then (5 : Int32)
                                                                                  else (if x = (41 : Int32) then (1 : Int32)
                                                                                    else (if x = (42 : Int32) then (3 : Int32)
                                                                                      else (if x = (43 : Int32) then (2 : Int32)
                                                                                        else (if x = (44 : Int32) then (2 : Int32)
                                                                                          else (if x = (45 : Int32) then (2 : Int32)
                                                                                            else (if x = (46 : Int32) then (3 : Int32)
                                                                                              else (2 : Int32))))))))))))))))))))))))))))))))))))))))))))))))
def Q6 (f : Nat → Int32) (i : Int32) (h0 : Heap) (n0 : Nat) (v : Option Value) (h : Heap) (L : List Loc) : Prop := v = some (.int (f6 (f i.toNatClampNeg) (f (i + (3 : Int32)).toNatClampNeg))) ∧ Fr n0 L ∧ h = h0
set_option maxRecDepth 65536 in
set_option maxHeartbeats 40000000 in
theorem rm6 (l : Launch) (Z : State) (a0 : Array Value) (hw : ∀ d ∈ tables_1, d.before a0 Z = true) (ws : List Jvm.Cond) (a : Addr) (i : Int32) (f : Nat → Int32) (h0 : Heap) (n0 : Nat) (Z0 : n0 ≤ h0.size) (V_a : AI Z h0 a .int 8 f) (hi3 : 0 ≤ i.toInt ∧ i.toInt ≤ 3) :
    MetFree l (⟨"com/example/dutiful_logic/dutifullogic/Op", "length", "([II)I"⟩ : MethodName) (head1 (Jvm.Cond.code (⟨"com/example/dutiful_logic/dutifullogic/Op", "length", "([II)I"⟩ : MethodName) prog_78_method_2_code 3 (some .int) :: ws) ({ frames := 0, cells := 0, slots := 0, locals := 0 } : Room)) (fun ar' Ur => ar' = #[(.ref a), (.int i)] ∧ Z.Warmed39 Ur.vm ∧ Ur.heap = h0) (fun _ _ _ _ _ => True) (fun _ Ur or' Us => ∃ v L, or' = .returned v ∧ Q6 f i h0 n0 v Us.heap L ∧ FrameEnd Ur or' Us L 0 0) := by
  refine MetFree.of_bodySF (plainFor_of_name pn_3) hisR ?_
  intro p e s m args below meth c s₁ Bd hml0 hP hK
  obtain ⟨rfl, hZ, hh⟩ := hP
  have hx := Bd.exec
  have hby := Bd.bytes
  have hlk : meth.locks = false := BodyLoose.notSynchronized Bd
  have hml : c.maxLocals = 3 := hml0
  have hown : s.vm.findClass "com/example/dutiful_logic/dutifullogic/Op" = some m.cls := findClass_of_methodNamed Bd.named
  have hnm := (name_of_methodNamed Bd.named Bd.method).1
  have X0 : Stand p l e ({ frames := 0, cells := 0, slots := 0, locals := 0 } : Room) s m #[(.ref a), (.int i)] below meth c s₁ [] 0 0 := Stand.of_body Bd
  have e0 : s₁.heap = h0 := by rw [← hh, Bd.state]; rfl
  have N0 := Fr.nil n0
  have e3' : (i + (3 : Int32)).toInt = i.toInt + 3 := own_add3 rfl hi3 (by decide)
  show Goes p.tables e below s (Q6 f i h0 n0) 0 0 (s₁.setTop (entryFrame m #[(.ref a), (.int i)] 3))
  refine Goes.of (fun t k => castTop (ef_6 m a i) k) ?_
  show Goes _ _ _ _ _ _ _ (s₁.setTop (mkF m 0 #[.val (.ref a), .val (.int i), .unset] []))
  refine Goes.of (fun t k => XS.aloadN X0.here hx rfl (hb hby d6_0) rfl rfl k) ?_
  show Goes _ _ _ _ _ _ _ (s₁.setTop (mkF m 1 #[.val (.ref a), .val (.int i), .unset] [(.ref a)]))
  refine Goes.of (fun t k => XS.iloadN X0.here hx rfl (hb hby d6_1) rfl k) ?_
  show Goes _ _ _ _ _ _ _ (s₁.setTop (mkF m 2 #[.val (.ref a), .val (.int i), .unset] [(.int i), (.ref a)]))
  refine Goes.of (fun t k => ldI X0 hx hZ e0 V_a (j := i) (i := i.toNatClampNeg) (v := (f i.toNatClampNeg)) (own_nn (by omega)) rfl (own_ltn (by omega) (by omega)) rfl (g := (mkF m 2 #[.val (.ref a), .val (.int i), .unset] [(.int i), (.ref a)])) rfl rfl (hb hby d6_2) t k) ?_
  show Goes _ _ _ _ _ _ _ (s₁.setTop (mkF m 3 #[.val (.ref a), .val (.int i), .unset] [(.int (f i.toNatClampNeg))]))
  by_cases hc11 : (f i.toNatClampNeg) = (0 : Int32)
  · refine Goes.of (fun t k => XS.tswIn X0.here hx rfl (pc0 := 3) (pc' := 239) (o := 236) rfl (hb hby d6_3) rfl (by rw [hc11]; decide) (by rw [hc11]; decide) (by decide) (by decide) k) ?_
    show Goes _ _ _ _ _ _ _ (s₁.setTop (mkF m 239 #[.val (.ref a), .val (.int i), .unset] []))
    refine Goes.of (fun t k => XS.iconst X0.here hx rfl (hb hby d6_239) k) ?_
    show Goes _ _ _ _ _ _ _ (s₁.setTop (mkF m 240 #[.val (.ref a), .val (.int i), .unset] [(.int (3 : Int32))]))
    refine Goes.of (fun t k => XS.istoreN X0.here hx rfl (hb hby d6_240) rfl (l' := #[.val (.ref a), .val (.int i), .val (.int (3 : Int32))]) rfl k) ?_
    show Goes _ _ _ _ _ _ _ (s₁.setTop (mkF m 241 #[.val (.ref a), .val (.int i), .val (.int (3 : Int32))] []))
    refine Goes.of (fun t k => XS.goto X0.here hx rfl (pc0 := 241) (pc' := 251) rfl (hb hby d6_241) (by decide) (by decide) k) ?_
    show Goes _ _ _ _ _ _ _ (s₁.setTop (mkF m 251 #[.val (.ref a), .val (.int i), .val (.int (3 : Int32))] []))
    refine Goes.of (fun t k => XS.iloadN X0.here hx rfl (hb hby d6_251) rfl k) ?_
    show Goes _ _ _ _ _ _ _ (s₁.setTop (mkF m 252 #[.val (.ref a), .val (.int i), .val (.int (3 : Int32))] [(.int (3 : Int32))]))
    exact Goes.fin X0 hlk (v := some (.int (3 : Int32))) (fun h => by rw [Bd.returns] at h; cases h) (fun fs hr => retI X0 hx Bd.returns (hb hby d6_252) hr) ⟨congrArg (fun z => some (Value.int z)) (by rw [f6, if_pos hc11] : (3 : Int32) = f6 (f i.toNatClampNeg) (f (i + (3 : Int32)).toNatClampNeg)), N0, e0⟩ (by decide) (by decide)
  by_cases hc12 : (f i.toNatClampNeg) = (1 : Int32)
  · refine Goes.of (fun t k => XS.tswIn X0.here hx rfl (pc0 := 3) (pc' := 239) (o := 236) rfl (hb hby d6_3) rfl (by rw [hc12]; decide) (by rw [hc12]; decide) (by decide) (by decide) k) ?_
    show Goes _ _ _ _ _ _ _ (s₁.setTop (mkF m 239 #[.val (.ref a), .val (.int i), .unset] []))
    refine Goes.of (fun t k => XS.iconst X0.here hx rfl (hb hby d6_239) k) ?_
    show Goes _ _ _ _ _ _ _ (s₁.setTop (mkF m 240 #[.val (.ref a), .val (.int i), .unset] [(.int (3 : Int32))]))
    refine Goes.of (fun t k => XS.istoreN X0.here hx rfl (hb hby d6_240) rfl (l' := #[.val (.ref a), .val (.int i), .val (.int (3 : Int32))]) rfl k) ?_
    show Goes _ _ _ _ _ _ _ (s₁.setTop (mkF m 241 #[.val (.ref a), .val (.int i), .val (.int (3 : Int32))] []))
    refine Goes.of (fun t k => XS.goto X0.here hx rfl (pc0 := 241) (pc' := 251) rfl (hb hby d6_241) (by decide) (by decide) k) ?_
    show Goes _ _ _ _ _ _ _ (s₁.setTop (mkF m 251 #[.val (.ref a), .val (.int i), .val (.int (3 : Int32))] []))
    refine Goes.of (fun t k => XS.iloadN X0.here hx rfl (hb hby d6_251) rfl k) ?_
    show Goes _ _ _ _ _ _ _ (s₁.setTop (mkF m 252 #[.val (.ref a), .val (.int i), .val (.int (3 : Int32))] [(.int (3 : Int32))]))
    exact Goes.fin X0 hlk (v := some (.int (3 : Int32))) (fun h => by rw [Bd.returns] at h; cases h) (fun fs hr => retI X0 hx Bd.returns (hb hby d6_252) hr) ⟨congrArg (fun z => some (Value.int z)) (by rw [f6, if_neg hc11, if_pos hc12] : (3 : Int32) = f6 (f i.toNatClampNeg) (f (i + (3 : Int32)).toNatClampNeg)), N0, e0⟩ (by decide) (by decide)
  by_cases hc13 : (f i.toNatClampNeg) = (2 : Int32)
  · refine Goes.of (fun t k => XS.tswIn X0.here hx rfl (pc0 := 3) (pc' := 239) (o := 236) rfl (hb hby d6_3) rfl (by rw [hc13]; decide) (by rw [hc13]; decide) (by decide) (by decide) k) ?_
    show Goes _ _ _ _ _ _ _ (s₁.setTop (mkF m 239 #[.val (.ref a), .val (.int i), .unset] []))
    refine Goes.of (fun t k => XS.iconst X0.here hx rfl (hb hby d6_239) k) ?_
    show Goes _ _ _ _ _ _ _ (s₁.setTop (mkF m 240 #[.val (.ref a), .val (.int i), .unset] [(.int (3 : Int32))]))
    refine Goes.of (fun t k => XS.istoreN X0.here hx rfl (hb hby d6_240) rfl (l' := #[.val (.ref a), .val (.int i), .val (.int (3 : Int32))]) rfl k) ?_
    show Goes _ _ _ _ _ _ _ (s₁.setTop (mkF m 241 #[.val (.ref a), .val (.int i), .val (.int (3 : Int32))] []))
    refine Goes.of (fun t k => XS.goto X0.here hx rfl (pc0 := 241) (pc' := 251) rfl (hb hby d6_241) (by decide) (by decide) k) ?_
    show Goes _ _ _ _ _ _ _ (s₁.setTop (mkF m 251 #[.val (.ref a), .val (.int i), .val (.int (3 : Int32))] []))
    refine Goes.of (fun t k => XS.iloadN X0.here hx rfl (hb hby d6_251) rfl k) ?_
    show Goes _ _ _ _ _ _ _ (s₁.setTop (mkF m 252 #[.val (.ref a), .val (.int i), .val (.int (3 : Int32))] [(.int (3 : Int32))]))
    exact Goes.fin X0 hlk (v := some (.int (3 : Int32))) (fun h => by rw [Bd.returns] at h; cases h) (fun fs hr => retI X0 hx Bd.returns (hb hby d6_252) hr) ⟨congrArg (fun z => some (Value.int z)) (by rw [f6, if_neg hc11, if_neg hc12, if_pos hc13] : (3 : Int32) = f6 (f i.toNatClampNeg) (f (i + (3 : Int32)).toNatClampNeg)), N0, e0⟩ (by decide) (by decide)
  by_cases hc14 : (f i.toNatClampNeg) = (3 : Int32)
  · refine Goes.of (fun t k => XS.tswIn X0.here hx rfl (pc0 := 3) (pc' := 239) (o := 236) rfl (hb hby d6_3) rfl (by rw [hc14]; decide) (by rw [hc14]; decide) (by decide) (by decide) k) ?_
    show Goes _ _ _ _ _ _ _ (s₁.setTop (mkF m 239 #[.val (.ref a), .val (.int i), .unset] []))
    refine Goes.of (fun t k => XS.iconst X0.here hx rfl (hb hby d6_239) k) ?_
    show Goes _ _ _ _ _ _ _ (s₁.setTop (mkF m 240 #[.val (.ref a), .val (.int i), .unset] [(.int (3 : Int32))]))
    refine Goes.of (fun t k => XS.istoreN X0.here hx rfl (hb hby d6_240) rfl (l' := #[.val (.ref a), .val (.int i), .val (.int (3 : Int32))]) rfl k) ?_
    show Goes _ _ _ _ _ _ _ (s₁.setTop (mkF m 241 #[.val (.ref a), .val (.int i), .val (.int (3 : Int32))] []))
    refine Goes.of (fun t k => XS.goto X0.here hx rfl (pc0 := 241) (pc' := 251) rfl (hb hby d6_241) (by decide) (by decide) k) ?_
    show Goes _ _ _ _ _ _ _ (s₁.setTop (mkF m 251 #[.val (.ref a), .val (.int i), .val (.int (3 : Int32))] []))
    refine Goes.of (fun t k => XS.iloadN X0.here hx rfl (hb hby d6_251) rfl k) ?_
    show Goes _ _ _ _ _ _ _ (s₁.setTop (mkF m 252 #[.val (.ref a), .val (.int i), .val (.int (3 : Int32))] [(.int (3 : Int32))]))
    exact Goes.fin X0 hlk (v := some (.int (3 : Int32))) (fun h => by rw [Bd.returns] at h; cases h) (fun fs hr => retI X0 hx Bd.returns (hb hby d6_252) hr) ⟨congrArg (fun z => some (Value.int z)) (by rw [f6, if_neg hc11, if_neg hc12, if_neg hc13, if_pos hc14] : (3 : Int32) = f6 (f i.toNatClampNeg) (f (i + (3 : Int32)).toNatClampNeg)), N0, e0⟩ (by decide) (by decide)
  by_cases hc15 : (f i.toNatClampNeg) = (4 : Int32)
  · refine Goes.of (fun t k => XS.tswIn X0.here hx rfl (pc0 := 3) (pc' := 239) (o := 236) rfl (hb hby d6_3) rfl (by rw [hc15]; decide) (by rw [hc15]; decide) (by decide) (by decide) k) ?_
    show Goes _ _ _ _ _ _ _ (s₁.setTop (mkF m 239 #[.val (.ref a), .val (.int i), .unset] []))
    refine Goes.of (fun t k => XS.iconst X0.here hx rfl (hb hby d6_239) k) ?_
    show Goes _ _ _ _ _ _ _ (s₁.setTop (mkF m 240 #[.val (.ref a), .val (.int i), .unset] [(.int (3 : Int32))]))
    refine Goes.of (fun t k => XS.istoreN X0.here hx rfl (hb hby d6_240) rfl (l' := #[.val (.ref a), .val (.int i), .val (.int (3 : Int32))]) rfl k) ?_
    show Goes _ _ _ _ _ _ _ (s₁.setTop (mkF m 241 #[.val (.ref a), .val (.int i), .val (.int (3 : Int32))] []))
    refine Goes.of (fun t k => XS.goto X0.here hx rfl (pc0 := 241) (pc' := 251) rfl (hb hby d6_241) (by decide) (by decide) k) ?_
    show Goes _ _ _ _ _ _ _ (s₁.setTop (mkF m 251 #[.val (.ref a), .val (.int i), .val (.int (3 : Int32))] []))
    refine Goes.of (fun t k => XS.iloadN X0.here hx rfl (hb hby d6_251) rfl k) ?_
    show Goes _ _ _ _ _ _ _ (s₁.setTop (mkF m 252 #[.val (.ref a), .val (.int i), .val (.int (3 : Int32))] [(.int (3 : Int32))]))
    exact Goes.fin X0 hlk (v := some (.int (3 : Int32))) (fun h => by rw [Bd.returns] at h; cases h) (fun fs hr => retI X0 hx Bd.returns (hb hby d6_252) hr) ⟨congrArg (fun z => some (Value.int z)) (by rw [f6, if_neg hc11, if_neg hc12, if_neg hc13, if_neg hc14, if_pos hc15] : (3 : Int32) = f6 (f i.toNatClampNeg) (f (i + (3 : Int32)).toNatClampNeg)), N0, e0⟩ (by decide) (by decide)
  by_cases hc16 : (f i.toNatClampNeg) = (5 : Int32)
  · refine Goes.of (fun t k => XS.tswIn X0.here hx rfl (pc0 := 3) (pc' := 204) (o := 201) rfl (hb hby d6_3) rfl (by rw [hc16]; decide) (by rw [hc16]; decide) (by decide) (by decide) k) ?_
    show Goes _ _ _ _ _ _ _ (s₁.setTop (mkF m 204 #[.val (.ref a), .val (.int i), .unset] []))
    refine Goes.of (fun t k => XS.iconst X0.here hx rfl (hb hby d6_204) k) ?_
    show Goes _ _ _ _ _ _ _ (s₁.setTop (mkF m 205 #[.val (.ref a), .val (.int i), .unset] [(.int (4 : Int32))]))
    refine Goes.of (fun t k => XS.iconst X0.here hx rfl (hb hby d6_205) k) ?_
    show Goes _ _ _ _ _ _ _ (s₁.setTop (mkF m 206 #[.val (.ref a), .val (.int i), .unset] [(.int (2 : Int32)), (.int (4 : Int32))]))
    refine Goes.of (fun t k => XS.aloadN X0.here hx rfl (hb hby d6_206) rfl rfl k) ?_
    show Goes _ _ _ _ _ _ _ (s₁.setTop (mkF m 207 #[.val (.ref a), .val (.int i), .unset] [(.ref a), (.int (2 : Int32)), (.int (4 : Int32))]))
    refine Goes.of (fun t k => XS.iloadN X0.here hx rfl (hb hby d6_207) rfl k) ?_
    show Goes _ _ _ _ _ _ _ (s₁.setTop (mkF m 208 #[.val (.ref a), .val (.int i), .unset] [(.int i), (.ref a), (.int (2 : Int32)), (.int (4 : Int32))]))
    refine Goes.of (fun t k => XS.iconst X0.here hx rfl (hb hby d6_208) k) ?_
    show Goes _ _ _ _ _ _ _ (s₁.setTop (mkF m 209 #[.val (.ref a), .val (.int i), .unset] [(.int (3 : Int32)), (.int i), (.ref a), (.int (2 : Int32)), (.int (4 : Int32))]))
    refine Goes.of (fun t k => XS.iadd X0.here hx rfl (hb hby d6_209) rfl k) ?_
    show Goes _ _ _ _ _ _ _ (s₁.setTop (mkF m 210 #[.val (.ref a), .val (.int i), .unset] [(.int (i + (3 : Int32))), (.ref a), (.int (2 : Int32)), (.int (4 : Int32))]))
    refine Goes.of (fun t k => ldI X0 hx hZ e0 V_a (j := (i + (3 : Int32))) (i := (i + (3 : Int32)).toNatClampNeg) (v := (f (i + (3 : Int32)).toNatClampNeg)) (own_nn (by omega)) rfl (own_ltn (by omega) (by omega)) rfl (g := (mkF m 210 #[.val (.ref a), .val (.int i), .unset] [(.int (i + (3 : Int32))), (.ref a), (.int (2 : Int32)), (.int (4 : Int32))])) rfl rfl (hb hby d6_210) t k) ?_
    show Goes _ _ _ _ _ _ _ (s₁.setTop (mkF m 211 #[.val (.ref a), .val (.int i), .unset] [(.int (f (i + (3 : Int32)).toNatClampNeg)), (.int (2 : Int32)), (.int (4 : Int32))]))
    refine Goes.of (fun t k => XS.imul X0.here hx rfl (hb hby d6_211) rfl k) ?_
    show Goes _ _ _ _ _ _ _ (s₁.setTop (mkF m 212 #[.val (.ref a), .val (.int i), .unset] [(.int ((2 : Int32) * (f (i + (3 : Int32)).toNatClampNeg))), (.int (4 : Int32))]))
    refine Goes.of (fun t k => XS.iadd X0.here hx rfl (hb hby d6_212) rfl k) ?_
    show Goes _ _ _ _ _ _ _ (s₁.setTop (mkF m 213 #[.val (.ref a), .val (.int i), .unset] [(.int ((4 : Int32) + ((2 : Int32) * (f (i + (3 : Int32)).toNatClampNeg))))]))
    refine Goes.of (fun t k => XS.istoreN X0.here hx rfl (hb hby d6_213) rfl (l' := #[.val (.ref a), .val (.int i), .val (.int ((4 : Int32) + ((2 : Int32) * (f (i + (3 : Int32)).toNatClampNeg))))]) rfl k) ?_
    show Goes _ _ _ _ _ _ _ (s₁.setTop (mkF m 214 #[.val (.ref a), .val (.int i), .val (.int ((4 : Int32) + ((2 : Int32) * (f (i + (3 : Int32)).toNatClampNeg))))] []))
    refine Goes.of (fun t k => XS.goto X0.here hx rfl (pc0 := 214) (pc' := 251) rfl (hb hby d6_214) (by decide) (by decide) k) ?_
    show Goes _ _ _ _ _ _ _ (s₁.setTop (mkF m 251 #[.val (.ref a), .val (.int i), .val (.int ((4 : Int32) + ((2 : Int32) * (f (i + (3 : Int32)).toNatClampNeg))))] []))
    refine Goes.of (fun t k => XS.iloadN X0.here hx rfl (hb hby d6_251) rfl k) ?_
    show Goes _ _ _ _ _ _ _ (s₁.setTop (mkF m 252 #[.val (.ref a), .val (.int i), .val (.int ((4 : Int32) + ((2 : Int32) * (f (i + (3 : Int32)).toNatClampNeg))))] [(.int ((4 : Int32) + ((2 : Int32) * (f (i + (3 : Int32)).toNatClampNeg))))]))
    exact Goes.fin X0 hlk (v := some (.int ((4 : Int32) + ((2 : Int32) * (f (i + (3 : Int32)).toNatClampNeg))))) (fun h => by rw [Bd.returns] at h; cases h) (fun fs hr => retI X0 hx Bd.returns (hb hby d6_252) hr) ⟨congrArg (fun z => some (Value.int z)) (by rw [f6, if_neg hc11, if_neg hc12, if_neg hc13, if_neg hc14, if_neg hc15, if_pos hc16] : ((4 : Int32) + ((2 : Int32) * (f (i + (3 : Int32)).toNatClampNeg))) = f6 (f i.toNatClampNeg) (f (i + (3 : Int32)).toNatClampNeg)), N0, e0⟩ (by decide) (by decide)
  by_cases hc17 : (f i.toNatClampNeg) = (6 : Int32)
  · refine Goes.of (fun t k => XS.tswIn X0.here hx rfl (pc0 := 3) (pc' := 217) (o := 214) rfl (hb hby d6_3) rfl (by rw [hc17]; decide) (by rw [hc17]; decide) (by decide) (by decide) k) ?_
    show Goes _ _ _ _ _ _ _ (s₁.setTop (mkF m 217 #[.val (.ref a), .val (.int i), .unset] []))
    refine Goes.of (fun t k => XS.bipush X0.here hx rfl (hb hby d6_217) k) ?_
    show Goes _ _ _ _ _ _ _ (s₁.setTop (mkF m 219 #[.val (.ref a), .val (.int i), .unset] [(.int (6 : Int32))]))
    refine Goes.of (fun t k => XS.istoreN X0.here hx rfl (hb hby d6_219) rfl (l' := #[.val (.ref a), .val (.int i), .val (.int (6 : Int32))]) rfl k) ?_
    show Goes _ _ _ _ _ _ _ (s₁.setTop (mkF m 220 #[.val (.ref a), .val (.int i), .val (.int (6 : Int32))] []))
    refine Goes.of (fun t k => XS.goto X0.here hx rfl (pc0 := 220) (pc' := 251) rfl (hb hby d6_220) (by decide) (by decide) k) ?_
    show Goes _ _ _ _ _ _ _ (s₁.setTop (mkF m 251 #[.val (.ref a), .val (.int i), .val (.int (6 : Int32))] []))
    refine Goes.of (fun t k => XS.iloadN X0.here hx rfl (hb hby d6_251) rfl k) ?_
    show Goes _ _ _ _ _ _ _ (s₁.setTop (mkF m 252 #[.val (.ref a), .val (.int i), .val (.int (6 : Int32))] [(.int (6 : Int32))]))
    exact Goes.fin X0 hlk (v := some (.int (6 : Int32))) (fun h => by rw [Bd.returns] at h; cases h) (fun fs hr => retI X0 hx Bd.returns (hb hby d6_252) hr) ⟨congrArg (fun z => some (Value.int z)) (by rw [f6, if_neg hc11, if_neg hc12, if_neg hc13, if_neg hc14, if_neg hc15, if_neg hc16, if_pos hc17] : (6 : Int32) = f6 (f i.toNatClampNeg) (f (i + (3 : Int32)).toNatClampNeg)), N0, e0⟩ (by decide) (by decide)
  by_cases hc18 : (f i.toNatClampNeg) = (7 : Int32)
  · refine Goes.of (fun t k => XS.tswIn X0.here hx rfl (pc0 := 3) (pc' := 249) (o := 246) rfl (hb hby d6_3) rfl (by rw [hc18]; decide) (by rw [hc18]; decide) (by decide) (by decide) k) ?_
    show Goes _ _ _ _ _ _ _ (s₁.setTop (mkF m 249 #[.val (.ref a), .val (.int i), .unset] []))
    refine Goes.of (fun t k => XS.iconst X0.here hx rfl (hb hby d6_249) k) ?_
    show Goes _ _ _ _ _ _ _ (s₁.setTop (mkF m 250 #[.val (.ref a), .val (.int i), .unset] [(.int (2 : Int32))]))
    refine Goes.of (fun t k => XS.istoreN X0.here hx rfl (hb hby d6_250) rfl (l' := #[.val (.ref a), .val (.int i), .val (.int (2 : Int32))]) rfl k) ?_
    show Goes _ _ _ _ _ _ _ (s₁.setTop (mkF m 251 #[.val (.ref a), .val (.int i), .val (.int (2 : Int32))] []))
    refine Goes.of (fun t k => XS.iloadN X0.here hx rfl (hb hby d6_251) rfl k) ?_
    show Goes _ _ _ _ _ _ _ (s₁.setTop (mkF m 252 #[.val (.ref a), .val (.int i), .val (.int (2 : Int32))] [(.int (2 : Int32))]))
    exact Goes.fin X0 hlk (v := some (.int (2 : Int32))) (fun h => by rw [Bd.returns] at h; cases h) (fun fs hr => retI X0 hx Bd.returns (hb hby d6_252) hr) ⟨congrArg (fun z => some (Value.int z)) (by rw [f6, if_neg hc11, if_neg hc12, if_neg hc13, if_neg hc14, if_neg hc15, if_neg hc16, if_neg hc17, if_pos hc18] : (2 : Int32) = f6 (f i.toNatClampNeg) (f (i + (3 : Int32)).toNatClampNeg)), N0, e0⟩ (by decide) (by decide)
  by_cases hc19 : (f i.toNatClampNeg) = (8 : Int32)
  · refine Goes.of (fun t k => XS.tswIn X0.here hx rfl (pc0 := 3) (pc' := 249) (o := 246) rfl (hb hby d6_3) rfl (by rw [hc19]; decide) (by rw [hc19]; decide) (by decide) (by decide) k) ?_
    show Goes _ _ _ _ _ _ _ (s₁.setTop (mkF m 249 #[.val (.ref a), .val (.int i), .unset] []))
    refine Goes.of (fun t k => XS.iconst X0.here hx rfl (hb hby d6_249) k) ?_
    show Goes _ _ _ _ _ _ _ (s₁.setTop (mkF m 250 #[.val (.ref a), .val (.int i), .unset] [(.int (2 : Int32))]))
    refine Goes.of (fun t k => XS.istoreN X0.here hx rfl (hb hby d6_250) rfl (l' := #[.val (.ref a), .val (.int i), .val (.int (2 : Int32))]) rfl k) ?_
    show Goes _ _ _ _ _ _ _ (s₁.setTop (mkF m 251 #[.val (.ref a), .val (.int i), .val (.int (2 : Int32))] []))
    refine Goes.of (fun t k => XS.iloadN X0.here hx rfl (hb hby d6_251) rfl k) ?_
    show Goes _ _ _ _ _ _ _ (s₁.setTop (mkF m 252 #[.val (.ref a), .val (.int i), .val (.int (2 : Int32))] [(.int (2 : Int32))]))
    exact Goes.fin X0 hlk (v := some (.int (2 : Int32))) (fun h => by rw [Bd.returns] at h; cases h) (fun fs hr => retI X0 hx Bd.returns (hb hby d6_252) hr) ⟨congrArg (fun z => some (Value.int z)) (by rw [f6, if_neg hc11, if_neg hc12, if_neg hc13, if_neg hc14, if_neg hc15, if_neg hc16, if_neg hc17, if_neg hc18, if_pos hc19] : (2 : Int32) = f6 (f i.toNatClampNeg) (f (i + (3 : Int32)).toNatClampNeg)), N0, e0⟩ (by decide) (by decide)
  by_cases hc20 : (f i.toNatClampNeg) = (9 : Int32)
  · refine Goes.of (fun t k => XS.tswIn X0.here hx rfl (pc0 := 3) (pc' := 249) (o := 246) rfl (hb hby d6_3) rfl (by rw [hc20]; decide) (by rw [hc20]; decide) (by decide) (by decide) k) ?_
    show Goes _ _ _ _ _ _ _ (s₁.setTop (mkF m 249 #[.val (.ref a), .val (.int i), .unset] []))
    refine Goes.of (fun t k => XS.iconst X0.here hx rfl (hb hby d6_249) k) ?_
    show Goes _ _ _ _ _ _ _ (s₁.setTop (mkF m 250 #[.val (.ref a), .val (.int i), .unset] [(.int (2 : Int32))]))
    refine Goes.of (fun t k => XS.istoreN X0.here hx rfl (hb hby d6_250) rfl (l' := #[.val (.ref a), .val (.int i), .val (.int (2 : Int32))]) rfl k) ?_
    show Goes _ _ _ _ _ _ _ (s₁.setTop (mkF m 251 #[.val (.ref a), .val (.int i), .val (.int (2 : Int32))] []))
    refine Goes.of (fun t k => XS.iloadN X0.here hx rfl (hb hby d6_251) rfl k) ?_
    show Goes _ _ _ _ _ _ _ (s₁.setTop (mkF m 252 #[.val (.ref a), .val (.int i), .val (.int (2 : Int32))] [(.int (2 : Int32))]))
    exact Goes.fin X0 hlk (v := some (.int (2 : Int32))) (fun h => by rw [Bd.returns] at h; cases h) (fun fs hr => retI X0 hx Bd.returns (hb hby d6_252) hr) ⟨congrArg (fun z => some (Value.int z)) (by rw [f6, if_neg hc11, if_neg hc12, if_neg hc13, if_neg hc14, if_neg hc15, if_neg hc16, if_neg hc17, if_neg hc18, if_neg hc19, if_pos hc20] : (2 : Int32) = f6 (f i.toNatClampNeg) (f (i + (3 : Int32)).toNatClampNeg)), N0, e0⟩ (by decide) (by decide)
  by_cases hc21 : (f i.toNatClampNeg) = (10 : Int32)
  · refine Goes.of (fun t k => XS.tswIn X0.here hx rfl (pc0 := 3) (pc' := 249) (o := 246) rfl (hb hby d6_3) rfl (by rw [hc21]; decide) (by rw [hc21]; decide) (by decide) (by decide) k) ?_
    show Goes _ _ _ _ _ _ _ (s₁.setTop (mkF m 249 #[.val (.ref a), .val (.int i), .unset] []))
    refine Goes.of (fun t k => XS.iconst X0.here hx rfl (hb hby d6_249) k) ?_
    show Goes _ _ _ _ _ _ _ (s₁.setTop (mkF m 250 #[.val (.ref a), .val (.int i), .unset] [(.int (2 : Int32))]))
    refine Goes.of (fun t k => XS.istoreN X0.here hx rfl (hb hby d6_250) rfl (l' := #[.val (.ref a), .val (.int i), .val (.int (2 : Int32))]) rfl k) ?_
    show Goes _ _ _ _ _ _ _ (s₁.setTop (mkF m 251 #[.val (.ref a), .val (.int i), .val (.int (2 : Int32))] []))
    refine Goes.of (fun t k => XS.iloadN X0.here hx rfl (hb hby d6_251) rfl k) ?_
    show Goes _ _ _ _ _ _ _ (s₁.setTop (mkF m 252 #[.val (.ref a), .val (.int i), .val (.int (2 : Int32))] [(.int (2 : Int32))]))
    exact Goes.fin X0 hlk (v := some (.int (2 : Int32))) (fun h => by rw [Bd.returns] at h; cases h) (fun fs hr => retI X0 hx Bd.returns (hb hby d6_252) hr) ⟨congrArg (fun z => some (Value.int z)) (by rw [f6, if_neg hc11, if_neg hc12, if_neg hc13, if_neg hc14, if_neg hc15, if_neg hc16, if_neg hc17, if_neg hc18, if_neg hc19, if_neg hc20, if_pos hc21] : (2 : Int32) = f6 (f i.toNatClampNeg) (f (i + (3 : Int32)).toNatClampNeg)), N0, e0⟩ (by decide) (by decide)
  by_cases hc22 : (f i.toNatClampNeg) = (11 : Int32)
  · refine Goes.of (fun t k => XS.tswIn X0.here hx rfl (pc0 := 3) (pc' := 249) (o := 246) rfl (hb hby d6_3) rfl (by rw [hc22]; decide) (by rw [hc22]; decide) (by decide) (by decide) k) ?_
    show Goes _ _ _ _ _ _ _ (s₁.setTop (mkF m 249 #[.val (.ref a), .val (.int i), .unset] []))
    refine Goes.of (fun t k => XS.iconst X0.here hx rfl (hb hby d6_249) k) ?_
    show Goes _ _ _ _ _ _ _ (s₁.setTop (mkF m 250 #[.val (.ref a), .val (.int i), .unset] [(.int (2 : Int32))]))
    refine Goes.of (fun t k => XS.istoreN X0.here hx rfl (hb hby d6_250) rfl (l' := #[.val (.ref a), .val (.int i), .val (.int (2 : Int32))]) rfl k) ?_
    show Goes _ _ _ _ _ _ _ (s₁.setTop (mkF m 251 #[.val (.ref a), .val (.int i), .val (.int (2 : Int32))] []))
    refine Goes.of (fun t k => XS.iloadN X0.here hx rfl (hb hby d6_251) rfl k) ?_
    show Goes _ _ _ _ _ _ _ (s₁.setTop (mkF m 252 #[.val (.ref a), .val (.int i), .val (.int (2 : Int32))] [(.int (2 : Int32))]))
    exact Goes.fin X0 hlk (v := some (.int (2 : Int32))) (fun h => by rw [Bd.returns] at h; cases h) (fun fs hr => retI X0 hx Bd.returns (hb hby d6_252) hr) ⟨congrArg (fun z => some (Value.int z)) (by rw [f6, if_neg hc11, if_neg hc12, if_neg hc13, if_neg hc14, if_neg hc15, if_neg hc16, if_neg hc17, if_neg hc18, if_neg hc19, if_neg hc20, if_neg hc21, if_pos hc22] : (2 : Int32) = f6 (f i.toNatClampNeg) (f (i + (3 : Int32)).toNatClampNeg)), N0, e0⟩ (by decide) (by decide)
  by_cases hc23 : (f i.toNatClampNeg) = (12 : Int32)
  · refine Goes.of (fun t k => XS.tswIn X0.here hx rfl (pc0 := 3) (pc' := 249) (o := 246) rfl (hb hby d6_3) rfl (by rw [hc23]; decide) (by rw [hc23]; decide) (by decide) (by decide) k) ?_
    show Goes _ _ _ _ _ _ _ (s₁.setTop (mkF m 249 #[.val (.ref a), .val (.int i), .unset] []))
    refine Goes.of (fun t k => XS.iconst X0.here hx rfl (hb hby d6_249) k) ?_
    show Goes _ _ _ _ _ _ _ (s₁.setTop (mkF m 250 #[.val (.ref a), .val (.int i), .unset] [(.int (2 : Int32))]))
    refine Goes.of (fun t k => XS.istoreN X0.here hx rfl (hb hby d6_250) rfl (l' := #[.val (.ref a), .val (.int i), .val (.int (2 : Int32))]) rfl k) ?_
    show Goes _ _ _ _ _ _ _ (s₁.setTop (mkF m 251 #[.val (.ref a), .val (.int i), .val (.int (2 : Int32))] []))
    refine Goes.of (fun t k => XS.iloadN X0.here hx rfl (hb hby d6_251) rfl k) ?_
    show Goes _ _ _ _ _ _ _ (s₁.setTop (mkF m 252 #[.val (.ref a), .val (.int i), .val (.int (2 : Int32))] [(.int (2 : Int32))]))
    exact Goes.fin X0 hlk (v := some (.int (2 : Int32))) (fun h => by rw [Bd.returns] at h; cases h) (fun fs hr => retI X0 hx Bd.returns (hb hby d6_252) hr) ⟨congrArg (fun z => some (Value.int z)) (by rw [f6, if_neg hc11, if_neg hc12, if_neg hc13, if_neg hc14, if_neg hc15, if_neg hc16, if_neg hc17, if_neg hc18, if_neg hc19, if_neg hc20, if_neg hc21, if_neg hc22, if_pos hc23] : (2 : Int32) = f6 (f i.toNatClampNeg) (f (i + (3 : Int32)).toNatClampNeg)), N0, e0⟩ (by decide) (by decide)
  by_cases hc24 : (f i.toNatClampNeg) = (13 : Int32)
  · refine Goes.of (fun t k => XS.tswIn X0.here hx rfl (pc0 := 3) (pc' := 239) (o := 236) rfl (hb hby d6_3) rfl (by rw [hc24]; decide) (by rw [hc24]; decide) (by decide) (by decide) k) ?_
    show Goes _ _ _ _ _ _ _ (s₁.setTop (mkF m 239 #[.val (.ref a), .val (.int i), .unset] []))
    refine Goes.of (fun t k => XS.iconst X0.here hx rfl (hb hby d6_239) k) ?_
    show Goes _ _ _ _ _ _ _ (s₁.setTop (mkF m 240 #[.val (.ref a), .val (.int i), .unset] [(.int (3 : Int32))]))
    refine Goes.of (fun t k => XS.istoreN X0.here hx rfl (hb hby d6_240) rfl (l' := #[.val (.ref a), .val (.int i), .val (.int (3 : Int32))]) rfl k) ?_
    show Goes _ _ _ _ _ _ _ (s₁.setTop (mkF m 241 #[.val (.ref a), .val (.int i), .val (.int (3 : Int32))] []))
    refine Goes.of (fun t k => XS.goto X0.here hx rfl (pc0 := 241) (pc' := 251) rfl (hb hby d6_241) (by decide) (by decide) k) ?_
    show Goes _ _ _ _ _ _ _ (s₁.setTop (mkF m 251 #[.val (.ref a), .val (.int i), .val (.int (3 : Int32))] []))
    refine Goes.of (fun t k => XS.iloadN X0.here hx rfl (hb hby d6_251) rfl k) ?_
    show Goes _ _ _ _ _ _ _ (s₁.setTop (mkF m 252 #[.val (.ref a), .val (.int i), .val (.int (3 : Int32))] [(.int (3 : Int32))]))
    exact Goes.fin X0 hlk (v := some (.int (3 : Int32))) (fun h => by rw [Bd.returns] at h; cases h) (fun fs hr => retI X0 hx Bd.returns (hb hby d6_252) hr) ⟨congrArg (fun z => some (Value.int z)) (by rw [f6, if_neg hc11, if_neg hc12, if_neg hc13, if_neg hc14, if_neg hc15, if_neg hc16, if_neg hc17, if_neg hc18, if_neg hc19, if_neg hc20, if_neg hc21, if_neg hc22, if_neg hc23, if_pos hc24] : (3 : Int32) = f6 (f i.toNatClampNeg) (f (i + (3 : Int32)).toNatClampNeg)), N0, e0⟩ (by decide) (by decide)
  by_cases hc25 : (f i.toNatClampNeg) = (14 : Int32)
  · refine Goes.of (fun t k => XS.tswIn X0.here hx rfl (pc0 := 3) (pc' := 239) (o := 236) rfl (hb hby d6_3) rfl (by rw [hc25]; decide) (by rw [hc25]; decide) (by decide) (by decide) k) ?_
    show Goes _ _ _ _ _ _ _ (s₁.setTop (mkF m 239 #[.val (.ref a), .val (.int i), .unset] []))
    refine Goes.of (fun t k => XS.iconst X0.here hx rfl (hb hby d6_239) k) ?_
    show Goes _ _ _ _ _ _ _ (s₁.setTop (mkF m 240 #[.val (.ref a), .val (.int i), .unset] [(.int (3 : Int32))]))
    refine Goes.of (fun t k => XS.istoreN X0.here hx rfl (hb hby d6_240) rfl (l' := #[.val (.ref a), .val (.int i), .val (.int (3 : Int32))]) rfl k) ?_
    show Goes _ _ _ _ _ _ _ (s₁.setTop (mkF m 241 #[.val (.ref a), .val (.int i), .val (.int (3 : Int32))] []))
    refine Goes.of (fun t k => XS.goto X0.here hx rfl (pc0 := 241) (pc' := 251) rfl (hb hby d6_241) (by decide) (by decide) k) ?_
    show Goes _ _ _ _ _ _ _ (s₁.setTop (mkF m 251 #[.val (.ref a), .val (.int i), .val (.int (3 : Int32))] []))
    refine Goes.of (fun t k => XS.iloadN X0.here hx rfl (hb hby d6_251) rfl k) ?_
    show Goes _ _ _ _ _ _ _ (s₁.setTop (mkF m 252 #[.val (.ref a), .val (.int i), .val (.int (3 : Int32))] [(.int (3 : Int32))]))
    exact Goes.fin X0 hlk (v := some (.int (3 : Int32))) (fun h => by rw [Bd.returns] at h; cases h) (fun fs hr => retI X0 hx Bd.returns (hb hby d6_252) hr) ⟨congrArg (fun z => some (Value.int z)) (by rw [f6, if_neg hc11, if_neg hc12, if_neg hc13, if_neg hc14, if_neg hc15, if_neg hc16, if_neg hc17, if_neg hc18, if_neg hc19, if_neg hc20, if_neg hc21, if_neg hc22, if_neg hc23, if_neg hc24, if_pos hc25] : (3 : Int32) = f6 (f i.toNatClampNeg) (f (i + (3 : Int32)).toNatClampNeg)), N0, e0⟩ (by decide) (by decide)
  by_cases hc26 : (f i.toNatClampNeg) = (15 : Int32)
  · refine Goes.of (fun t k => XS.tswIn X0.here hx rfl (pc0 := 3) (pc' := 239) (o := 236) rfl (hb hby d6_3) rfl (by rw [hc26]; decide) (by rw [hc26]; decide) (by decide) (by decide) k) ?_
    show Goes _ _ _ _ _ _ _ (s₁.setTop (mkF m 239 #[.val (.ref a), .val (.int i), .unset] []))
    refine Goes.of (fun t k => XS.iconst X0.here hx rfl (hb hby d6_239) k) ?_
    show Goes _ _ _ _ _ _ _ (s₁.setTop (mkF m 240 #[.val (.ref a), .val (.int i), .unset] [(.int (3 : Int32))]))
    refine Goes.of (fun t k => XS.istoreN X0.here hx rfl (hb hby d6_240) rfl (l' := #[.val (.ref a), .val (.int i), .val (.int (3 : Int32))]) rfl k) ?_
    show Goes _ _ _ _ _ _ _ (s₁.setTop (mkF m 241 #[.val (.ref a), .val (.int i), .val (.int (3 : Int32))] []))
    refine Goes.of (fun t k => XS.goto X0.here hx rfl (pc0 := 241) (pc' := 251) rfl (hb hby d6_241) (by decide) (by decide) k) ?_
    show Goes _ _ _ _ _ _ _ (s₁.setTop (mkF m 251 #[.val (.ref a), .val (.int i), .val (.int (3 : Int32))] []))
    refine Goes.of (fun t k => XS.iloadN X0.here hx rfl (hb hby d6_251) rfl k) ?_
    show Goes _ _ _ _ _ _ _ (s₁.setTop (mkF m 252 #[.val (.ref a), .val (.int i), .val (.int (3 : Int32))] [(.int (3 : Int32))]))
    exact Goes.fin X0 hlk (v := some (.int (3 : Int32))) (fun h => by rw [Bd.returns] at h; cases h) (fun fs hr => retI X0 hx Bd.returns (hb hby d6_252) hr) ⟨congrArg (fun z => some (Value.int z)) (by rw [f6, if_neg hc11, if_neg hc12, if_neg hc13, if_neg hc14, if_neg hc15, if_neg hc16, if_neg hc17, if_neg hc18, if_neg hc19, if_neg hc20, if_neg hc21, if_neg hc22, if_neg hc23, if_neg hc24, if_neg hc25, if_pos hc26] : (3 : Int32) = f6 (f i.toNatClampNeg) (f (i + (3 : Int32)).toNatClampNeg)), N0, e0⟩ (by decide) (by decide)
  by_cases hc27 : (f i.toNatClampNeg) = (16 : Int32)
  · refine Goes.of (fun t k => XS.tswIn X0.here hx rfl (pc0 := 3) (pc' := 239) (o := 236) rfl (hb hby d6_3) rfl (by rw [hc27]; decide) (by rw [hc27]; decide) (by decide) (by decide) k) ?_
    show Goes _ _ _ _ _ _ _ (s₁.setTop (mkF m 239 #[.val (.ref a), .val (.int i), .unset] []))
    refine Goes.of (fun t k => XS.iconst X0.here hx rfl (hb hby d6_239) k) ?_
    show Goes _ _ _ _ _ _ _ (s₁.setTop (mkF m 240 #[.val (.ref a), .val (.int i), .unset] [(.int (3 : Int32))]))
    refine Goes.of (fun t k => XS.istoreN X0.here hx rfl (hb hby d6_240) rfl (l' := #[.val (.ref a), .val (.int i), .val (.int (3 : Int32))]) rfl k) ?_
    show Goes _ _ _ _ _ _ _ (s₁.setTop (mkF m 241 #[.val (.ref a), .val (.int i), .val (.int (3 : Int32))] []))
    refine Goes.of (fun t k => XS.goto X0.here hx rfl (pc0 := 241) (pc' := 251) rfl (hb hby d6_241) (by decide) (by decide) k) ?_
    show Goes _ _ _ _ _ _ _ (s₁.setTop (mkF m 251 #[.val (.ref a), .val (.int i), .val (.int (3 : Int32))] []))
    refine Goes.of (fun t k => XS.iloadN X0.here hx rfl (hb hby d6_251) rfl k) ?_
    show Goes _ _ _ _ _ _ _ (s₁.setTop (mkF m 252 #[.val (.ref a), .val (.int i), .val (.int (3 : Int32))] [(.int (3 : Int32))]))
    exact Goes.fin X0 hlk (v := some (.int (3 : Int32))) (fun h => by rw [Bd.returns] at h; cases h) (fun fs hr => retI X0 hx Bd.returns (hb hby d6_252) hr) ⟨congrArg (fun z => some (Value.int z)) (by rw [f6, if_neg hc11, if_neg hc12, if_neg hc13, if_neg hc14, if_neg hc15, if_neg hc16, if_neg hc17, if_neg hc18, if_neg hc19, if_neg hc20, if_neg hc21, if_neg hc22, if_neg hc23, if_neg hc24, if_neg hc25, if_neg hc26, if_pos hc27] : (3 : Int32) = f6 (f i.toNatClampNeg) (f (i + (3 : Int32)).toNatClampNeg)), N0, e0⟩ (by decide) (by decide)
  by_cases hc28 : (f i.toNatClampNeg) = (17 : Int32)
  · refine Goes.of (fun t k => XS.tswIn X0.here hx rfl (pc0 := 3) (pc' := 239) (o := 236) rfl (hb hby d6_3) rfl (by rw [hc28]; decide) (by rw [hc28]; decide) (by decide) (by decide) k) ?_
    show Goes _ _ _ _ _ _ _ (s₁.setTop (mkF m 239 #[.val (.ref a), .val (.int i), .unset] []))
    refine Goes.of (fun t k => XS.iconst X0.here hx rfl (hb hby d6_239) k) ?_
    show Goes _ _ _ _ _ _ _ (s₁.setTop (mkF m 240 #[.val (.ref a), .val (.int i), .unset] [(.int (3 : Int32))]))
    refine Goes.of (fun t k => XS.istoreN X0.here hx rfl (hb hby d6_240) rfl (l' := #[.val (.ref a), .val (.int i), .val (.int (3 : Int32))]) rfl k) ?_
    show Goes _ _ _ _ _ _ _ (s₁.setTop (mkF m 241 #[.val (.ref a), .val (.int i), .val (.int (3 : Int32))] []))
    refine Goes.of (fun t k => XS.goto X0.here hx rfl (pc0 := 241) (pc' := 251) rfl (hb hby d6_241) (by decide) (by decide) k) ?_
    show Goes _ _ _ _ _ _ _ (s₁.setTop (mkF m 251 #[.val (.ref a), .val (.int i), .val (.int (3 : Int32))] []))
    refine Goes.of (fun t k => XS.iloadN X0.here hx rfl (hb hby d6_251) rfl k) ?_
    show Goes _ _ _ _ _ _ _ (s₁.setTop (mkF m 252 #[.val (.ref a), .val (.int i), .val (.int (3 : Int32))] [(.int (3 : Int32))]))
    exact Goes.fin X0 hlk (v := some (.int (3 : Int32))) (fun h => by rw [Bd.returns] at h; cases h) (fun fs hr => retI X0 hx Bd.returns (hb hby d6_252) hr) ⟨congrArg (fun z => some (Value.int z)) (by rw [f6, if_neg hc11, if_neg hc12, if_neg hc13, if_neg hc14, if_neg hc15, if_neg hc16, if_neg hc17, if_neg hc18, if_neg hc19, if_neg hc20, if_neg hc21, if_neg hc22, if_neg hc23, if_neg hc24, if_neg hc25, if_neg hc26, if_neg hc27, if_pos hc28] : (3 : Int32) = f6 (f i.toNatClampNeg) (f (i + (3 : Int32)).toNatClampNeg)), N0, e0⟩ (by decide) (by decide)
  by_cases hc29 : (f i.toNatClampNeg) = (18 : Int32)
  · refine Goes.of (fun t k => XS.tswIn X0.here hx rfl (pc0 := 3) (pc' := 249) (o := 246) rfl (hb hby d6_3) rfl (by rw [hc29]; decide) (by rw [hc29]; decide) (by decide) (by decide) k) ?_
    show Goes _ _ _ _ _ _ _ (s₁.setTop (mkF m 249 #[.val (.ref a), .val (.int i), .unset] []))
    refine Goes.of (fun t k => XS.iconst X0.here hx rfl (hb hby d6_249) k) ?_
    show Goes _ _ _ _ _ _ _ (s₁.setTop (mkF m 250 #[.val (.ref a), .val (.int i), .unset] [(.int (2 : Int32))]))
    refine Goes.of (fun t k => XS.istoreN X0.here hx rfl (hb hby d6_250) rfl (l' := #[.val (.ref a), .val (.int i), .val (.int (2 : Int32))]) rfl k) ?_
    show Goes _ _ _ _ _ _ _ (s₁.setTop (mkF m 251 #[.val (.ref a), .val (.int i), .val (.int (2 : Int32))] []))
    refine Goes.of (fun t k => XS.iloadN X0.here hx rfl (hb hby d6_251) rfl k) ?_
    show Goes _ _ _ _ _ _ _ (s₁.setTop (mkF m 252 #[.val (.ref a), .val (.int i), .val (.int (2 : Int32))] [(.int (2 : Int32))]))
    exact Goes.fin X0 hlk (v := some (.int (2 : Int32))) (fun h => by rw [Bd.returns] at h; cases h) (fun fs hr => retI X0 hx Bd.returns (hb hby d6_252) hr) ⟨congrArg (fun z => some (Value.int z)) (by rw [f6, if_neg hc11, if_neg hc12, if_neg hc13, if_neg hc14, if_neg hc15, if_neg hc16, if_neg hc17, if_neg hc18, if_neg hc19, if_neg hc20, if_neg hc21, if_neg hc22, if_neg hc23, if_neg hc24, if_neg hc25, if_neg hc26, if_neg hc27, if_neg hc28, if_pos hc29] : (2 : Int32) = f6 (f i.toNatClampNeg) (f (i + (3 : Int32)).toNatClampNeg)), N0, e0⟩ (by decide) (by decide)
  by_cases hc30 : (f i.toNatClampNeg) = (19 : Int32)
  · refine Goes.of (fun t k => XS.tswIn X0.here hx rfl (pc0 := 3) (pc' := 204) (o := 201) rfl (hb hby d6_3) rfl (by rw [hc30]; decide) (by rw [hc30]; decide) (by decide) (by decide) k) ?_
    show Goes _ _ _ _ _ _ _ (s₁.setTop (mkF m 204 #[.val (.ref a), .val (.int i), .unset] []))
    refine Goes.of (fun t k => XS.iconst X0.here hx rfl (hb hby d6_204) k) ?_
    show Goes _ _ _ _ _ _ _ (s₁.setTop (mkF m 205 #[.val (.ref a), .val (.int i), .unset] [(.int (4 : Int32))]))
    refine Goes.of (fun t k => XS.iconst X0.here hx rfl (hb hby d6_205) k) ?_
    show Goes _ _ _ _ _ _ _ (s₁.setTop (mkF m 206 #[.val (.ref a), .val (.int i), .unset] [(.int (2 : Int32)), (.int (4 : Int32))]))
    refine Goes.of (fun t k => XS.aloadN X0.here hx rfl (hb hby d6_206) rfl rfl k) ?_
    show Goes _ _ _ _ _ _ _ (s₁.setTop (mkF m 207 #[.val (.ref a), .val (.int i), .unset] [(.ref a), (.int (2 : Int32)), (.int (4 : Int32))]))
    refine Goes.of (fun t k => XS.iloadN X0.here hx rfl (hb hby d6_207) rfl k) ?_
    show Goes _ _ _ _ _ _ _ (s₁.setTop (mkF m 208 #[.val (.ref a), .val (.int i), .unset] [(.int i), (.ref a), (.int (2 : Int32)), (.int (4 : Int32))]))
    refine Goes.of (fun t k => XS.iconst X0.here hx rfl (hb hby d6_208) k) ?_
    show Goes _ _ _ _ _ _ _ (s₁.setTop (mkF m 209 #[.val (.ref a), .val (.int i), .unset] [(.int (3 : Int32)), (.int i), (.ref a), (.int (2 : Int32)), (.int (4 : Int32))]))
    refine Goes.of (fun t k => XS.iadd X0.here hx rfl (hb hby d6_209) rfl k) ?_
    show Goes _ _ _ _ _ _ _ (s₁.setTop (mkF m 210 #[.val (.ref a), .val (.int i), .unset] [(.int (i + (3 : Int32))), (.ref a), (.int (2 : Int32)), (.int (4 : Int32))]))
    refine Goes.of (fun t k => ldI X0 hx hZ e0 V_a (j := (i + (3 : Int32))) (i := (i + (3 : Int32)).toNatClampNeg) (v := (f (i + (3 : Int32)).toNatClampNeg)) (own_nn (by omega)) rfl (own_ltn (by omega) (by omega)) rfl (g := (mkF m 210 #[.val (.ref a), .val (.int i), .unset] [(.int (i + (3 : Int32))), (.ref a), (.int (2 : Int32)), (.int (4 : Int32))])) rfl rfl (hb hby d6_210) t k) ?_
    show Goes _ _ _ _ _ _ _ (s₁.setTop (mkF m 211 #[.val (.ref a), .val (.int i), .unset] [(.int (f (i + (3 : Int32)).toNatClampNeg)), (.int (2 : Int32)), (.int (4 : Int32))]))
    refine Goes.of (fun t k => XS.imul X0.here hx rfl (hb hby d6_211) rfl k) ?_
    show Goes _ _ _ _ _ _ _ (s₁.setTop (mkF m 212 #[.val (.ref a), .val (.int i), .unset] [(.int ((2 : Int32) * (f (i + (3 : Int32)).toNatClampNeg))), (.int (4 : Int32))]))
    refine Goes.of (fun t k => XS.iadd X0.here hx rfl (hb hby d6_212) rfl k) ?_
    show Goes _ _ _ _ _ _ _ (s₁.setTop (mkF m 213 #[.val (.ref a), .val (.int i), .unset] [(.int ((4 : Int32) + ((2 : Int32) * (f (i + (3 : Int32)).toNatClampNeg))))]))
    refine Goes.of (fun t k => XS.istoreN X0.here hx rfl (hb hby d6_213) rfl (l' := #[.val (.ref a), .val (.int i), .val (.int ((4 : Int32) + ((2 : Int32) * (f (i + (3 : Int32)).toNatClampNeg))))]) rfl k) ?_
    show Goes _ _ _ _ _ _ _ (s₁.setTop (mkF m 214 #[.val (.ref a), .val (.int i), .val (.int ((4 : Int32) + ((2 : Int32) * (f (i + (3 : Int32)).toNatClampNeg))))] []))
    refine Goes.of (fun t k => XS.goto X0.here hx rfl (pc0 := 214) (pc' := 251) rfl (hb hby d6_214) (by decide) (by decide) k) ?_
    show Goes _ _ _ _ _ _ _ (s₁.setTop (mkF m 251 #[.val (.ref a), .val (.int i), .val (.int ((4 : Int32) + ((2 : Int32) * (f (i + (3 : Int32)).toNatClampNeg))))] []))
    refine Goes.of (fun t k => XS.iloadN X0.here hx rfl (hb hby d6_251) rfl k) ?_
    show Goes _ _ _ _ _ _ _ (s₁.setTop (mkF m 252 #[.val (.ref a), .val (.int i), .val (.int ((4 : Int32) + ((2 : Int32) * (f (i + (3 : Int32)).toNatClampNeg))))] [(.int ((4 : Int32) + ((2 : Int32) * (f (i + (3 : Int32)).toNatClampNeg))))]))
    exact Goes.fin X0 hlk (v := some (.int ((4 : Int32) + ((2 : Int32) * (f (i + (3 : Int32)).toNatClampNeg))))) (fun h => by rw [Bd.returns] at h; cases h) (fun fs hr => retI X0 hx Bd.returns (hb hby d6_252) hr) ⟨congrArg (fun z => some (Value.int z)) (by rw [f6, if_neg hc11, if_neg hc12, if_neg hc13, if_neg hc14, if_neg hc15, if_neg hc16, if_neg hc17, if_neg hc18, if_neg hc19, if_neg hc20, if_neg hc21, if_neg hc22, if_neg hc23, if_neg hc24, if_neg hc25, if_neg hc26, if_neg hc27, if_neg hc28, if_neg hc29, if_pos hc30] : ((4 : Int32) + ((2 : Int32) * (f (i + (3 : Int32)).toNatClampNeg))) = f6 (f i.toNatClampNeg) (f (i + (3 : Int32)).toNatClampNeg)), N0, e0⟩ (by decide) (by decide)
  by_cases hc31 : (f i.toNatClampNeg) = (20 : Int32)
  · refine Goes.of (fun t k => XS.tswIn X0.here hx rfl (pc0 := 3) (pc' := 217) (o := 214) rfl (hb hby d6_3) rfl (by rw [hc31]; decide) (by rw [hc31]; decide) (by decide) (by decide) k) ?_
    show Goes _ _ _ _ _ _ _ (s₁.setTop (mkF m 217 #[.val (.ref a), .val (.int i), .unset] []))
    refine Goes.of (fun t k => XS.bipush X0.here hx rfl (hb hby d6_217) k) ?_
    show Goes _ _ _ _ _ _ _ (s₁.setTop (mkF m 219 #[.val (.ref a), .val (.int i), .unset] [(.int (6 : Int32))]))
    refine Goes.of (fun t k => XS.istoreN X0.here hx rfl (hb hby d6_219) rfl (l' := #[.val (.ref a), .val (.int i), .val (.int (6 : Int32))]) rfl k) ?_
    show Goes _ _ _ _ _ _ _ (s₁.setTop (mkF m 220 #[.val (.ref a), .val (.int i), .val (.int (6 : Int32))] []))
    refine Goes.of (fun t k => XS.goto X0.here hx rfl (pc0 := 220) (pc' := 251) rfl (hb hby d6_220) (by decide) (by decide) k) ?_
    show Goes _ _ _ _ _ _ _ (s₁.setTop (mkF m 251 #[.val (.ref a), .val (.int i), .val (.int (6 : Int32))] []))
    refine Goes.of (fun t k => XS.iloadN X0.here hx rfl (hb hby d6_251) rfl k) ?_
    show Goes _ _ _ _ _ _ _ (s₁.setTop (mkF m 252 #[.val (.ref a), .val (.int i), .val (.int (6 : Int32))] [(.int (6 : Int32))]))
    exact Goes.fin X0 hlk (v := some (.int (6 : Int32))) (fun h => by rw [Bd.returns] at h; cases h) (fun fs hr => retI X0 hx Bd.returns (hb hby d6_252) hr) ⟨congrArg (fun z => some (Value.int z)) (by rw [f6, if_neg hc11, if_neg hc12, if_neg hc13, if_neg hc14, if_neg hc15, if_neg hc16, if_neg hc17, if_neg hc18, if_neg hc19, if_neg hc20, if_neg hc21, if_neg hc22, if_neg hc23, if_neg hc24, if_neg hc25, if_neg hc26, if_neg hc27, if_neg hc28, if_neg hc29, if_neg hc30, if_pos hc31] : (6 : Int32) = f6 (f i.toNatClampNeg) (f (i + (3 : Int32)).toNatClampNeg)), N0, e0⟩ (by decide) (by decide)
  by_cases hc32 : (f i.toNatClampNeg) = (21 : Int32)
  · refine Goes.of (fun t k => XS.tswIn X0.here hx rfl (pc0 := 3) (pc' := 249) (o := 246) rfl (hb hby d6_3) rfl (by rw [hc32]; decide) (by rw [hc32]; decide) (by decide) (by decide) k) ?_
    show Goes _ _ _ _ _ _ _ (s₁.setTop (mkF m 249 #[.val (.ref a), .val (.int i), .unset] []))
    refine Goes.of (fun t k => XS.iconst X0.here hx rfl (hb hby d6_249) k) ?_
    show Goes _ _ _ _ _ _ _ (s₁.setTop (mkF m 250 #[.val (.ref a), .val (.int i), .unset] [(.int (2 : Int32))]))
    refine Goes.of (fun t k => XS.istoreN X0.here hx rfl (hb hby d6_250) rfl (l' := #[.val (.ref a), .val (.int i), .val (.int (2 : Int32))]) rfl k) ?_
    show Goes _ _ _ _ _ _ _ (s₁.setTop (mkF m 251 #[.val (.ref a), .val (.int i), .val (.int (2 : Int32))] []))
    refine Goes.of (fun t k => XS.iloadN X0.here hx rfl (hb hby d6_251) rfl k) ?_
    show Goes _ _ _ _ _ _ _ (s₁.setTop (mkF m 252 #[.val (.ref a), .val (.int i), .val (.int (2 : Int32))] [(.int (2 : Int32))]))
    exact Goes.fin X0 hlk (v := some (.int (2 : Int32))) (fun h => by rw [Bd.returns] at h; cases h) (fun fs hr => retI X0 hx Bd.returns (hb hby d6_252) hr) ⟨congrArg (fun z => some (Value.int z)) (by rw [f6, if_neg hc11, if_neg hc12, if_neg hc13, if_neg hc14, if_neg hc15, if_neg hc16, if_neg hc17, if_neg hc18, if_neg hc19, if_neg hc20, if_neg hc21, if_neg hc22, if_neg hc23, if_neg hc24, if_neg hc25, if_neg hc26, if_neg hc27, if_neg hc28, if_neg hc29, if_neg hc30, if_neg hc31, if_pos hc32] : (2 : Int32) = f6 (f i.toNatClampNeg) (f (i + (3 : Int32)).toNatClampNeg)), N0, e0⟩ (by decide) (by decide)
  by_cases hc33 : (f i.toNatClampNeg) = (22 : Int32)
  · refine Goes.of (fun t k => XS.tswIn X0.here hx rfl (pc0 := 3) (pc' := 249) (o := 246) rfl (hb hby d6_3) rfl (by rw [hc33]; decide) (by rw [hc33]; decide) (by decide) (by decide) k) ?_
    show Goes _ _ _ _ _ _ _ (s₁.setTop (mkF m 249 #[.val (.ref a), .val (.int i), .unset] []))
    refine Goes.of (fun t k => XS.iconst X0.here hx rfl (hb hby d6_249) k) ?_
    show Goes _ _ _ _ _ _ _ (s₁.setTop (mkF m 250 #[.val (.ref a), .val (.int i), .unset] [(.int (2 : Int32))]))
    refine Goes.of (fun t k => XS.istoreN X0.here hx rfl (hb hby d6_250) rfl (l' := #[.val (.ref a), .val (.int i), .val (.int (2 : Int32))]) rfl k) ?_
    show Goes _ _ _ _ _ _ _ (s₁.setTop (mkF m 251 #[.val (.ref a), .val (.int i), .val (.int (2 : Int32))] []))
    refine Goes.of (fun t k => XS.iloadN X0.here hx rfl (hb hby d6_251) rfl k) ?_
    show Goes _ _ _ _ _ _ _ (s₁.setTop (mkF m 252 #[.val (.ref a), .val (.int i), .val (.int (2 : Int32))] [(.int (2 : Int32))]))
    exact Goes.fin X0 hlk (v := some (.int (2 : Int32))) (fun h => by rw [Bd.returns] at h; cases h) (fun fs hr => retI X0 hx Bd.returns (hb hby d6_252) hr) ⟨congrArg (fun z => some (Value.int z)) (by rw [f6, if_neg hc11, if_neg hc12, if_neg hc13, if_neg hc14, if_neg hc15, if_neg hc16, if_neg hc17, if_neg hc18, if_neg hc19, if_neg hc20, if_neg hc21, if_neg hc22, if_neg hc23, if_neg hc24, if_neg hc25, if_neg hc26, if_neg hc27, if_neg hc28, if_neg hc29, if_neg hc30, if_neg hc31, if_neg hc32, if_pos hc33] : (2 : Int32) = f6 (f i.toNatClampNeg) (f (i + (3 : Int32)).toNatClampNeg)), N0, e0⟩ (by decide) (by decide)
  by_cases hc34 : (f i.toNatClampNeg) = (23 : Int32)
  · refine Goes.of (fun t k => XS.tswIn X0.here hx rfl (pc0 := 3) (pc' := 244) (o := 241) rfl (hb hby d6_3) rfl (by rw [hc34]; decide) (by rw [hc34]; decide) (by decide) (by decide) k) ?_
    show Goes _ _ _ _ _ _ _ (s₁.setTop (mkF m 244 #[.val (.ref a), .val (.int i), .unset] []))
    refine Goes.of (fun t k => XS.iconst X0.here hx rfl (hb hby d6_244) k) ?_
    show Goes _ _ _ _ _ _ _ (s₁.setTop (mkF m 245 #[.val (.ref a), .val (.int i), .unset] [(.int (1 : Int32))]))
    refine Goes.of (fun t k => XS.istoreN X0.here hx rfl (hb hby d6_245) rfl (l' := #[.val (.ref a), .val (.int i), .val (.int (1 : Int32))]) rfl k) ?_
    show Goes _ _ _ _ _ _ _ (s₁.setTop (mkF m 246 #[.val (.ref a), .val (.int i), .val (.int (1 : Int32))] []))
    refine Goes.of (fun t k => XS.goto X0.here hx rfl (pc0 := 246) (pc' := 251) rfl (hb hby d6_246) (by decide) (by decide) k) ?_
    show Goes _ _ _ _ _ _ _ (s₁.setTop (mkF m 251 #[.val (.ref a), .val (.int i), .val (.int (1 : Int32))] []))
    refine Goes.of (fun t k => XS.iloadN X0.here hx rfl (hb hby d6_251) rfl k) ?_
    show Goes _ _ _ _ _ _ _ (s₁.setTop (mkF m 252 #[.val (.ref a), .val (.int i), .val (.int (1 : Int32))] [(.int (1 : Int32))]))
    exact Goes.fin X0 hlk (v := some (.int (1 : Int32))) (fun h => by rw [Bd.returns] at h; cases h) (fun fs hr => retI X0 hx Bd.returns (hb hby d6_252) hr) ⟨congrArg (fun z => some (Value.int z)) (by rw [f6, if_neg hc11, if_neg hc12, if_neg hc13, if_neg hc14, if_neg hc15, if_neg hc16, if_neg hc17, if_neg hc18, if_neg hc19, if_neg hc20, if_neg hc21, if_neg hc22, if_neg hc23, if_neg hc24, if_neg hc25, if_neg hc26, if_neg hc27, if_neg hc28, if_neg hc29, if_neg hc30, if_neg hc31, if_neg hc32, if_neg hc33, if_pos hc34] : (1 : Int32) = f6 (f i.toNatClampNeg) (f (i + (3 : Int32)).toNatClampNeg)), N0, e0⟩ (by decide) (by decide)
  by_cases hc35 : (f i.toNatClampNeg) = (24 : Int32)
  · refine Goes.of (fun t k => XS.tswIn X0.here hx rfl (pc0 := 3) (pc' := 249) (o := 246) rfl (hb hby d6_3) rfl (by rw [hc35]; decide) (by rw [hc35]; decide) (by decide) (by decide) k) ?_
    show Goes _ _ _ _ _ _ _ (s₁.setTop (mkF m 249 #[.val (.ref a), .val (.int i), .unset] []))
    refine Goes.of (fun t k => XS.iconst X0.here hx rfl (hb hby d6_249) k) ?_
    show Goes _ _ _ _ _ _ _ (s₁.setTop (mkF m 250 #[.val (.ref a), .val (.int i), .unset] [(.int (2 : Int32))]))
    refine Goes.of (fun t k => XS.istoreN X0.here hx rfl (hb hby d6_250) rfl (l' := #[.val (.ref a), .val (.int i), .val (.int (2 : Int32))]) rfl k) ?_
    show Goes _ _ _ _ _ _ _ (s₁.setTop (mkF m 251 #[.val (.ref a), .val (.int i), .val (.int (2 : Int32))] []))
    refine Goes.of (fun t k => XS.iloadN X0.here hx rfl (hb hby d6_251) rfl k) ?_
    show Goes _ _ _ _ _ _ _ (s₁.setTop (mkF m 252 #[.val (.ref a), .val (.int i), .val (.int (2 : Int32))] [(.int (2 : Int32))]))
    exact Goes.fin X0 hlk (v := some (.int (2 : Int32))) (fun h => by rw [Bd.returns] at h; cases h) (fun fs hr => retI X0 hx Bd.returns (hb hby d6_252) hr) ⟨congrArg (fun z => some (Value.int z)) (by rw [f6, if_neg hc11, if_neg hc12, if_neg hc13, if_neg hc14, if_neg hc15, if_neg hc16, if_neg hc17, if_neg hc18, if_neg hc19, if_neg hc20, if_neg hc21, if_neg hc22, if_neg hc23, if_neg hc24, if_neg hc25, if_neg hc26, if_neg hc27, if_neg hc28, if_neg hc29, if_neg hc30, if_neg hc31, if_neg hc32, if_neg hc33, if_neg hc34, if_pos hc35] : (2 : Int32) = f6 (f i.toNatClampNeg) (f (i + (3 : Int32)).toNatClampNeg)), N0, e0⟩ (by decide) (by decide)
  by_cases hc36 : (f i.toNatClampNeg) = (25 : Int32)
  · refine Goes.of (fun t k => XS.tswIn X0.here hx rfl (pc0 := 3) (pc' := 249) (o := 246) rfl (hb hby d6_3) rfl (by rw [hc36]; decide) (by rw [hc36]; decide) (by decide) (by decide) k) ?_
    show Goes _ _ _ _ _ _ _ (s₁.setTop (mkF m 249 #[.val (.ref a), .val (.int i), .unset] []))
    refine Goes.of (fun t k => XS.iconst X0.here hx rfl (hb hby d6_249) k) ?_
    show Goes _ _ _ _ _ _ _ (s₁.setTop (mkF m 250 #[.val (.ref a), .val (.int i), .unset] [(.int (2 : Int32))]))
    refine Goes.of (fun t k => XS.istoreN X0.here hx rfl (hb hby d6_250) rfl (l' := #[.val (.ref a), .val (.int i), .val (.int (2 : Int32))]) rfl k) ?_
    show Goes _ _ _ _ _ _ _ (s₁.setTop (mkF m 251 #[.val (.ref a), .val (.int i), .val (.int (2 : Int32))] []))
    refine Goes.of (fun t k => XS.iloadN X0.here hx rfl (hb hby d6_251) rfl k) ?_
    show Goes _ _ _ _ _ _ _ (s₁.setTop (mkF m 252 #[.val (.ref a), .val (.int i), .val (.int (2 : Int32))] [(.int (2 : Int32))]))
    exact Goes.fin X0 hlk (v := some (.int (2 : Int32))) (fun h => by rw [Bd.returns] at h; cases h) (fun fs hr => retI X0 hx Bd.returns (hb hby d6_252) hr) ⟨congrArg (fun z => some (Value.int z)) (by rw [f6, if_neg hc11, if_neg hc12, if_neg hc13, if_neg hc14, if_neg hc15, if_neg hc16, if_neg hc17, if_neg hc18, if_neg hc19, if_neg hc20, if_neg hc21, if_neg hc22, if_neg hc23, if_neg hc24, if_neg hc25, if_neg hc26, if_neg hc27, if_neg hc28, if_neg hc29, if_neg hc30, if_neg hc31, if_neg hc32, if_neg hc33, if_neg hc34, if_neg hc35, if_pos hc36] : (2 : Int32) = f6 (f i.toNatClampNeg) (f (i + (3 : Int32)).toNatClampNeg)), N0, e0⟩ (by decide) (by decide)
  by_cases hc37 : (f i.toNatClampNeg) = (26 : Int32)
  · refine Goes.of (fun t k => XS.tswIn X0.here hx rfl (pc0 := 3) (pc' := 244) (o := 241) rfl (hb hby d6_3) rfl (by rw [hc37]; decide) (by rw [hc37]; decide) (by decide) (by decide) k) ?_
    show Goes _ _ _ _ _ _ _ (s₁.setTop (mkF m 244 #[.val (.ref a), .val (.int i), .unset] []))
    refine Goes.of (fun t k => XS.iconst X0.here hx rfl (hb hby d6_244) k) ?_
    show Goes _ _ _ _ _ _ _ (s₁.setTop (mkF m 245 #[.val (.ref a), .val (.int i), .unset] [(.int (1 : Int32))]))
    refine Goes.of (fun t k => XS.istoreN X0.here hx rfl (hb hby d6_245) rfl (l' := #[.val (.ref a), .val (.int i), .val (.int (1 : Int32))]) rfl k) ?_
    show Goes _ _ _ _ _ _ _ (s₁.setTop (mkF m 246 #[.val (.ref a), .val (.int i), .val (.int (1 : Int32))] []))
    refine Goes.of (fun t k => XS.goto X0.here hx rfl (pc0 := 246) (pc' := 251) rfl (hb hby d6_246) (by decide) (by decide) k) ?_
    show Goes _ _ _ _ _ _ _ (s₁.setTop (mkF m 251 #[.val (.ref a), .val (.int i), .val (.int (1 : Int32))] []))
    refine Goes.of (fun t k => XS.iloadN X0.here hx rfl (hb hby d6_251) rfl k) ?_
    show Goes _ _ _ _ _ _ _ (s₁.setTop (mkF m 252 #[.val (.ref a), .val (.int i), .val (.int (1 : Int32))] [(.int (1 : Int32))]))
    exact Goes.fin X0 hlk (v := some (.int (1 : Int32))) (fun h => by rw [Bd.returns] at h; cases h) (fun fs hr => retI X0 hx Bd.returns (hb hby d6_252) hr) ⟨congrArg (fun z => some (Value.int z)) (by rw [f6, if_neg hc11, if_neg hc12, if_neg hc13, if_neg hc14, if_neg hc15, if_neg hc16, if_neg hc17, if_neg hc18, if_neg hc19, if_neg hc20, if_neg hc21, if_neg hc22, if_neg hc23, if_neg hc24, if_neg hc25, if_neg hc26, if_neg hc27, if_neg hc28, if_neg hc29, if_neg hc30, if_neg hc31, if_neg hc32, if_neg hc33, if_neg hc34, if_neg hc35, if_neg hc36, if_pos hc37] : (1 : Int32) = f6 (f i.toNatClampNeg) (f (i + (3 : Int32)).toNatClampNeg)), N0, e0⟩ (by decide) (by decide)
  by_cases hc38 : (f i.toNatClampNeg) = (27 : Int32)
  · refine Goes.of (fun t k => XS.tswIn X0.here hx rfl (pc0 := 3) (pc' := 244) (o := 241) rfl (hb hby d6_3) rfl (by rw [hc38]; decide) (by rw [hc38]; decide) (by decide) (by decide) k) ?_
    show Goes _ _ _ _ _ _ _ (s₁.setTop (mkF m 244 #[.val (.ref a), .val (.int i), .unset] []))
    refine Goes.of (fun t k => XS.iconst X0.here hx rfl (hb hby d6_244) k) ?_
    show Goes _ _ _ _ _ _ _ (s₁.setTop (mkF m 245 #[.val (.ref a), .val (.int i), .unset] [(.int (1 : Int32))]))
    refine Goes.of (fun t k => XS.istoreN X0.here hx rfl (hb hby d6_245) rfl (l' := #[.val (.ref a), .val (.int i), .val (.int (1 : Int32))]) rfl k) ?_
    show Goes _ _ _ _ _ _ _ (s₁.setTop (mkF m 246 #[.val (.ref a), .val (.int i), .val (.int (1 : Int32))] []))
    refine Goes.of (fun t k => XS.goto X0.here hx rfl (pc0 := 246) (pc' := 251) rfl (hb hby d6_246) (by decide) (by decide) k) ?_
    show Goes _ _ _ _ _ _ _ (s₁.setTop (mkF m 251 #[.val (.ref a), .val (.int i), .val (.int (1 : Int32))] []))
    refine Goes.of (fun t k => XS.iloadN X0.here hx rfl (hb hby d6_251) rfl k) ?_
    show Goes _ _ _ _ _ _ _ (s₁.setTop (mkF m 252 #[.val (.ref a), .val (.int i), .val (.int (1 : Int32))] [(.int (1 : Int32))]))
    exact Goes.fin X0 hlk (v := some (.int (1 : Int32))) (fun h => by rw [Bd.returns] at h; cases h) (fun fs hr => retI X0 hx Bd.returns (hb hby d6_252) hr) ⟨congrArg (fun z => some (Value.int z)) (by rw [f6, if_neg hc11, if_neg hc12, if_neg hc13, if_neg hc14, if_neg hc15, if_neg hc16, if_neg hc17, if_neg hc18, if_neg hc19, if_neg hc20, if_neg hc21, if_neg hc22, if_neg hc23, if_neg hc24, if_neg hc25, if_neg hc26, if_neg hc27, if_neg hc28, if_neg hc29, if_neg hc30, if_neg hc31, if_neg hc32, if_neg hc33, if_neg hc34, if_neg hc35, if_neg hc36, if_neg hc37, if_pos hc38] : (1 : Int32) = f6 (f i.toNatClampNeg) (f (i + (3 : Int32)).toNatClampNeg)), N0, e0⟩ (by decide) (by decide)
  by_cases hc39 : (f i.toNatClampNeg) = (28 : Int32)
  · refine Goes.of (fun t k => XS.tswIn X0.here hx rfl (pc0 := 3) (pc' := 249) (o := 246) rfl (hb hby d6_3) rfl (by rw [hc39]; decide) (by rw [hc39]; decide) (by decide) (by decide) k) ?_
    show Goes _ _ _ _ _ _ _ (s₁.setTop (mkF m 249 #[.val (.ref a), .val (.int i), .unset] []))
    refine Goes.of (fun t k => XS.iconst X0.here hx rfl (hb hby d6_249) k) ?_
    show Goes _ _ _ _ _ _ _ (s₁.setTop (mkF m 250 #[.val (.ref a), .val (.int i), .unset] [(.int (2 : Int32))]))
    refine Goes.of (fun t k => XS.istoreN X0.here hx rfl (hb hby d6_250) rfl (l' := #[.val (.ref a), .val (.int i), .val (.int (2 : Int32))]) rfl k) ?_
    show Goes _ _ _ _ _ _ _ (s₁.setTop (mkF m 251 #[.val (.ref a), .val (.int i), .val (.int (2 : Int32))] []))
    refine Goes.of (fun t k => XS.iloadN X0.here hx rfl (hb hby d6_251) rfl k) ?_
    show Goes _ _ _ _ _ _ _ (s₁.setTop (mkF m 252 #[.val (.ref a), .val (.int i), .val (.int (2 : Int32))] [(.int (2 : Int32))]))
    exact Goes.fin X0 hlk (v := some (.int (2 : Int32))) (fun h => by rw [Bd.returns] at h; cases h) (fun fs hr => retI X0 hx Bd.returns (hb hby d6_252) hr) ⟨congrArg (fun z => some (Value.int z)) (by rw [f6, if_neg hc11, if_neg hc12, if_neg hc13, if_neg hc14, if_neg hc15, if_neg hc16, if_neg hc17, if_neg hc18, if_neg hc19, if_neg hc20, if_neg hc21, if_neg hc22, if_neg hc23, if_neg hc24, if_neg hc25, if_neg hc26, if_neg hc27, if_neg hc28, if_neg hc29, if_neg hc30, if_neg hc31, if_neg hc32, if_neg hc33, if_neg hc34, if_neg hc35, if_neg hc36, if_neg hc37, if_neg hc38, if_pos hc39] : (2 : Int32) = f6 (f i.toNatClampNeg) (f (i + (3 : Int32)).toNatClampNeg)), N0, e0⟩ (by decide) (by decide)
  by_cases hc40 : (f i.toNatClampNeg) = (29 : Int32)
  · refine Goes.of (fun t k => XS.tswIn X0.here hx rfl (pc0 := 3) (pc' := 249) (o := 246) rfl (hb hby d6_3) rfl (by rw [hc40]; decide) (by rw [hc40]; decide) (by decide) (by decide) k) ?_
    show Goes _ _ _ _ _ _ _ (s₁.setTop (mkF m 249 #[.val (.ref a), .val (.int i), .unset] []))
    refine Goes.of (fun t k => XS.iconst X0.here hx rfl (hb hby d6_249) k) ?_
    show Goes _ _ _ _ _ _ _ (s₁.setTop (mkF m 250 #[.val (.ref a), .val (.int i), .unset] [(.int (2 : Int32))]))
    refine Goes.of (fun t k => XS.istoreN X0.here hx rfl (hb hby d6_250) rfl (l' := #[.val (.ref a), .val (.int i), .val (.int (2 : Int32))]) rfl k) ?_
    show Goes _ _ _ _ _ _ _ (s₁.setTop (mkF m 251 #[.val (.ref a), .val (.int i), .val (.int (2 : Int32))] []))
    refine Goes.of (fun t k => XS.iloadN X0.here hx rfl (hb hby d6_251) rfl k) ?_
    show Goes _ _ _ _ _ _ _ (s₁.setTop (mkF m 252 #[.val (.ref a), .val (.int i), .val (.int (2 : Int32))] [(.int (2 : Int32))]))
    exact Goes.fin X0 hlk (v := some (.int (2 : Int32))) (fun h => by rw [Bd.returns] at h; cases h) (fun fs hr => retI X0 hx Bd.returns (hb hby d6_252) hr) ⟨congrArg (fun z => some (Value.int z)) (by rw [f6, if_neg hc11, if_neg hc12, if_neg hc13, if_neg hc14, if_neg hc15, if_neg hc16, if_neg hc17, if_neg hc18, if_neg hc19, if_neg hc20, if_neg hc21, if_neg hc22, if_neg hc23, if_neg hc24, if_neg hc25, if_neg hc26, if_neg hc27, if_neg hc28, if_neg hc29, if_neg hc30, if_neg hc31, if_neg hc32, if_neg hc33, if_neg hc34, if_neg hc35, if_neg hc36, if_neg hc37, if_neg hc38, if_neg hc39, if_pos hc40] : (2 : Int32) = f6 (f i.toNatClampNeg) (f (i + (3 : Int32)).toNatClampNeg)), N0, e0⟩ (by decide) (by decide)
  by_cases hc41 : (f i.toNatClampNeg) = (30 : Int32)
  · refine Goes.of (fun t k => XS.tswIn X0.here hx rfl (pc0 := 3) (pc' := 244) (o := 241) rfl (hb hby d6_3) rfl (by rw [hc41]; decide) (by rw [hc41]; decide) (by decide) (by decide) k) ?_
    show Goes _ _ _ _ _ _ _ (s₁.setTop (mkF m 244 #[.val (.ref a), .val (.int i), .unset] []))
    refine Goes.of (fun t k => XS.iconst X0.here hx rfl (hb hby d6_244) k) ?_
    show Goes _ _ _ _ _ _ _ (s₁.setTop (mkF m 245 #[.val (.ref a), .val (.int i), .unset] [(.int (1 : Int32))]))
    refine Goes.of (fun t k => XS.istoreN X0.here hx rfl (hb hby d6_245) rfl (l' := #[.val (.ref a), .val (.int i), .val (.int (1 : Int32))]) rfl k) ?_
    show Goes _ _ _ _ _ _ _ (s₁.setTop (mkF m 246 #[.val (.ref a), .val (.int i), .val (.int (1 : Int32))] []))
    refine Goes.of (fun t k => XS.goto X0.here hx rfl (pc0 := 246) (pc' := 251) rfl (hb hby d6_246) (by decide) (by decide) k) ?_
    show Goes _ _ _ _ _ _ _ (s₁.setTop (mkF m 251 #[.val (.ref a), .val (.int i), .val (.int (1 : Int32))] []))
    refine Goes.of (fun t k => XS.iloadN X0.here hx rfl (hb hby d6_251) rfl k) ?_
    show Goes _ _ _ _ _ _ _ (s₁.setTop (mkF m 252 #[.val (.ref a), .val (.int i), .val (.int (1 : Int32))] [(.int (1 : Int32))]))
    exact Goes.fin X0 hlk (v := some (.int (1 : Int32))) (fun h => by rw [Bd.returns] at h; cases h) (fun fs hr => retI X0 hx Bd.returns (hb hby d6_252) hr) ⟨congrArg (fun z => some (Value.int z)) (by rw [f6, if_neg hc11, if_neg hc12, if_neg hc13, if_neg hc14, if_neg hc15, if_neg hc16, if_neg hc17, if_neg hc18, if_neg hc19, if_neg hc20, if_neg hc21, if_neg hc22, if_neg hc23, if_neg hc24, if_neg hc25, if_neg hc26, if_neg hc27, if_neg hc28, if_neg hc29, if_neg hc30, if_neg hc31, if_neg hc32, if_neg hc33, if_neg hc34, if_neg hc35, if_neg hc36, if_neg hc37, if_neg hc38, if_neg hc39, if_neg hc40, if_pos hc41] : (1 : Int32) = f6 (f i.toNatClampNeg) (f (i + (3 : Int32)).toNatClampNeg)), N0, e0⟩ (by decide) (by decide)
  by_cases hc42 : (f i.toNatClampNeg) = (31 : Int32)
  · refine Goes.of (fun t k => XS.tswIn X0.here hx rfl (pc0 := 3) (pc' := 249) (o := 246) rfl (hb hby d6_3) rfl (by rw [hc42]; decide) (by rw [hc42]; decide) (by decide) (by decide) k) ?_
    show Goes _ _ _ _ _ _ _ (s₁.setTop (mkF m 249 #[.val (.ref a), .val (.int i), .unset] []))
    refine Goes.of (fun t k => XS.iconst X0.here hx rfl (hb hby d6_249) k) ?_
    show Goes _ _ _ _ _ _ _ (s₁.setTop (mkF m 250 #[.val (.ref a), .val (.int i), .unset] [(.int (2 : Int32))]))
    refine Goes.of (fun t k => XS.istoreN X0.here hx rfl (hb hby d6_250) rfl (l' := #[.val (.ref a), .val (.int i), .val (.int (2 : Int32))]) rfl k) ?_
    show Goes _ _ _ _ _ _ _ (s₁.setTop (mkF m 251 #[.val (.ref a), .val (.int i), .val (.int (2 : Int32))] []))
    refine Goes.of (fun t k => XS.iloadN X0.here hx rfl (hb hby d6_251) rfl k) ?_
    show Goes _ _ _ _ _ _ _ (s₁.setTop (mkF m 252 #[.val (.ref a), .val (.int i), .val (.int (2 : Int32))] [(.int (2 : Int32))]))
    exact Goes.fin X0 hlk (v := some (.int (2 : Int32))) (fun h => by rw [Bd.returns] at h; cases h) (fun fs hr => retI X0 hx Bd.returns (hb hby d6_252) hr) ⟨congrArg (fun z => some (Value.int z)) (by rw [f6, if_neg hc11, if_neg hc12, if_neg hc13, if_neg hc14, if_neg hc15, if_neg hc16, if_neg hc17, if_neg hc18, if_neg hc19, if_neg hc20, if_neg hc21, if_neg hc22, if_neg hc23, if_neg hc24, if_neg hc25, if_neg hc26, if_neg hc27, if_neg hc28, if_neg hc29, if_neg hc30, if_neg hc31, if_neg hc32, if_neg hc33, if_neg hc34, if_neg hc35, if_neg hc36, if_neg hc37, if_neg hc38, if_neg hc39, if_neg hc40, if_neg hc41, if_pos hc42] : (2 : Int32) = f6 (f i.toNatClampNeg) (f (i + (3 : Int32)).toNatClampNeg)), N0, e0⟩ (by decide) (by decide)
  by_cases hc43 : (f i.toNatClampNeg) = (32 : Int32)
  · refine Goes.of (fun t k => XS.tswIn X0.here hx rfl (pc0 := 3) (pc' := 249) (o := 246) rfl (hb hby d6_3) rfl (by rw [hc43]; decide) (by rw [hc43]; decide) (by decide) (by decide) k) ?_
    show Goes _ _ _ _ _ _ _ (s₁.setTop (mkF m 249 #[.val (.ref a), .val (.int i), .unset] []))
    refine Goes.of (fun t k => XS.iconst X0.here hx rfl (hb hby d6_249) k) ?_
    show Goes _ _ _ _ _ _ _ (s₁.setTop (mkF m 250 #[.val (.ref a), .val (.int i), .unset] [(.int (2 : Int32))]))
    refine Goes.of (fun t k => XS.istoreN X0.here hx rfl (hb hby d6_250) rfl (l' := #[.val (.ref a), .val (.int i), .val (.int (2 : Int32))]) rfl k) ?_
    show Goes _ _ _ _ _ _ _ (s₁.setTop (mkF m 251 #[.val (.ref a), .val (.int i), .val (.int (2 : Int32))] []))
    refine Goes.of (fun t k => XS.iloadN X0.here hx rfl (hb hby d6_251) rfl k) ?_
    show Goes _ _ _ _ _ _ _ (s₁.setTop (mkF m 252 #[.val (.ref a), .val (.int i), .val (.int (2 : Int32))] [(.int (2 : Int32))]))
    exact Goes.fin X0 hlk (v := some (.int (2 : Int32))) (fun h => by rw [Bd.returns] at h; cases h) (fun fs hr => retI X0 hx Bd.returns (hb hby d6_252) hr) ⟨congrArg (fun z => some (Value.int z)) (by rw [f6, if_neg hc11, if_neg hc12, if_neg hc13, if_neg hc14, if_neg hc15, if_neg hc16, if_neg hc17, if_neg hc18, if_neg hc19, if_neg hc20, if_neg hc21, if_neg hc22, if_neg hc23, if_neg hc24, if_neg hc25, if_neg hc26, if_neg hc27, if_neg hc28, if_neg hc29, if_neg hc30, if_neg hc31, if_neg hc32, if_neg hc33, if_neg hc34, if_neg hc35, if_neg hc36, if_neg hc37, if_neg hc38, if_neg hc39, if_neg hc40, if_neg hc41, if_neg hc42, if_pos hc43] : (2 : Int32) = f6 (f i.toNatClampNeg) (f (i + (3 : Int32)).toNatClampNeg)), N0, e0⟩ (by decide) (by decide)
  by_cases hc44 : (f i.toNatClampNeg) = (33 : Int32)
  · refine Goes.of (fun t k => XS.tswIn X0.here hx rfl (pc0 := 3) (pc' := 249) (o := 246) rfl (hb hby d6_3) rfl (by rw [hc44]; decide) (by rw [hc44]; decide) (by decide) (by decide) k) ?_
    show Goes _ _ _ _ _ _ _ (s₁.setTop (mkF m 249 #[.val (.ref a), .val (.int i), .unset] []))
    refine Goes.of (fun t k => XS.iconst X0.here hx rfl (hb hby d6_249) k) ?_
    show Goes _ _ _ _ _ _ _ (s₁.setTop (mkF m 250 #[.val (.ref a), .val (.int i), .unset] [(.int (2 : Int32))]))
    refine Goes.of (fun t k => XS.istoreN X0.here hx rfl (hb hby d6_250) rfl (l' := #[.val (.ref a), .val (.int i), .val (.int (2 : Int32))]) rfl k) ?_
    show Goes _ _ _ _ _ _ _ (s₁.setTop (mkF m 251 #[.val (.ref a), .val (.int i), .val (.int (2 : Int32))] []))
    refine Goes.of (fun t k => XS.iloadN X0.here hx rfl (hb hby d6_251) rfl k) ?_
    show Goes _ _ _ _ _ _ _ (s₁.setTop (mkF m 252 #[.val (.ref a), .val (.int i), .val (.int (2 : Int32))] [(.int (2 : Int32))]))
    exact Goes.fin X0 hlk (v := some (.int (2 : Int32))) (fun h => by rw [Bd.returns] at h; cases h) (fun fs hr => retI X0 hx Bd.returns (hb hby d6_252) hr) ⟨congrArg (fun z => some (Value.int z)) (by rw [f6, if_neg hc11, if_neg hc12, if_neg hc13, if_neg hc14, if_neg hc15, if_neg hc16, if_neg hc17, if_neg hc18, if_neg hc19, if_neg hc20, if_neg hc21, if_neg hc22, if_neg hc23, if_neg hc24, if_neg hc25, if_neg hc26, if_neg hc27, if_neg hc28, if_neg hc29, if_neg hc30, if_neg hc31, if_neg hc32, if_neg hc33, if_neg hc34, if_neg hc35, if_neg hc36, if_neg hc37, if_neg hc38, if_neg hc39, if_neg hc40, if_neg hc41, if_neg hc42, if_neg hc43, if_pos hc44] : (2 : Int32) = f6 (f i.toNatClampNeg) (f (i + (3 : Int32)).toNatClampNeg)), N0, e0⟩ (by decide) (by decide)
  by_cases hc45 : (f i.toNatClampNeg) = (34 : Int32)
  · refine Goes.of (fun t k => XS.tswIn X0.here hx rfl (pc0 := 3) (pc' := 239) (o := 236) rfl (hb hby d6_3) rfl (by rw [hc45]; decide) (by rw [hc45]; decide) (by decide) (by decide) k) ?_
    show Goes _ _ _ _ _ _ _ (s₁.setTop (mkF m 239 #[.val (.ref a), .val (.int i), .unset] []))
    refine Goes.of (fun t k => XS.iconst X0.here hx rfl (hb hby d6_239) k) ?_
    show Goes _ _ _ _ _ _ _ (s₁.setTop (mkF m 240 #[.val (.ref a), .val (.int i), .unset] [(.int (3 : Int32))]))
    refine Goes.of (fun t k => XS.istoreN X0.here hx rfl (hb hby d6_240) rfl (l' := #[.val (.ref a), .val (.int i), .val (.int (3 : Int32))]) rfl k) ?_
    show Goes _ _ _ _ _ _ _ (s₁.setTop (mkF m 241 #[.val (.ref a), .val (.int i), .val (.int (3 : Int32))] []))
    refine Goes.of (fun t k => XS.goto X0.here hx rfl (pc0 := 241) (pc' := 251) rfl (hb hby d6_241) (by decide) (by decide) k) ?_
    show Goes _ _ _ _ _ _ _ (s₁.setTop (mkF m 251 #[.val (.ref a), .val (.int i), .val (.int (3 : Int32))] []))
    refine Goes.of (fun t k => XS.iloadN X0.here hx rfl (hb hby d6_251) rfl k) ?_
    show Goes _ _ _ _ _ _ _ (s₁.setTop (mkF m 252 #[.val (.ref a), .val (.int i), .val (.int (3 : Int32))] [(.int (3 : Int32))]))
    exact Goes.fin X0 hlk (v := some (.int (3 : Int32))) (fun h => by rw [Bd.returns] at h; cases h) (fun fs hr => retI X0 hx Bd.returns (hb hby d6_252) hr) ⟨congrArg (fun z => some (Value.int z)) (by rw [f6, if_neg hc11, if_neg hc12, if_neg hc13, if_neg hc14, if_neg hc15, if_neg hc16, if_neg hc17, if_neg hc18, if_neg hc19, if_neg hc20, if_neg hc21, if_neg hc22, if_neg hc23, if_neg hc24, if_neg hc25, if_neg hc26, if_neg hc27, if_neg hc28, if_neg hc29, if_neg hc30, if_neg hc31, if_neg hc32, if_neg hc33, if_neg hc34, if_neg hc35, if_neg hc36, if_neg hc37, if_neg hc38, if_neg hc39, if_neg hc40, if_neg hc41, if_neg hc42, if_neg hc43, if_neg hc44, if_pos hc45] : (3 : Int32) = f6 (f i.toNatClampNeg) (f (i + (3 : Int32)).toNatClampNeg)), N0, e0⟩ (by decide) (by decide)
  by_cases hc46 : (f i.toNatClampNeg) = (35 : Int32)
  · refine Goes.of (fun t k => XS.tswIn X0.here hx rfl (pc0 := 3) (pc' := 239) (o := 236) rfl (hb hby d6_3) rfl (by rw [hc46]; decide) (by rw [hc46]; decide) (by decide) (by decide) k) ?_
    show Goes _ _ _ _ _ _ _ (s₁.setTop (mkF m 239 #[.val (.ref a), .val (.int i), .unset] []))
    refine Goes.of (fun t k => XS.iconst X0.here hx rfl (hb hby d6_239) k) ?_
    show Goes _ _ _ _ _ _ _ (s₁.setTop (mkF m 240 #[.val (.ref a), .val (.int i), .unset] [(.int (3 : Int32))]))
    refine Goes.of (fun t k => XS.istoreN X0.here hx rfl (hb hby d6_240) rfl (l' := #[.val (.ref a), .val (.int i), .val (.int (3 : Int32))]) rfl k) ?_
    show Goes _ _ _ _ _ _ _ (s₁.setTop (mkF m 241 #[.val (.ref a), .val (.int i), .val (.int (3 : Int32))] []))
    refine Goes.of (fun t k => XS.goto X0.here hx rfl (pc0 := 241) (pc' := 251) rfl (hb hby d6_241) (by decide) (by decide) k) ?_
    show Goes _ _ _ _ _ _ _ (s₁.setTop (mkF m 251 #[.val (.ref a), .val (.int i), .val (.int (3 : Int32))] []))
    refine Goes.of (fun t k => XS.iloadN X0.here hx rfl (hb hby d6_251) rfl k) ?_
    show Goes _ _ _ _ _ _ _ (s₁.setTop (mkF m 252 #[.val (.ref a), .val (.int i), .val (.int (3 : Int32))] [(.int (3 : Int32))]))
    exact Goes.fin X0 hlk (v := some (.int (3 : Int32))) (fun h => by rw [Bd.returns] at h; cases h) (fun fs hr => retI X0 hx Bd.returns (hb hby d6_252) hr) ⟨congrArg (fun z => some (Value.int z)) (by rw [f6, if_neg hc11, if_neg hc12, if_neg hc13, if_neg hc14, if_neg hc15, if_neg hc16, if_neg hc17, if_neg hc18, if_neg hc19, if_neg hc20, if_neg hc21, if_neg hc22, if_neg hc23, if_neg hc24, if_neg hc25, if_neg hc26, if_neg hc27, if_neg hc28, if_neg hc29, if_neg hc30, if_neg hc31, if_neg hc32, if_neg hc33, if_neg hc34, if_neg hc35, if_neg hc36, if_neg hc37, if_neg hc38, if_neg hc39, if_neg hc40, if_neg hc41, if_neg hc42, if_neg hc43, if_neg hc44, if_neg hc45, if_pos hc46] : (3 : Int32) = f6 (f i.toNatClampNeg) (f (i + (3 : Int32)).toNatClampNeg)), N0, e0⟩ (by decide) (by decide)
  by_cases hc47 : (f i.toNatClampNeg) = (36 : Int32)
  · refine Goes.of (fun t k => XS.tswIn X0.here hx rfl (pc0 := 3) (pc' := 234) (o := 231) rfl (hb hby d6_3) rfl (by rw [hc47]; decide) (by rw [hc47]; decide) (by decide) (by decide) k) ?_
    show Goes _ _ _ _ _ _ _ (s₁.setTop (mkF m 234 #[.val (.ref a), .val (.int i), .unset] []))
    refine Goes.of (fun t k => XS.iconst X0.here hx rfl (hb hby d6_234) k) ?_
    show Goes _ _ _ _ _ _ _ (s₁.setTop (mkF m 235 #[.val (.ref a), .val (.int i), .unset] [(.int (4 : Int32))]))
    refine Goes.of (fun t k => XS.istoreN X0.here hx rfl (hb hby d6_235) rfl (l' := #[.val (.ref a), .val (.int i), .val (.int (4 : Int32))]) rfl k) ?_
    show Goes _ _ _ _ _ _ _ (s₁.setTop (mkF m 236 #[.val (.ref a), .val (.int i), .val (.int (4 : Int32))] []))
    refine Goes.of (fun t k => XS.goto X0.here hx rfl (pc0 := 236) (pc' := 251) rfl (hb hby d6_236) (by decide) (by decide) k) ?_
    show Goes _ _ _ _ _ _ _ (s₁.setTop (mkF m 251 #[.val (.ref a), .val (.int i), .val (.int (4 : Int32))] []))
    refine Goes.of (fun t k => XS.iloadN X0.here hx rfl (hb hby d6_251) rfl k) ?_
    show Goes _ _ _ _ _ _ _ (s₁.setTop (mkF m 252 #[.val (.ref a), .val (.int i), .val (.int (4 : Int32))] [(.int (4 : Int32))]))
    exact Goes.fin X0 hlk (v := some (.int (4 : Int32))) (fun h => by rw [Bd.returns] at h; cases h) (fun fs hr => retI X0 hx Bd.returns (hb hby d6_252) hr) ⟨congrArg (fun z => some (Value.int z)) (by rw [f6, if_neg hc11, if_neg hc12, if_neg hc13, if_neg hc14, if_neg hc15, if_neg hc16, if_neg hc17, if_neg hc18, if_neg hc19, if_neg hc20, if_neg hc21, if_neg hc22, if_neg hc23, if_neg hc24, if_neg hc25, if_neg hc26, if_neg hc27, if_neg hc28, if_neg hc29, if_neg hc30, if_neg hc31, if_neg hc32, if_neg hc33, if_neg hc34, if_neg hc35, if_neg hc36, if_neg hc37, if_neg hc38, if_neg hc39, if_neg hc40, if_neg hc41, if_neg hc42, if_neg hc43, if_neg hc44, if_neg hc45, if_neg hc46, if_pos hc47] : (4 : Int32) = f6 (f i.toNatClampNeg) (f (i + (3 : Int32)).toNatClampNeg)), N0, e0⟩ (by decide) (by decide)
  by_cases hc48 : (f i.toNatClampNeg) = (37 : Int32)
  · refine Goes.of (fun t k => XS.tswIn X0.here hx rfl (pc0 := 3) (pc' := 234) (o := 231) rfl (hb hby d6_3) rfl (by rw [hc48]; decide) (by rw [hc48]; decide) (by decide) (by decide) k) ?_
    show Goes _ _ _ _ _ _ _ (s₁.setTop (mkF m 234 #[.val (.ref a), .val (.int i), .unset] []))
    refine Goes.of (fun t k => XS.iconst X0.here hx rfl (hb hby d6_234) k) ?_
    show Goes _ _ _ _ _ _ _ (s₁.setTop (mkF m 235 #[.val (.ref a), .val (.int i), .unset] [(.int (4 : Int32))]))
    refine Goes.of (fun t k => XS.istoreN X0.here hx rfl (hb hby d6_235) rfl (l' := #[.val (.ref a), .val (.int i), .val (.int (4 : Int32))]) rfl k) ?_
    show Goes _ _ _ _ _ _ _ (s₁.setTop (mkF m 236 #[.val (.ref a), .val (.int i), .val (.int (4 : Int32))] []))
    refine Goes.of (fun t k => XS.goto X0.here hx rfl (pc0 := 236) (pc' := 251) rfl (hb hby d6_236) (by decide) (by decide) k) ?_
    show Goes _ _ _ _ _ _ _ (s₁.setTop (mkF m 251 #[.val (.ref a), .val (.int i), .val (.int (4 : Int32))] []))
    refine Goes.of (fun t k => XS.iloadN X0.here hx rfl (hb hby d6_251) rfl k) ?_
    show Goes _ _ _ _ _ _ _ (s₁.setTop (mkF m 252 #[.val (.ref a), .val (.int i), .val (.int (4 : Int32))] [(.int (4 : Int32))]))
    exact Goes.fin X0 hlk (v := some (.int (4 : Int32))) (fun h => by rw [Bd.returns] at h; cases h) (fun fs hr => retI X0 hx Bd.returns (hb hby d6_252) hr) ⟨congrArg (fun z => some (Value.int z)) (by rw [f6, if_neg hc11, if_neg hc12, if_neg hc13, if_neg hc14, if_neg hc15, if_neg hc16, if_neg hc17, if_neg hc18, if_neg hc19, if_neg hc20, if_neg hc21, if_neg hc22, if_neg hc23, if_neg hc24, if_neg hc25, if_neg hc26, if_neg hc27, if_neg hc28, if_neg hc29, if_neg hc30, if_neg hc31, if_neg hc32, if_neg hc33, if_neg hc34, if_neg hc35, if_neg hc36, if_neg hc37, if_neg hc38, if_neg hc39, if_neg hc40, if_neg hc41, if_neg hc42, if_neg hc43, if_neg hc44, if_neg hc45, if_neg hc46, if_neg hc47, if_pos hc48] : (4 : Int32) = f6 (f i.toNatClampNeg) (f (i + (3 : Int32)).toNatClampNeg)), N0, e0⟩ (by decide) (by decide)
  by_cases hc49 : (f i.toNatClampNeg) = (38 : Int32)
  · refine Goes.of (fun t k => XS.tswIn X0.here hx rfl (pc0 := 3) (pc' := 223) (o := 220) rfl (hb hby d6_3) rfl (by rw [hc49]; decide) (by rw [hc49]; decide) (by decide) (by decide) k) ?_
    show Goes _ _ _ _ _ _ _ (s₁.setTop (mkF m 223 #[.val (.ref a), .val (.int i), .unset] []))
    refine Goes.of (fun t k => XS.bipush X0.here hx rfl (hb hby d6_223) k) ?_
    show Goes _ _ _ _ _ _ _ (s₁.setTop (mkF m 225 #[.val (.ref a), .val (.int i), .unset] [(.int (7 : Int32))]))
    refine Goes.of (fun t k => XS.istoreN X0.here hx rfl (hb hby d6_225) rfl (l' := #[.val (.ref a), .val (.int i), .val (.int (7 : Int32))]) rfl k) ?_
    show Goes _ _ _ _ _ _ _ (s₁.setTop (mkF m 226 #[.val (.ref a), .val (.int i), .val (.int (7 : Int32))] []))
    refine Goes.of (fun t k => XS.goto X0.here hx rfl (pc0 := 226) (pc' := 251) rfl (hb hby d6_226) (by decide) (by decide) k) ?_
    show Goes _ _ _ _ _ _ _ (s₁.setTop (mkF m 251 #[.val (.ref a), .val (.int i), .val (.int (7 : Int32))] []))
    refine Goes.of (fun t k => XS.iloadN X0.here hx rfl (hb hby d6_251) rfl k) ?_
    show Goes _ _ _ _ _ _ _ (s₁.setTop (mkF m 252 #[.val (.ref a), .val (.int i), .val (.int (7 : Int32))] [(.int (7 : Int32))]))
    exact Goes.fin X0 hlk (v := some (.int (7 : Int32))) (fun h => by rw [Bd.returns] at h; cases h) (fun fs hr => retI X0 hx Bd.returns (hb hby d6_252) hr) ⟨congrArg (fun z => some (Value.int z)) (by rw [f6, if_neg hc11, if_neg hc12, if_neg hc13, if_neg hc14, if_neg hc15, if_neg hc16, if_neg hc17, if_neg hc18, if_neg hc19, if_neg hc20, if_neg hc21, if_neg hc22, if_neg hc23, if_neg hc24, if_neg hc25, if_neg hc26, if_neg hc27, if_neg hc28, if_neg hc29, if_neg hc30, if_neg hc31, if_neg hc32, if_neg hc33, if_neg hc34, if_neg hc35, if_neg hc36, if_neg hc37, if_neg hc38, if_neg hc39, if_neg hc40, if_neg hc41, if_neg hc42, if_neg hc43, if_neg hc44, if_neg hc45, if_neg hc46, if_neg hc47, if_neg hc48, if_pos hc49] : (7 : Int32) = f6 (f i.toNatClampNeg) (f (i + (3 : Int32)).toNatClampNeg)), N0, e0⟩ (by decide) (by decide)
  by_cases hc50 : (f i.toNatClampNeg) = (39 : Int32)
  · refine Goes.of (fun t k => XS.tswIn X0.here hx rfl (pc0 := 3) (pc' := 229) (o := 226) rfl (hb hby d6_3) rfl (by rw [hc50]; decide) (by rw [hc50]; decide) (by decide) (by decide) k) ?_
    show Goes _ _ _ _ _ _ _ (s₁.setTop (mkF m 229 #[.val (.ref a), .val (.int i), .unset] []))
    refine Goes.of (fun t k => XS.iconst X0.here hx rfl (hb hby d6_229) k) ?_
    show Goes _ _ _ _ _ _ _ (s₁.setTop (mkF m 230 #[.val (.ref a), .val (.int i), .unset] [(.int (5 : Int32))]))
    refine Goes.of (fun t k => XS.istoreN X0.here hx rfl (hb hby d6_230) rfl (l' := #[.val (.ref a), .val (.int i), .val (.int (5 : Int32))]) rfl k) ?_
    show Goes _ _ _ _ _ _ _ (s₁.setTop (mkF m 231 #[.val (.ref a), .val (.int i), .val (.int (5 : Int32))] []))
    refine Goes.of (fun t k => XS.goto X0.here hx rfl (pc0 := 231) (pc' := 251) rfl (hb hby d6_231) (by decide) (by decide) k) ?_
    show Goes _ _ _ _ _ _ _ (s₁.setTop (mkF m 251 #[.val (.ref a), .val (.int i), .val (.int (5 : Int32))] []))
    refine Goes.of (fun t k => XS.iloadN X0.here hx rfl (hb hby d6_251) rfl k) ?_
    show Goes _ _ _ _ _ _ _ (s₁.setTop (mkF m 252 #[.val (.ref a), .val (.int i), .val (.int (5 : Int32))] [(.int (5 : Int32))]))
    exact Goes.fin X0 hlk (v := some (.int (5 : Int32))) (fun h => by rw [Bd.returns] at h; cases h) (fun fs hr => retI X0 hx Bd.returns (hb hby d6_252) hr) ⟨congrArg (fun z => some (Value.int z)) (by rw [f6, if_neg hc11, if_neg hc12, if_neg hc13, if_neg hc14, if_neg hc15, if_neg hc16, if_neg hc17, if_neg hc18, if_neg hc19, if_neg hc20, if_neg hc21, if_neg hc22, if_neg hc23, if_neg hc24, if_neg hc25, if_neg hc26, if_neg hc27, if_neg hc28, if_neg hc29, if_neg hc30, if_neg hc31, if_neg hc32, if_neg hc33, if_neg hc34, if_neg hc35, if_neg hc36, if_neg hc37, if_neg hc38, if_neg hc39, if_neg hc40, if_neg hc41, if_neg hc42, if_neg hc43, if_neg hc44, if_neg hc45, if_neg hc46, if_neg hc47, if_neg hc48, if_neg hc49, if_pos hc50] : (5 : Int32) = f6 (f i.toNatClampNeg) (f (i + (3 : Int32)).toNatClampNeg)), N0, e0⟩ (by decide) (by decide)
  by_cases hc51 : (f i.toNatClampNeg) = (40 : Int32)
  · refine Goes.of (fun t k => XS.tswIn X0.here hx rfl (pc0 := 3) (pc' := 229) (o := 226) rfl (hb hby d6_3) rfl (by rw [hc51]; decide) (by rw [hc51]; decide) (by decide) (by decide) k) ?_
    show Goes _ _ _ _ _ _ _ (s₁.setTop (mkF m 229 #[.val (.ref a), .val (.int i), .unset] []))
    refine Goes.of (fun t k => XS.iconst X0.here hx rfl (hb hby d6_229) k) ?_
    show Goes _ _ _ _ _ _ _ (s₁.setTop (mkF m 230 #[.val (.ref a), .val (.int i), .unset] [(.int (5 : Int32))]))
    refine Goes.of (fun t k => XS.istoreN X0.here hx rfl (hb hby d6_230) rfl (l' := #[.val (.ref a), .val (.int i), .val (.int (5 : Int32))]) rfl k) ?_
    show Goes _ _ _ _ _ _ _ (s₁.setTop (mkF m 231 #[.val (.ref a), .val (.int i), .val (.int (5 : Int32))] []))
    refine Goes.of (fun t k => XS.goto X0.here hx rfl (pc0 := 231) (pc' := 251) rfl (hb hby d6_231) (by decide) (by decide) k) ?_
    show Goes _ _ _ _ _ _ _ (s₁.setTop (mkF m 251 #[.val (.ref a), .val (.int i), .val (.int (5 : Int32))] []))
    refine Goes.of (fun t k => XS.iloadN X0.here hx rfl (hb hby d6_251) rfl k) ?_
    show Goes _ _ _ _ _ _ _ (s₁.setTop (mkF m 252 #[.val (.ref a), .val (.int i), .val (.int (5 : Int32))] [(.int (5 : Int32))]))
    exact Goes.fin X0 hlk (v := some (.int (5 : Int32))) (fun h => by rw [Bd.returns] at h; cases h) (fun fs hr => retI X0 hx Bd.returns (hb hby d6_252) hr) ⟨congrArg (fun z => some (Value.int z)) (by rw [f6, if_neg hc11, if_neg hc12, if_neg hc13, if_neg hc14, if_neg hc15, if_neg hc16, if_neg hc17, if_neg hc18, if_neg hc19, if_neg hc20, if_neg hc21, if_neg hc22, if_neg hc23, if_neg hc24, if_neg hc25, if_neg hc26, if_neg hc27, if_neg hc28, if_neg hc29, if_neg hc30, if_neg hc31, if_neg hc32, if_neg hc33, if_neg hc34, if_neg hc35, if_neg hc36, if_neg hc37, if_neg hc38, if_neg hc39, if_neg hc40, if_neg hc41, if_neg hc42, if_neg hc43, if_neg hc44, if_neg hc45, if_neg hc46, if_neg hc47, if_neg hc48, if_neg hc49, if_neg hc50, if_pos hc51] : (5 : Int32) = f6 (f i.toNatClampNeg) (f (i + (3 : Int32)).toNatClampNeg)), N0, e0⟩ (by decide) (by decide)
  by_cases hc52 : (f i.toNatClampNeg) = (41 : Int32)
  · refine Goes.of (fun t k => XS.tswIn X0.here hx rfl (pc0 := 3) (pc' := 244) (o := 241) rfl (hb hby d6_3) rfl (by rw [hc52]; decide) (by rw [hc52]; decide) (by decide) (by decide) k) ?_
    show Goes _ _ _ _ _ _ _ (s₁.setTop (mkF m 244 #[.val (.ref a), .val (.int i), .unset] []))
    refine Goes.of (fun t k => XS.iconst X0.here hx rfl (hb hby d6_244) k) ?_
    show Goes _ _ _ _ _ _ _ (s₁.setTop (mkF m 245 #[.val (.ref a), .val (.int i), .unset] [(.int (1 : Int32))]))
    refine Goes.of (fun t k => XS.istoreN X0.here hx rfl (hb hby d6_245) rfl (l' := #[.val (.ref a), .val (.int i), .val (.int (1 : Int32))]) rfl k) ?_
    show Goes _ _ _ _ _ _ _ (s₁.setTop (mkF m 246 #[.val (.ref a), .val (.int i), .val (.int (1 : Int32))] []))
    refine Goes.of (fun t k => XS.goto X0.here hx rfl (pc0 := 246) (pc' := 251) rfl (hb hby d6_246) (by decide) (by decide) k) ?_
    show Goes _ _ _ _ _ _ _ (s₁.setTop (mkF m 251 #[.val (.ref a), .val (.int i), .val (.int (1 : Int32))] []))
    refine Goes.of (fun t k => XS.iloadN X0.here hx rfl (hb hby d6_251) rfl k) ?_
    show Goes _ _ _ _ _ _ _ (s₁.setTop (mkF m 252 #[.val (.ref a), .val (.int i), .val (.int (1 : Int32))] [(.int (1 : Int32))]))
    exact Goes.fin X0 hlk (v := some (.int (1 : Int32))) (fun h => by rw [Bd.returns] at h; cases h) (fun fs hr => retI X0 hx Bd.returns (hb hby d6_252) hr) ⟨congrArg (fun z => some (Value.int z)) (by rw [f6, if_neg hc11, if_neg hc12, if_neg hc13, if_neg hc14, if_neg hc15, if_neg hc16, if_neg hc17, if_neg hc18, if_neg hc19, if_neg hc20, if_neg hc21, if_neg hc22, if_neg hc23, if_neg hc24, if_neg hc25, if_neg hc26, if_neg hc27, if_neg hc28, if_neg hc29, if_neg hc30, if_neg hc31, if_neg hc32, if_neg hc33, if_neg hc34, if_neg hc35, if_neg hc36, if_neg hc37, if_neg hc38, if_neg hc39, if_neg hc40, if_neg hc41, if_neg hc42, if_neg hc43, if_neg hc44, if_neg hc45, if_neg hc46, if_neg hc47, if_neg hc48, if_neg hc49, if_neg hc50, if_neg hc51, if_pos hc52] : (1 : Int32) = f6 (f i.toNatClampNeg) (f (i + (3 : Int32)).toNatClampNeg)), N0, e0⟩ (by decide) (by decide)
  by_cases hc53 : (f i.toNatClampNeg) = (42 : Int32)
  · refine Goes.of (fun t k => XS.tswIn X0.here hx rfl (pc0 := 3) (pc' := 239) (o := 236) rfl (hb hby d6_3) rfl (by rw [hc53]; decide) (by rw [hc53]; decide) (by decide) (by decide) k) ?_
    show Goes _ _ _ _ _ _ _ (s₁.setTop (mkF m 239 #[.val (.ref a), .val (.int i), .unset] []))
    refine Goes.of (fun t k => XS.iconst X0.here hx rfl (hb hby d6_239) k) ?_
    show Goes _ _ _ _ _ _ _ (s₁.setTop (mkF m 240 #[.val (.ref a), .val (.int i), .unset] [(.int (3 : Int32))]))
    refine Goes.of (fun t k => XS.istoreN X0.here hx rfl (hb hby d6_240) rfl (l' := #[.val (.ref a), .val (.int i), .val (.int (3 : Int32))]) rfl k) ?_
    show Goes _ _ _ _ _ _ _ (s₁.setTop (mkF m 241 #[.val (.ref a), .val (.int i), .val (.int (3 : Int32))] []))
    refine Goes.of (fun t k => XS.goto X0.here hx rfl (pc0 := 241) (pc' := 251) rfl (hb hby d6_241) (by decide) (by decide) k) ?_
    show Goes _ _ _ _ _ _ _ (s₁.setTop (mkF m 251 #[.val (.ref a), .val (.int i), .val (.int (3 : Int32))] []))
    refine Goes.of (fun t k => XS.iloadN X0.here hx rfl (hb hby d6_251) rfl k) ?_
    show Goes _ _ _ _ _ _ _ (s₁.setTop (mkF m 252 #[.val (.ref a), .val (.int i), .val (.int (3 : Int32))] [(.int (3 : Int32))]))
    exact Goes.fin X0 hlk (v := some (.int (3 : Int32))) (fun h => by rw [Bd.returns] at h; cases h) (fun fs hr => retI X0 hx Bd.returns (hb hby d6_252) hr) ⟨congrArg (fun z => some (Value.int z)) (by rw [f6, if_neg hc11, if_neg hc12, if_neg hc13, if_neg hc14, if_neg hc15, if_neg hc16, if_neg hc17, if_neg hc18, if_neg hc19, if_neg hc20, if_neg hc21, if_neg hc22, if_neg hc23, if_neg hc24, if_neg hc25, if_neg hc26, if_neg hc27, if_neg hc28, if_neg hc29, if_neg hc30, if_neg hc31, if_neg hc32, if_neg hc33, if_neg hc34, if_neg hc35, if_neg hc36, if_neg hc37, if_neg hc38, if_neg hc39, if_neg hc40, if_neg hc41, if_neg hc42, if_neg hc43, if_neg hc44, if_neg hc45, if_neg hc46, if_neg hc47, if_neg hc48, if_neg hc49, if_neg hc50, if_neg hc51, if_neg hc52, if_pos hc53] : (3 : Int32) = f6 (f i.toNatClampNeg) (f (i + (3 : Int32)).toNatClampNeg)), N0, e0⟩ (by decide) (by decide)
  by_cases hc54 : (f i.toNatClampNeg) = (43 : Int32)
  · refine Goes.of (fun t k => XS.tswIn X0.here hx rfl (pc0 := 3) (pc' := 249) (o := 246) rfl (hb hby d6_3) rfl (by rw [hc54]; decide) (by rw [hc54]; decide) (by decide) (by decide) k) ?_
    show Goes _ _ _ _ _ _ _ (s₁.setTop (mkF m 249 #[.val (.ref a), .val (.int i), .unset] []))
    refine Goes.of (fun t k => XS.iconst X0.here hx rfl (hb hby d6_249) k) ?_
    show Goes _ _ _ _ _ _ _ (s₁.setTop (mkF m 250 #[.val (.ref a), .val (.int i), .unset] [(.int (2 : Int32))]))
    refine Goes.of (fun t k => XS.istoreN X0.here hx rfl (hb hby d6_250) rfl (l' := #[.val (.ref a), .val (.int i), .val (.int (2 : Int32))]) rfl k) ?_
    show Goes _ _ _ _ _ _ _ (s₁.setTop (mkF m 251 #[.val (.ref a), .val (.int i), .val (.int (2 : Int32))] []))
    refine Goes.of (fun t k => XS.iloadN X0.here hx rfl (hb hby d6_251) rfl k) ?_
    show Goes _ _ _ _ _ _ _ (s₁.setTop (mkF m 252 #[.val (.ref a), .val (.int i), .val (.int (2 : Int32))] [(.int (2 : Int32))]))
    exact Goes.fin X0 hlk (v := some (.int (2 : Int32))) (fun h => by rw [Bd.returns] at h; cases h) (fun fs hr => retI X0 hx Bd.returns (hb hby d6_252) hr) ⟨congrArg (fun z => some (Value.int z)) (by rw [f6, if_neg hc11, if_neg hc12, if_neg hc13, if_neg hc14, if_neg hc15, if_neg hc16, if_neg hc17, if_neg hc18, if_neg hc19, if_neg hc20, if_neg hc21, if_neg hc22, if_neg hc23, if_neg hc24, if_neg hc25, if_neg hc26, if_neg hc27, if_neg hc28, if_neg hc29, if_neg hc30, if_neg hc31, if_neg hc32, if_neg hc33, if_neg hc34, if_neg hc35, if_neg hc36, if_neg hc37, if_neg hc38, if_neg hc39, if_neg hc40, if_neg hc41, if_neg hc42, if_neg hc43, if_neg hc44, if_neg hc45, if_neg hc46, if_neg hc47, if_neg hc48, if_neg hc49, if_neg hc50, if_neg hc51, if_neg hc52, if_neg hc53, if_pos hc54] : (2 : Int32) = f6 (f i.toNatClampNeg) (f (i + (3 : Int32)).toNatClampNeg)), N0, e0⟩ (by decide) (by decide)
  by_cases hc55 : (f i.toNatClampNeg) = (44 : Int32)
  · refine Goes.of (fun t k => XS.tswIn X0.here hx rfl (pc0 := 3) (pc' := 249) (o := 246) rfl (hb hby d6_3) rfl (by rw [hc55]; decide) (by rw [hc55]; decide) (by decide) (by decide) k) ?_
    show Goes _ _ _ _ _ _ _ (s₁.setTop (mkF m 249 #[.val (.ref a), .val (.int i), .unset] []))
    refine Goes.of (fun t k => XS.iconst X0.here hx rfl (hb hby d6_249) k) ?_
    show Goes _ _ _ _ _ _ _ (s₁.setTop (mkF m 250 #[.val (.ref a), .val (.int i), .unset] [(.int (2 : Int32))]))
    refine Goes.of (fun t k => XS.istoreN X0.here hx rfl (hb hby d6_250) rfl (l' := #[.val (.ref a), .val (.int i), .val (.int (2 : Int32))]) rfl k) ?_
    show Goes _ _ _ _ _ _ _ (s₁.setTop (mkF m 251 #[.val (.ref a), .val (.int i), .val (.int (2 : Int32))] []))
    refine Goes.of (fun t k => XS.iloadN X0.here hx rfl (hb hby d6_251) rfl k) ?_
    show Goes _ _ _ _ _ _ _ (s₁.setTop (mkF m 252 #[.val (.ref a), .val (.int i), .val (.int (2 : Int32))] [(.int (2 : Int32))]))
    exact Goes.fin X0 hlk (v := some (.int (2 : Int32))) (fun h => by rw [Bd.returns] at h; cases h) (fun fs hr => retI X0 hx Bd.returns (hb hby d6_252) hr) ⟨congrArg (fun z => some (Value.int z)) (by rw [f6, if_neg hc11, if_neg hc12, if_neg hc13, if_neg hc14, if_neg hc15, if_neg hc16, if_neg hc17, if_neg hc18, if_neg hc19, if_neg hc20, if_neg hc21, if_neg hc22, if_neg hc23, if_neg hc24, if_neg hc25, if_neg hc26, if_neg hc27, if_neg hc28, if_neg hc29, if_neg hc30, if_neg hc31, if_neg hc32, if_neg hc33, if_neg hc34, if_neg hc35, if_neg hc36, if_neg hc37, if_neg hc38, if_neg hc39, if_neg hc40, if_neg hc41, if_neg hc42, if_neg hc43, if_neg hc44, if_neg hc45, if_neg hc46, if_neg hc47, if_neg hc48, if_neg hc49, if_neg hc50, if_neg hc51, if_neg hc52, if_neg hc53, if_neg hc54, if_pos hc55] : (2 : Int32) = f6 (f i.toNatClampNeg) (f (i + (3 : Int32)).toNatClampNeg)), N0, e0⟩ (by decide) (by decide)
  by_cases hc56 : (f i.toNatClampNeg) = (45 : Int32)
  · refine Goes.of (fun t k => XS.tswIn X0.here hx rfl (pc0 := 3) (pc' := 249) (o := 246) rfl (hb hby d6_3) rfl (by rw [hc56]; decide) (by rw [hc56]; decide) (by decide) (by decide) k) ?_
    show Goes _ _ _ _ _ _ _ (s₁.setTop (mkF m 249 #[.val (.ref a), .val (.int i), .unset] []))
    refine Goes.of (fun t k => XS.iconst X0.here hx rfl (hb hby d6_249) k) ?_
    show Goes _ _ _ _ _ _ _ (s₁.setTop (mkF m 250 #[.val (.ref a), .val (.int i), .unset] [(.int (2 : Int32))]))
    refine Goes.of (fun t k => XS.istoreN X0.here hx rfl (hb hby d6_250) rfl (l' := #[.val (.ref a), .val (.int i), .val (.int (2 : Int32))]) rfl k) ?_
    show Goes _ _ _ _ _ _ _ (s₁.setTop (mkF m 251 #[.val (.ref a), .val (.int i), .val (.int (2 : Int32))] []))
    refine Goes.of (fun t k => XS.iloadN X0.here hx rfl (hb hby d6_251) rfl k) ?_
    show Goes _ _ _ _ _ _ _ (s₁.setTop (mkF m 252 #[.val (.ref a), .val (.int i), .val (.int (2 : Int32))] [(.int (2 : Int32))]))
    exact Goes.fin X0 hlk (v := some (.int (2 : Int32))) (fun h => by rw [Bd.returns] at h; cases h) (fun fs hr => retI X0 hx Bd.returns (hb hby d6_252) hr) ⟨congrArg (fun z => some (Value.int z)) (by rw [f6, if_neg hc11, if_neg hc12, if_neg hc13, if_neg hc14, if_neg hc15, if_neg hc16, if_neg hc17, if_neg hc18, if_neg hc19, if_neg hc20, if_neg hc21, if_neg hc22, if_neg hc23, if_neg hc24, if_neg hc25, if_neg hc26, if_neg hc27, if_neg hc28, if_neg hc29, if_neg hc30, if_neg hc31, if_neg hc32, if_neg hc33, if_neg hc34, if_neg hc35, if_neg hc36, if_neg hc37, if_neg hc38, if_neg hc39, if_neg hc40, if_neg hc41, if_neg hc42, if_neg hc43, if_neg hc44, if_neg hc45, if_neg hc46, if_neg hc47, if_neg hc48, if_neg hc49, if_neg hc50, if_neg hc51, if_neg hc52, if_neg hc53, if_neg hc54, if_neg hc55, if_pos hc56] : (2 : Int32) = f6 (f i.toNatClampNeg) (f (i + (3 : Int32)).toNatClampNeg)), N0, e0⟩ (by decide) (by decide)
  by_cases hc57 : (f i.toNatClampNeg) = (46 : Int32)
  · refine Goes.of (fun t k => XS.tswIn X0.here hx rfl (pc0 := 3) (pc' := 239) (o := 236) rfl (hb hby d6_3) rfl (by rw [hc57]; decide) (by rw [hc57]; decide) (by decide) (by decide) k) ?_
    show Goes _ _ _ _ _ _ _ (s₁.setTop (mkF m 239 #[.val (.ref a), .val (.int i), .unset] []))
    refine Goes.of (fun t k => XS.iconst X0.here hx rfl (hb hby d6_239) k) ?_
    show Goes _ _ _ _ _ _ _ (s₁.setTop (mkF m 240 #[.val (.ref a), .val (.int i), .unset] [(.int (3 : Int32))]))
    refine Goes.of (fun t k => XS.istoreN X0.here hx rfl (hb hby d6_240) rfl (l' := #[.val (.ref a), .val (.int i), .val (.int (3 : Int32))]) rfl k) ?_
    show Goes _ _ _ _ _ _ _ (s₁.setTop (mkF m 241 #[.val (.ref a), .val (.int i), .val (.int (3 : Int32))] []))
    refine Goes.of (fun t k => XS.goto X0.here hx rfl (pc0 := 241) (pc' := 251) rfl (hb hby d6_241) (by decide) (by decide) k) ?_
    show Goes _ _ _ _ _ _ _ (s₁.setTop (mkF m 251 #[.val (.ref a), .val (.int i), .val (.int (3 : Int32))] []))
    refine Goes.of (fun t k => XS.iloadN X0.here hx rfl (hb hby d6_251) rfl k) ?_
    show Goes _ _ _ _ _ _ _ (s₁.setTop (mkF m 252 #[.val (.ref a), .val (.int i), .val (.int (3 : Int32))] [(.int (3 : Int32))]))
    exact Goes.fin X0 hlk (v := some (.int (3 : Int32))) (fun h => by rw [Bd.returns] at h; cases h) (fun fs hr => retI X0 hx Bd.returns (hb hby d6_252) hr) ⟨congrArg (fun z => some (Value.int z)) (by rw [f6, if_neg hc11, if_neg hc12, if_neg hc13, if_neg hc14, if_neg hc15, if_neg hc16, if_neg hc17, if_neg hc18, if_neg hc19, if_neg hc20, if_neg hc21, if_neg hc22, if_neg hc23, if_neg hc24, if_neg hc25, if_neg hc26, if_neg hc27, if_neg hc28, if_neg hc29, if_neg hc30, if_neg hc31, if_neg hc32, if_neg hc33, if_neg hc34, if_neg hc35, if_neg hc36, if_neg hc37, if_neg hc38, if_neg hc39, if_neg hc40, if_neg hc41, if_neg hc42, if_neg hc43, if_neg hc44, if_neg hc45, if_neg hc46, if_neg hc47, if_neg hc48, if_neg hc49, if_neg hc50, if_neg hc51, if_neg hc52, if_neg hc53, if_neg hc54, if_neg hc55, if_neg hc56, if_pos hc57] : (3 : Int32) = f6 (f i.toNatClampNeg) (f (i + (3 : Int32)).toNatClampNeg)), N0, e0⟩ (by decide) (by decide)
  have hout3 : ((f i.toNatClampNeg)).toInt < 0 ∨ ((f i.toNatClampNeg)).toInt > 46 := by
    have := (not_congr (Int32.toInt_inj (x := (f i.toNatClampNeg)) (y := (0 : Int32)))).mpr hc11; rw [show ((0 : Int32)).toInt = 0 from rfl] at this
    have := (not_congr (Int32.toInt_inj (x := (f i.toNatClampNeg)) (y := (1 : Int32)))).mpr hc12; rw [show ((1 : Int32)).toInt = 1 from rfl] at this
    have := (not_congr (Int32.toInt_inj (x := (f i.toNatClampNeg)) (y := (2 : Int32)))).mpr hc13; rw [show ((2 : Int32)).toInt = 2 from rfl] at this
    have := (not_congr (Int32.toInt_inj (x := (f i.toNatClampNeg)) (y := (3 : Int32)))).mpr hc14; rw [show ((3 : Int32)).toInt = 3 from rfl] at this
    have := (not_congr (Int32.toInt_inj (x := (f i.toNatClampNeg)) (y := (4 : Int32)))).mpr hc15; rw [show ((4 : Int32)).toInt = 4 from rfl] at this
    have := (not_congr (Int32.toInt_inj (x := (f i.toNatClampNeg)) (y := (5 : Int32)))).mpr hc16; rw [show ((5 : Int32)).toInt = 5 from rfl] at this
    have := (not_congr (Int32.toInt_inj (x := (f i.toNatClampNeg)) (y := (6 : Int32)))).mpr hc17; rw [show ((6 : Int32)).toInt = 6 from rfl] at this
    have := (not_congr (Int32.toInt_inj (x := (f i.toNatClampNeg)) (y := (7 : Int32)))).mpr hc18; rw [show ((7 : Int32)).toInt = 7 from rfl] at this
    have := (not_congr (Int32.toInt_inj (x := (f i.toNatClampNeg)) (y := (8 : Int32)))).mpr hc19; rw [show ((8 : Int32)).toInt = 8 from rfl] at this
    have := (not_congr (Int32.toInt_inj (x := (f i.toNatClampNeg)) (y := (9 : Int32)))).mpr hc20; rw [show ((9 : Int32)).toInt = 9 from rfl] at this
    have := (not_congr (Int32.toInt_inj (x := (f i.toNatClampNeg)) (y := (10 : Int32)))).mpr hc21; rw [show ((10 : Int32)).toInt = 10 from rfl] at this
    have := (not_congr (Int32.toInt_inj (x := (f i.toNatClampNeg)) (y := (11 : Int32)))).mpr hc22; rw [show ((11 : Int32)).toInt = 11 from rfl] at this
    have := (not_congr (Int32.toInt_inj (x := (f i.toNatClampNeg)) (y := (12 : Int32)))).mpr hc23; rw [show ((12 : Int32)).toInt = 12 from rfl] at this
    have := (not_congr (Int32.toInt_inj (x := (f i.toNatClampNeg)) (y := (13 : Int32)))).mpr hc24; rw [show ((13 : Int32)).toInt = 13 from rfl] at this
    have := (not_congr (Int32.toInt_inj (x := (f i.toNatClampNeg)) (y := (14 : Int32)))).mpr hc25; rw [show ((14 : Int32)).toInt = 14 from rfl] at this
    have := (not_congr (Int32.toInt_inj (x := (f i.toNatClampNeg)) (y := (15 : Int32)))).mpr hc26; rw [show ((15 : Int32)).toInt = 15 from rfl] at this
    have := (not_congr (Int32.toInt_inj (x := (f i.toNatClampNeg)) (y := (16 : Int32)))).mpr hc27; rw [show ((16 : Int32)).toInt = 16 from rfl] at this
    have := (not_congr (Int32.toInt_inj (x := (f i.toNatClampNeg)) (y := (17 : Int32)))).mpr hc28; rw [show ((17 : Int32)).toInt = 17 from rfl] at this
    have := (not_congr (Int32.toInt_inj (x := (f i.toNatClampNeg)) (y := (18 : Int32)))).mpr hc29; rw [show ((18 : Int32)).toInt = 18 from rfl] at this
    have := (not_congr (Int32.toInt_inj (x := (f i.toNatClampNeg)) (y := (19 : Int32)))).mpr hc30; rw [show ((19 : Int32)).toInt = 19 from rfl] at this
    have := (not_congr (Int32.toInt_inj (x := (f i.toNatClampNeg)) (y := (20 : Int32)))).mpr hc31; rw [show ((20 : Int32)).toInt = 20 from rfl] at this
    have := (not_congr (Int32.toInt_inj (x := (f i.toNatClampNeg)) (y := (21 : Int32)))).mpr hc32; rw [show ((21 : Int32)).toInt = 21 from rfl] at this
    have := (not_congr (Int32.toInt_inj (x := (f i.toNatClampNeg)) (y := (22 : Int32)))).mpr hc33; rw [show ((22 : Int32)).toInt = 22 from rfl] at this
    have := (not_congr (Int32.toInt_inj (x := (f i.toNatClampNeg)) (y := (23 : Int32)))).mpr hc34; rw [show ((23 : Int32)).toInt = 23 from rfl] at this
    have := (not_congr (Int32.toInt_inj (x := (f i.toNatClampNeg)) (y := (24 : Int32)))).mpr hc35; rw [show ((24 : Int32)).toInt = 24 from rfl] at this
    have := (not_congr (Int32.toInt_inj (x := (f i.toNatClampNeg)) (y := (25 : Int32)))).mpr hc36; rw [show ((25 : Int32)).toInt = 25 from rfl] at this
    have := (not_congr (Int32.toInt_inj (x := (f i.toNatClampNeg)) (y := (26 : Int32)))).mpr hc37; rw [show ((26 : Int32)).toInt = 26 from rfl] at this
    have := (not_congr (Int32.toInt_inj (x := (f i.toNatClampNeg)) (y := (27 : Int32)))).mpr hc38; rw [show ((27 : Int32)).toInt = 27 from rfl] at this
    have := (not_congr (Int32.toInt_inj (x := (f i.toNatClampNeg)) (y := (28 : Int32)))).mpr hc39; rw [show ((28 : Int32)).toInt = 28 from rfl] at this
    have := (not_congr (Int32.toInt_inj (x := (f i.toNatClampNeg)) (y := (29 : Int32)))).mpr hc40; rw [show ((29 : Int32)).toInt = 29 from rfl] at this
    have := (not_congr (Int32.toInt_inj (x := (f i.toNatClampNeg)) (y := (30 : Int32)))).mpr hc41; rw [show ((30 : Int32)).toInt = 30 from rfl] at this
    have := (not_congr (Int32.toInt_inj (x := (f i.toNatClampNeg)) (y := (31 : Int32)))).mpr hc42; rw [show ((31 : Int32)).toInt = 31 from rfl] at this
    have := (not_congr (Int32.toInt_inj (x := (f i.toNatClampNeg)) (y := (32 : Int32)))).mpr hc43; rw [show ((32 : Int32)).toInt = 32 from rfl] at this
    have := (not_congr (Int32.toInt_inj (x := (f i.toNatClampNeg)) (y := (33 : Int32)))).mpr hc44; rw [show ((33 : Int32)).toInt = 33 from rfl] at this
    have := (not_congr (Int32.toInt_inj (x := (f i.toNatClampNeg)) (y := (34 : Int32)))).mpr hc45; rw [show ((34 : Int32)).toInt = 34 from rfl] at this
    have := (not_congr (Int32.toInt_inj (x := (f i.toNatClampNeg)) (y := (35 : Int32)))).mpr hc46; rw [show ((35 : Int32)).toInt = 35 from rfl] at this
    have := (not_congr (Int32.toInt_inj (x := (f i.toNatClampNeg)) (y := (36 : Int32)))).mpr hc47; rw [show ((36 : Int32)).toInt = 36 from rfl] at this
    have := (not_congr (Int32.toInt_inj (x := (f i.toNatClampNeg)) (y := (37 : Int32)))).mpr hc48; rw [show ((37 : Int32)).toInt = 37 from rfl] at this
    have := (not_congr (Int32.toInt_inj (x := (f i.toNatClampNeg)) (y := (38 : Int32)))).mpr hc49; rw [show ((38 : Int32)).toInt = 38 from rfl] at this
    have := (not_congr (Int32.toInt_inj (x := (f i.toNatClampNeg)) (y := (39 : Int32)))).mpr hc50; rw [show ((39 : Int32)).toInt = 39 from rfl] at this
    have := (not_congr (Int32.toInt_inj (x := (f i.toNatClampNeg)) (y := (40 : Int32)))).mpr hc51; rw [show ((40 : Int32)).toInt = 40 from rfl] at this
    have := (not_congr (Int32.toInt_inj (x := (f i.toNatClampNeg)) (y := (41 : Int32)))).mpr hc52; rw [show ((41 : Int32)).toInt = 41 from rfl] at this
    have := (not_congr (Int32.toInt_inj (x := (f i.toNatClampNeg)) (y := (42 : Int32)))).mpr hc53; rw [show ((42 : Int32)).toInt = 42 from rfl] at this
    have := (not_congr (Int32.toInt_inj (x := (f i.toNatClampNeg)) (y := (43 : Int32)))).mpr hc54; rw [show ((43 : Int32)).toInt = 43 from rfl] at this
    have := (not_congr (Int32.toInt_inj (x := (f i.toNatClampNeg)) (y := (44 : Int32)))).mpr hc55; rw [show ((44 : Int32)).toInt = 44 from rfl] at this
    have := (not_congr (Int32.toInt_inj (x := (f i.toNatClampNeg)) (y := (45 : Int32)))).mpr hc56; rw [show ((45 : Int32)).toInt = 45 from rfl] at this
    have := (not_congr (Int32.toInt_inj (x := (f i.toNatClampNeg)) (y := (46 : Int32)))).mpr hc57; rw [show ((46 : Int32)).toInt = 46 from rfl] at this
    omega
  refine Goes.of (fun t k => XS.tswOut X0.here hx rfl (pc0 := 3) (pc' := 249) rfl (hb hby d6_3) rfl hout3 (by decide) (by decide) k) ?_
  show Goes _ _ _ _ _ _ _ (s₁.setTop (mkF m 249 #[.val (.ref a), .val (.int i), .unset] []))
  refine Goes.of (fun t k => XS.iconst X0.here hx rfl (hb hby d6_249) k) ?_
  show Goes _ _ _ _ _ _ _ (s₁.setTop (mkF m 250 #[.val (.ref a), .val (.int i), .unset] [(.int (2 : Int32))]))
  refine Goes.of (fun t k => XS.istoreN X0.here hx rfl (hb hby d6_250) rfl (l' := #[.val (.ref a), .val (.int i), .val (.int (2 : Int32))]) rfl k) ?_
  show Goes _ _ _ _ _ _ _ (s₁.setTop (mkF m 251 #[.val (.ref a), .val (.int i), .val (.int (2 : Int32))] []))
  refine Goes.of (fun t k => XS.iloadN X0.here hx rfl (hb hby d6_251) rfl k) ?_
  show Goes _ _ _ _ _ _ _ (s₁.setTop (mkF m 252 #[.val (.ref a), .val (.int i), .val (.int (2 : Int32))] [(.int (2 : Int32))]))
  exact Goes.fin X0 hlk (v := some (.int (2 : Int32))) (fun h => by rw [Bd.returns] at h; cases h) (fun fs hr => retI X0 hx Bd.returns (hb hby d6_252) hr) ⟨congrArg (fun z => some (Value.int z)) (by rw [f6, if_neg hc11, if_neg hc12, if_neg hc13, if_neg hc14, if_neg hc15, if_neg hc16, if_neg hc17, if_neg hc18, if_neg hc19, if_neg hc20, if_neg hc21, if_neg hc22, if_neg hc23, if_neg hc24, if_neg hc25, if_neg hc26, if_neg hc27, if_neg hc28, if_neg hc29, if_neg hc30, if_neg hc31, if_neg hc32, if_neg hc33, if_neg hc34, if_neg hc35, if_neg hc36, if_neg hc37, if_neg hc38, if_neg hc39, if_neg hc40, if_neg hc41, if_neg hc42, if_neg hc43, if_neg hc44, if_neg hc45, if_neg hc46, if_neg hc47, if_neg hc48, if_neg hc49, if_neg hc50, if_neg hc51, if_neg hc52, if_neg hc53, if_neg hc54, if_neg hc55, if_neg hc56, if_neg hc57] : (2 : Int32) = f6 (f i.toNatClampNeg) (f (i + (3 : Int32)).toNatClampNeg)), N0, e0⟩ (by decide) (by decide)
/-- the constant's text, read off the sheet's word -/
def own_text : String := match tables_1[2]? with
  | some (Jvm.Cond.stringLink _ _ t) => t
  | _ => ""
def own_vs : List Value := own_text.toList.map (fun c => Value.int (Jvm.Lit.byteI c.toNat.toUInt16))
def own_bs : List Int32 := own_text.toList.map (fun c => Jvm.Lit.byteI c.toNat.toUInt16)
def own_bf (j : Nat) : Int32 := own_bs.getD j 0
theorem own_len47 : own_bs.length = 47 := by decide +kernel
theorem own_lat : ∀ c ∈ own_text.toList, c.toNat < 256 := by decide +kernel
theorem own_vsbs : own_vs = own_bs.map Value.int := by simp [own_vs, own_bs, List.map_map, Function.comp_def]
theorem own_AI {Z : State} {h : Heap} {b : Addr} {k : ClassId} (F : Arv Z h b k .byte 47 own_vs (.int 0)) : AI Z h b .byte 47 own_bf := by
  obtain ⟨c, A, -, S, -, H, G⟩ := F
  have S' : c.slots.size = 47 := S
  have g : ∀ j, j < 47 → own_vs.getD j (.int 0) = .int (own_bf j) := fun j hj => by
    have h1 : j < own_bs.length := by rw [own_len47]; exact hj
    rw [own_vsbs, own_bf, List.getD_eq_getElem?_getD, List.getD_eq_getElem?_getD, List.getElem?_map, List.getElem?_eq_getElem h1]
    rfl
  refine ⟨c, A, S', by decide, fun j hj => ?_⟩
  have h1 := H j (by omega)
  have h2 := G j (by omega)
  rw [g j hj] at h1 h2
  exact ⟨h1, h2⟩
theorem own_wS {Z : State} {a0 : Array Value} (hw : ∀ d ∈ tables_1, d.before a0 Z = true) : ∀ c ∈ Bundle.stringAtoms, c.before a0 Z = true := fun c hc =>
  hw c (by simpa using (List.all_eq_true.mp (by decide +kernel : (Bundle.stringAtoms.all fun c => tables_1.contains c) = true)) c hc)
theorem own_cd (u : Int32) : 0 ≤ ((u &&& (2147483647 : Int32)) % (47 : Int32)).toInt ∧ ((u &&& (2147483647 : Int32)) % (47 : Int32)).toInt < 47 := by
  have m := c_and u 2147483647 (by decide)
  have k := (c_irem (u &&& 2147483647) 47 47 rfl).1 m.1
  omega
def own_ok (k : Nat) : Bool := if own_bf k &&& 255 = 83 then (f6 (Int32.ofNat k) 0 == 4 && f6 (Int32.ofNat k) 1 == 6 && (k == 5 || k == 19)) else (f6 (Int32.ofNat k) 0 == (own_bf k &&& 255) - 48 && !(k == 5 || k == 19))
theorem own_all : ∀ k : Fin 47, own_ok k.1 = true := by decide +kernel
theorem own_case {x : Int32} (h0 : 0 ≤ x.toInt) : x = Int32.ofNat x.toNatClampNeg := by
  have := (back32 (own_nn h0)).1
  exact this.symm
theorem own_S {x y : Int32} (h : x = 5 ∨ x = 19) : f6 x y = (4 : Int32) + (2 : Int32) * y := by
  rcases h with rfl | rfl <;> simp +decide only [f6, if_true, if_false]
theorem own_N {x y : Int32} (h5 : ¬ x = 5) (h19 : ¬ x = 19) : f6 x y = f6 x 0 := by
  unfold f6
  rw [if_neg h5, if_neg h5, if_neg h19, if_neg h19]
theorem own_n5 {x : Int32} (h0 : 0 ≤ x.toInt) {k : Nat} {c : Int32} (hc : c.toInt = k) : x = c ↔ x.toNatClampNeg = k := by
  have hx := nat_of (own_nn h0)
  rw [← Int32.toInt_inj]
  omega
theorem own_res {x y : Int32} (h0 : 0 ≤ x.toInt ∧ x.toInt < 47) : ((own_bf x.toNatClampNeg &&& (255 : Int32)) = 83 → f6 x y = (4 : Int32) + (2 : Int32) * y) ∧ (¬ (own_bf x.toNatClampNeg &&& (255 : Int32)) = 83 → f6 x y = (own_bf x.toNatClampNeg &&& (255 : Int32)) - (48 : Int32)) := by
  have hx := nat_of (own_nn h0.1)
  have hl : x.toNatClampNeg < 47 := by omega
  have a := own_all ⟨x.toNatClampNeg, hl⟩
  have e5 := own_n5 h0.1 (k := 5) (c := 5) rfl
  have e19 := own_n5 h0.1 (k := 19) (c := 19) rfl
  have ex : Int32.ofNat x.toNatClampNeg = x := (own_case h0.1).symm
  unfold own_ok at a
  dsimp only at a
  rw [ex] at a
  constructor
  · intro q
    rw [if_pos q] at a
    simp only [Bool.and_eq_true, Bool.or_eq_true, beq_iff_eq] at a
    exact own_S (a.2.imp e5.mpr e19.mpr)
  · intro q
    rw [if_neg q] at a
    simp only [Bool.and_eq_true, Bool.not_eq_true', Bool.or_eq_false_iff, beq_iff_eq, beq_eq_false_iff_ne] at a
    rw [own_N (fun z => a.2.1 (e5.mp z)) (fun z => a.2.2 (e19.mp z))]
    exact a.1
theorem own_long {y : Int32} (h : 0 ≤ y.toInt ∧ y.toInt ≤ 65535) : ((4 : Int32) + (2 : Int32) * y).toInt64 = (4 : Int64) + (2 : Int64) * y.toInt64 := by
  apply Int64.toInt_inj.mp
  have a := c_imul 2 y
  have b := c_iadd 4 (2 * y)
  have c := c_lmul 2 y.toInt64
  have d := c_ladd 4 (2 * y.toInt64)
  have r1 := rng32 (2 * y)
  have r2 := rng32 (4 + 2 * y)
  have r3 := rng64 (2 * y.toInt64)
  have r4 := rng64 (4 + 2 * y.toInt64)
  rw [c_i2l] at c ⊢
  rw [show (2 : Int32).toInt = 2 from rfl] at a
  rw [show (4 : Int32).toInt = 4 from rfl] at b
  rw [show (2 : Int64).toInt = 2 from rfl] at c
  rw [show (4 : Int64).toInt = 4 from rfl] at d
  omega
theorem own_upd_eq {f : Nat → Int32} {i : Nat} {v : Int32} : upd f i v i = v := if_pos rfl
theorem own_upd_ne {f : Nat → Int32} {i j : Nat} {v : Int32} (h : j ≠ i) : upd f i v j = f j := if_neg h
theorem own_at3 (u : Int32) : 0 ≤ (u &&& (3 : Int32)).toInt ∧ (u &&& (3 : Int32)).toInt ≤ 3 := c_and u 3 (by decide)
theorem own_ar (u : Int32) : 0 ≤ (u &&& (65535 : Int32)).toInt ∧ (u &&& (65535 : Int32)).toInt ≤ 65535 := c_and u 65535 (by decide)
theorem pn_4 : plainName "com/example/dutiful_logic/dutifullogic/OpLengthPinLaw" = true := by first | (simp [plainName, overriddenIn]; done) | decide +kernel
theorem pd_4 : parseMethodDescriptor "(I)C" = some ⟨[.int], some .char⟩ := by decide +kernel
theorem pd_5 : parseMethodDescriptor "([II)I" = some ⟨[(.array .int), .int], some .int⟩ := by decide +kernel
theorem ef_0 (m : MethodId) (u0 : Int32) (u1 : Int32) (u2 : Int32) (u3 : Int32) (u4 : Int32) : entryFrame m #[(.int u0), (.int u1), (.int u2), (.int u3), (.int u4)] maxLocals = mkF m 0 #[.val (.int u0), .val (.int u1), .val (.int u2), .val (.int u3), .val (.int u4), .unset, .unset, .unset, .unset, .unset, .unset, .unset, .unset, .unset, .unset] [] := by first | (simp [entryFrame, mkF, argsToLocals, Value.category, maxLocals]; done) | rfl
def Q0 (n0 : Nat) (v : Option Value) (h : Heap) (L : List Loc) : Prop := v = some (.int 1) ∧ Fr n0 L
set_option maxRecDepth 65536 in
set_option maxHeartbeats 40000000 in
theorem rm0 (l : Launch) (Z : State) (a0 : Array Value) (hw : ∀ d ∈ tables_1, d.before a0 Z = true) (ws : List Jvm.Cond) (u0 : Int32) (u1 : Int32) (u2 : Int32) (u3 : Int32) (u4 : Int32) (cs : Int32) (fm : Value) (h0 : Heap) (n0 : Nat) (Z0 : n0 ≤ h0.size) (hh0 : h0 = Z.heap) (S_cs : Sta Z h0 "java/lang/String" "COMPACT_STRINGS" "Z" (.int cs)) (hcs : ¬ cs = (0 : Int32)) (hfm : fm.isRef = true) (S_fm : Sta Z h0 "jdk/internal/util/Preconditions" "SIOOBE_FORMATTER" "Ljava/util/function/BiFunction;" fm) (hheld : Jvm.Lit.constHeld Z "com/example/dutiful_logic/dutifullogic/OpLengthPinLaw" 11) (hcw : Jvm.Lit.compactW.before a0 Z = true) :
    MetFree l x (head1 (Jvm.Cond.code x code maxLocals ret :: ws) room_1) (fun ar' Ur => ar' = #[(.int u0), (.int u1), (.int u2), (.int u3), (.int u4)] ∧ Ur = Z) (fun _ _ _ _ _ => True) (fun _ Ur or' Us => ∃ v L, or' = .returned v ∧ Q0 n0 v Us.heap L ∧ ReturnedEndW Ur or' Us L room_1.cells room_1.slots) := by
  refine MetFree.of_bodySF (plainFor_of_name pn_4) hisR ?_
  intro p e s m args below meth c s₁ Bd hml0 hP hK
  obtain ⟨rfl, hUZ⟩ := hP
  have hZ : Z.Warmed39 s.vm := by rw [hUZ]; exact State.Warmed39.refl Z
  have hh : s.heap = h0 := by rw [hUZ]; exact hh0.symm
  have hx := Bd.exec
  have hby := Bd.bytes
  have hlk : meth.locks = false := BodyLoose.notSynchronized Bd
  have hml : c.maxLocals = 15 := hml0
  have hown : s.vm.findClass "com/example/dutiful_logic/dutifullogic/OpLengthPinLaw" = some m.cls := findClass_of_methodNamed Bd.named
  have hnm := (name_of_methodNamed Bd.named Bd.method).1
  have X0 : Stand p l e room_1 s m #[(.int u0), (.int u1), (.int u2), (.int u3), (.int u4)] below meth c s₁ [] 0 0 := Stand.of_body Bd
  have e0 : s₁.heap = h0 := by rw [← hh, Bd.state]; rfl
  have N0 := Fr.nil n0
  show GoesW p.tables e below s (Q0 n0) room_1.cells room_1.slots (s₁.setTop (entryFrame m #[(.int u0), (.int u1), (.int u2), (.int u3), (.int u4)] maxLocals))
  refine GoesW.of (fun t k => castTop (ef_0 m u0 u1 u2 u3 u4) k) ?_
  show GoesW _ _ _ _ _ _ _ (s₁.setTop (mkF m 0 #[.val (.int u0), .val (.int u1), .val (.int u2), .val (.int u3), .val (.int u4), .unset, .unset, .unset, .unset, .unset, .unset, .unset, .unset, .unset, .unset] []))
  refine GoesW.of (fun t k => XS.iloadN X0.here hx rfl (hb hby at_0) rfl k) ?_
  show GoesW _ _ _ _ _ _ _ (s₁.setTop (mkF m 1 #[.val (.int u0), .val (.int u1), .val (.int u2), .val (.int u3), .val (.int u4), .unset, .unset, .unset, .unset, .unset, .unset, .unset, .unset, .unset, .unset] [(.int u0)]))
  refine GoesW.of (fun t k => X0.ldcInt hx hown (mvT hZ (hw _ (List.mem_of_getElem? (i := 0) rfl))) (g := (mkF m 1 #[.val (.int u0), .val (.int u1), .val (.int u2), .val (.int u3), .val (.int u4), .unset, .unset, .unset, .unset, .unset, .unset, .unset, .unset, .unset, .unset] [(.int u0)])) rfl (hb hby at_1) t k) ?_
  show GoesW _ _ _ _ _ _ _ (s₁.setTop (mkF m 3 #[.val (.int u0), .val (.int u1), .val (.int u2), .val (.int u3), .val (.int u4), .unset, .unset, .unset, .unset, .unset, .unset, .unset, .unset, .unset, .unset] [(.int (2147483647 : Int32)), (.int u0)]))
  refine GoesW.of (fun t k => XS.iand X0.here hx rfl (hb hby at_3) rfl k) ?_
  show GoesW _ _ _ _ _ _ _ (s₁.setTop (mkF m 4 #[.val (.int u0), .val (.int u1), .val (.int u2), .val (.int u3), .val (.int u4), .unset, .unset, .unset, .unset, .unset, .unset, .unset, .unset, .unset, .unset] [(.int (u0 &&& (2147483647 : Int32)))]))
  refine GoesW.of (fun t k => XS.bipush X0.here hx rfl (hb hby at_4) k) ?_
  show GoesW _ _ _ _ _ _ _ (s₁.setTop (mkF m 6 #[.val (.int u0), .val (.int u1), .val (.int u2), .val (.int u3), .val (.int u4), .unset, .unset, .unset, .unset, .unset, .unset, .unset, .unset, .unset, .unset] [(.int (47 : Int32)), (.int (u0 &&& (2147483647 : Int32)))]))
  refine GoesW.of (fun t k => iremM X0 hx (g := (mkF m 6 #[.val (.int u0), .val (.int u1), .val (.int u2), .val (.int u3), .val (.int u4), .unset, .unset, .unset, .unset, .unset, .unset, .unset, .unset, .unset, .unset] [(.int (47 : Int32)), (.int (u0 &&& (2147483647 : Int32)))])) rfl (hb hby at_6) rfl (by decide) k) ?_
  show GoesW _ _ _ _ _ _ _ (s₁.setTop (mkF m 7 #[.val (.int u0), .val (.int u1), .val (.int u2), .val (.int u3), .val (.int u4), .unset, .unset, .unset, .unset, .unset, .unset, .unset, .unset, .unset, .unset] [(.int ((u0 &&& (2147483647 : Int32)) % (47 : Int32)))]))
  refine GoesW.of (fun t k => XS.istore X0.here hx rfl (hb hby at_7) rfl (l' := #[.val (.int u0), .val (.int u1), .val (.int u2), .val (.int u3), .val (.int u4), .val (.int ((u0 &&& (2147483647 : Int32)) % (47 : Int32))), .unset, .unset, .unset, .unset, .unset, .unset, .unset, .unset, .unset]) rfl k) ?_
  show GoesW _ _ _ _ _ _ _ (s₁.setTop (mkF m 9 #[.val (.int u0), .val (.int u1), .val (.int u2), .val (.int u3), .val (.int u4), .val (.int ((u0 &&& (2147483647 : Int32)) % (47 : Int32))), .unset, .unset, .unset, .unset, .unset, .unset, .unset, .unset, .unset] []))
  obtain ⟨cd, hy_cd⟩ : ∃ z, z = ((u0 &&& (2147483647 : Int32)) % (47 : Int32)) := ⟨_, rfl⟩
  rw [← hy_cd]
  show GoesW _ _ _ _ _ _ _ (s₁.setTop (mkF m 9 #[.val (.int u0), .val (.int u1), .val (.int u2), .val (.int u3), .val (.int u4), .val (.int cd), .unset, .unset, .unset, .unset, .unset, .unset, .unset, .unset, .unset] []))
  have hcd := own_cd u0
  rw [← hy_cd] at hcd
  refine GoesW.of (fun t k => XS.iloadN X0.here hx rfl (hb hby at_9) rfl k) ?_
  show GoesW _ _ _ _ _ _ _ (s₁.setTop (mkF m 10 #[.val (.int u0), .val (.int u1), .val (.int u2), .val (.int u3), .val (.int u4), .val (.int cd), .unset, .unset, .unset, .unset, .unset, .unset, .unset, .unset, .unset] [(.int u1)]))
  refine GoesW.of (fun t k => XS.iconst X0.here hx rfl (hb hby at_10) k) ?_
  show GoesW _ _ _ _ _ _ _ (s₁.setTop (mkF m 11 #[.val (.int u0), .val (.int u1), .val (.int u2), .val (.int u3), .val (.int u4), .val (.int cd), .unset, .unset, .unset, .unset, .unset, .unset, .unset, .unset, .unset] [(.int (3 : Int32)), (.int u1)]))
  refine GoesW.of (fun t k => XS.iand X0.here hx rfl (hb hby at_11) rfl k) ?_
  show GoesW _ _ _ _ _ _ _ (s₁.setTop (mkF m 12 #[.val (.int u0), .val (.int u1), .val (.int u2), .val (.int u3), .val (.int u4), .val (.int cd), .unset, .unset, .unset, .unset, .unset, .unset, .unset, .unset, .unset] [(.int (u1 &&& (3 : Int32)))]))
  refine GoesW.of (fun t k => XS.istore X0.here hx rfl (hb hby at_12) rfl (l' := #[.val (.int u0), .val (.int u1), .val (.int u2), .val (.int u3), .val (.int u4), .val (.int cd), .val (.int (u1 &&& (3 : Int32))), .unset, .unset, .unset, .unset, .unset, .unset, .unset, .unset]) rfl k) ?_
  show GoesW _ _ _ _ _ _ _ (s₁.setTop (mkF m 14 #[.val (.int u0), .val (.int u1), .val (.int u2), .val (.int u3), .val (.int u4), .val (.int cd), .val (.int (u1 &&& (3 : Int32))), .unset, .unset, .unset, .unset, .unset, .unset, .unset, .unset] []))
  obtain ⟨ax, hy_ax⟩ : ∃ z, z = (u1 &&& (3 : Int32)) := ⟨_, rfl⟩
  rw [← hy_ax]
  show GoesW _ _ _ _ _ _ _ (s₁.setTop (mkF m 14 #[.val (.int u0), .val (.int u1), .val (.int u2), .val (.int u3), .val (.int u4), .val (.int cd), .val (.int ax), .unset, .unset, .unset, .unset, .unset, .unset, .unset, .unset] []))
  have hat := own_at3 u1
  rw [← hy_ax] at hat
  have ea1 : (ax + (1 : Int32)).toInt = ax.toInt + 1 := own_add3 rfl hat (by decide)
  have ea2 : (ax + (2 : Int32)).toInt = ax.toInt + 2 := own_add3 rfl hat (by decide)
  have ea3 : (ax + (3 : Int32)).toInt = ax.toInt + 3 := own_add3 rfl hat (by decide)
  refine GoesW.of (fun t k => XS.iloadN X0.here hx rfl (hb hby at_14) rfl k) ?_
  show GoesW _ _ _ _ _ _ _ (s₁.setTop (mkF m 15 #[.val (.int u0), .val (.int u1), .val (.int u2), .val (.int u3), .val (.int u4), .val (.int cd), .val (.int ax), .unset, .unset, .unset, .unset, .unset, .unset, .unset, .unset] [(.int u2)]))
  refine GoesW.of (fun t k => X0.ldcInt hx hown (mvT hZ (hw _ (List.mem_of_getElem? (i := 1) rfl))) (g := (mkF m 15 #[.val (.int u0), .val (.int u1), .val (.int u2), .val (.int u3), .val (.int u4), .val (.int cd), .val (.int ax), .unset, .unset, .unset, .unset, .unset, .unset, .unset, .unset] [(.int u2)])) rfl (hb hby at_15) t k) ?_
  show GoesW _ _ _ _ _ _ _ (s₁.setTop (mkF m 17 #[.val (.int u0), .val (.int u1), .val (.int u2), .val (.int u3), .val (.int u4), .val (.int cd), .val (.int ax), .unset, .unset, .unset, .unset, .unset, .unset, .unset, .unset] [(.int (65535 : Int32)), (.int u2)]))
  refine GoesW.of (fun t k => XS.iand X0.here hx rfl (hb hby at_17) rfl k) ?_
  show GoesW _ _ _ _ _ _ _ (s₁.setTop (mkF m 18 #[.val (.int u0), .val (.int u1), .val (.int u2), .val (.int u3), .val (.int u4), .val (.int cd), .val (.int ax), .unset, .unset, .unset, .unset, .unset, .unset, .unset, .unset] [(.int (u2 &&& (65535 : Int32)))]))
  refine GoesW.of (fun t k => XS.istore X0.here hx rfl (hb hby at_18) rfl (l' := #[.val (.int u0), .val (.int u1), .val (.int u2), .val (.int u3), .val (.int u4), .val (.int cd), .val (.int ax), .val (.int (u2 &&& (65535 : Int32))), .unset, .unset, .unset, .unset, .unset, .unset, .unset]) rfl k) ?_
  show GoesW _ _ _ _ _ _ _ (s₁.setTop (mkF m 20 #[.val (.int u0), .val (.int u1), .val (.int u2), .val (.int u3), .val (.int u4), .val (.int cd), .val (.int ax), .val (.int (u2 &&& (65535 : Int32))), .unset, .unset, .unset, .unset, .unset, .unset, .unset] []))
  obtain ⟨ar, hy_ar⟩ : ∃ z, z = (u2 &&& (65535 : Int32)) := ⟨_, rfl⟩
  rw [← hy_ar]
  show GoesW _ _ _ _ _ _ _ (s₁.setTop (mkF m 20 #[.val (.int u0), .val (.int u1), .val (.int u2), .val (.int u3), .val (.int u4), .val (.int cd), .val (.int ax), .val (.int ar), .unset, .unset, .unset, .unset, .unset, .unset, .unset] []))
  have har := own_ar u2
  rw [← hy_ar] at har
  obtain ⟨sa, T58, h58, k1, sb, kb, X58, e58, E58, hSw, hkw, hZ, hown, Es, Fc, Fv, Vb, -, -, -, st58⟩ := ldcSV (s := s) (vm0 := s.vm) (text := own_text) (Ts := []) (vs := own_vs) (z := 47) X0 hx hZ hown (hw _ (List.mem_of_getElem? (i := 2) rfl)) (own_wS hw) e0 ((State.WarmedH.refl s).since n0) Z0 (Fr.nil _) (fun b cl q => by rw [hUZ]; exact q) (by rw [hUZ]; exact IB.start) (List.not_mem_nil) hheld hcw ⟨own_lat, rfl⟩ (by decide) (by rw [own_vsbs, List.length_map, own_len47]; rfl) (g := (mkF m 20 #[.val (.int u0), .val (.int u1), .val (.int u2), .val (.int u3), .val (.int u4), .val (.int cd), .val (.int ax), .val (.int ar), .unset, .unset, .unset, .unset, .unset, .unset, .unset] [])) rfl (hb hby at_20) (n := 188) (by decide +kernel) (by decide) (by decide) (by decide)
  have Vs := own_AI Vb
  have F59 := Sta.ext E58 S_cs
  have F60 := Sta.ext E58 S_fm
  have Z58 : n0 ≤ h58.size := Nat.le_trans Z0 E58.1
  refine GoesW.of st58 ?_
  show GoesW _ _ _ _ _ _ _ (T58.setTop (mkF m 22 #[.val (.int u0), .val (.int u1), .val (.int u2), .val (.int u3), .val (.int u4), .val (.int cd), .val (.int ax), .val (.int ar), .unset, .unset, .unset, .unset, .unset, .unset, .unset] [(.ref sa)]))
  refine GoesW.of (fun t k => XS.iload X58.here hx rfl (hb hby at_22) rfl k) ?_
  show GoesW _ _ _ _ _ _ _ (T58.setTop (mkF m 24 #[.val (.int u0), .val (.int u1), .val (.int u2), .val (.int u3), .val (.int u4), .val (.int cd), .val (.int ax), .val (.int ar), .unset, .unset, .unset, .unset, .unset, .unset, .unset] [(.int cd), (.ref sa)]))
  obtain ⟨cq61, kq61, q61a, q61b, q61c⟩ := isOf hZ e58 Es
  obtain ⟨_, _, ⟨T61, L61, k61, n61⟩, -, X61, ⟨Lc61, hQ61, l61, y61, z61⟩, st61⟩ := X58.virtualBack hx (y := (⟨"java/lang/String", "charAt", "(I)C"⟩ : MethodName)) (z := (⟨"java/lang/String", "charAt", "(I)C"⟩ : MethodName)) hown (mvT hZ (hw _ (List.mem_of_getElem? (i := 10) rfl))) (mvT hZ (hw _ (List.mem_of_getElem? (i := 11) rfl))) (notFace_of_selects (args := #[]) (mvT hZ (hw _ (List.mem_of_getElem? (i := 13) rfl)))) (mvT hZ (hw _ (List.mem_of_getElem? (i := 13) rfl))) (mvT hZ (hw _ (List.mem_of_getElem? (i := 12) rfl))) (by decide) (backOf (W := 0) (rm1 l Z a0 hw [] sa cd sb 47 (47 : Int32) own_bf cs fm h58 n0 Z58 Es Fc Fv Vs (by decide) F59 hcs hfm F60 (own_nn hcd.1) (own_ilt hcd.2)) hZ (hw _ (List.mem_of_getElem? (i := 14) rfl)) (hw _ (List.mem_of_getElem? (i := 3) rfl)) (by decide) (by decide)) q61a q61c (g := (mkF m 24 #[.val (.int u0), .val (.int u1), .val (.int u2), .val (.int u3), .val (.int u4), .val (.int cd), .val (.int ax), .val (.int ar), .unset, .unset, .unset, .unset, .unset, .unset, .unset] [(.int cd), (.ref sa)])) rfl (by rw [hml]; rfl) (Steps.refl _) (argsL := [(.int cd)]) (rest := []) (lenOf pd_4 rfl) rfl (by show 2 * 0 + _ ≤ _; exact Nat.le_of_eq rfl) (hb hby at_24) (fun _ _ => ⟨rfl, e58, (by decide : 2 + 0 ≤ _), (by decide : 192 + 0 ≤ _)⟩)
  dsimp only [Pt.U, Pt.locs, Pt.cells, Pt.slots] at X61 l61 y61 z61 st61 hQ61
  replace l61 := l61.symm
  replace y61 := y61.symm
  replace z61 := z61.symm
  subst l61 y61 z61
  obtain ⟨rfl, N61q, e61⟩ := hQ61
  have N61 := Fr.app N0 N61q
  refine GoesW.of (fun t k => st61.trans k) ?_
  show GoesW _ _ _ _ _ _ _ (T61.setTop (mkF m 27 #[.val (.int u0), .val (.int u1), .val (.int u2), .val (.int u3), .val (.int u4), .val (.int cd), .val (.int ax), .val (.int ar), .unset, .unset, .unset, .unset, .unset, .unset, .unset] [(.int (own_bf cd.toNatClampNeg &&& (255 : Int32)))]))
  refine GoesW.of (fun t k => XS.istore X61.here hx rfl (hb hby at_27) rfl (l' := #[.val (.int u0), .val (.int u1), .val (.int u2), .val (.int u3), .val (.int u4), .val (.int cd), .val (.int ax), .val (.int ar), .val (.int (own_bf cd.toNatClampNeg &&& (255 : Int32))), .unset, .unset, .unset, .unset, .unset, .unset]) rfl k) ?_
  show GoesW _ _ _ _ _ _ _ (T61.setTop (mkF m 29 #[.val (.int u0), .val (.int u1), .val (.int u2), .val (.int u3), .val (.int u4), .val (.int cd), .val (.int ax), .val (.int ar), .val (.int (own_bf cd.toNatClampNeg &&& (255 : Int32))), .unset, .unset, .unset, .unset, .unset, .unset] []))
  obtain ⟨ch, hy_ch⟩ : ∃ z, z = (own_bf cd.toNatClampNeg &&& (255 : Int32)) := ⟨_, rfl⟩
  rw [← hy_ch]
  show GoesW _ _ _ _ _ _ _ (T61.setTop (mkF m 29 #[.val (.int u0), .val (.int u1), .val (.int u2), .val (.int u3), .val (.int u4), .val (.int cd), .val (.int ax), .val (.int ar), .val (.int ch), .unset, .unset, .unset, .unset, .unset, .unset] []))
  refine GoesW.of (fun t k => XS.iload X61.here hx rfl (hb hby at_29) rfl k) ?_
  show GoesW _ _ _ _ _ _ _ (T61.setTop (mkF m 31 #[.val (.int u0), .val (.int u1), .val (.int u2), .val (.int u3), .val (.int u4), .val (.int cd), .val (.int ax), .val (.int ar), .val (.int ch), .unset, .unset, .unset, .unset, .unset, .unset] [(.int ch)]))
  refine GoesW.of (fun t k => XS.bipush X61.here hx rfl (hb hby at_31) k) ?_
  show GoesW _ _ _ _ _ _ _ (T61.setTop (mkF m 33 #[.val (.int u0), .val (.int u1), .val (.int u2), .val (.int u3), .val (.int u4), .val (.int cd), .val (.int ax), .val (.int ar), .val (.int ch), .unset, .unset, .unset, .unset, .unset, .unset] [(.int (83 : Int32)), (.int ch)]))
  by_cases hc62 : ch = (83 : Int32)
  · refine GoesW.of (fun t k => XS.icmpNo X61.here hx rfl (hb hby at_33) rfl (teq hc62).2 k) ?_
    show GoesW _ _ _ _ _ _ _ (T61.setTop (mkF m 36 #[.val (.int u0), .val (.int u1), .val (.int u2), .val (.int u3), .val (.int u4), .val (.int cd), .val (.int ax), .val (.int ar), .val (.int ch), .unset, .unset, .unset, .unset, .unset, .unset] []))
    refine GoesW.of (fun t k => XS.iconst X61.here hx rfl (hb hby at_36) k) ?_
    show GoesW _ _ _ _ _ _ _ (T61.setTop (mkF m 37 #[.val (.int u0), .val (.int u1), .val (.int u2), .val (.int u3), .val (.int u4), .val (.int cd), .val (.int ax), .val (.int ar), .val (.int ch), .unset, .unset, .unset, .unset, .unset, .unset] [(.int (1 : Int32))]))
    refine GoesW.of (fun t k => XS.goto X61.here hx rfl (pc0 := 37) (pc' := 41) rfl (hb hby at_37) (by decide) (by decide) k) ?_
    show GoesW _ _ _ _ _ _ _ (T61.setTop (mkF m 41 #[.val (.int u0), .val (.int u1), .val (.int u2), .val (.int u3), .val (.int u4), .val (.int cd), .val (.int ax), .val (.int ar), .val (.int ch), .unset, .unset, .unset, .unset, .unset, .unset] [(.int (1 : Int32))]))
    refine GoesW.of (fun t k => XS.istore X61.here hx rfl (hb hby at_41) rfl (l' := #[.val (.int u0), .val (.int u1), .val (.int u2), .val (.int u3), .val (.int u4), .val (.int cd), .val (.int ax), .val (.int ar), .val (.int ch), .val (.int (1 : Int32)), .unset, .unset, .unset, .unset, .unset]) rfl k) ?_
    show GoesW _ _ _ _ _ _ _ (T61.setTop (mkF m 43 #[.val (.int u0), .val (.int u1), .val (.int u2), .val (.int u3), .val (.int u4), .val (.int cd), .val (.int ax), .val (.int ar), .val (.int ch), .val (.int (1 : Int32)), .unset, .unset, .unset, .unset, .unset] []))
    refine GoesW.of (fun t k => XS.bipush X61.here hx rfl (hb hby at_43) k) ?_
    show GoesW _ _ _ _ _ _ _ (T61.setTop (mkF m 45 #[.val (.int u0), .val (.int u1), .val (.int u2), .val (.int u3), .val (.int u4), .val (.int cd), .val (.int ax), .val (.int ar), .val (.int ch), .val (.int (1 : Int32)), .unset, .unset, .unset, .unset, .unset] [(.int (8 : Int32))]))
    obtain ⟨T63, h63, k63, X63, e63, E63, A63, Ea63, st63⟩ := newPE X61 hx hZ (hw _ (List.mem_of_getElem? (i := 35) rfl)) e61 (g := (mkF m 45 #[.val (.int u0), .val (.int u1), .val (.int u2), .val (.int u3), .val (.int u4), .val (.int cd), .val (.int ax), .val (.int ar), .val (.int ch), .val (.int (1 : Int32)), .unset, .unset, .unset, .unset, .unset] [(.int (8 : Int32))])) rfl (hb hby at_45) rfl (by decide) (cap := 8) (by decide) (by decide) (by decide) (by decide) (ad := "[I") (by decide)
    obtain ⟨b63, g63⟩ : ∃ z, z = h58.size := ⟨_, rfl⟩
    rw [← g63] at A63 Ea63 st63
    have V63 : AI Z h63 b63 .int 8 (fun _ => 0) := AI.new rfl rfl A63 (by decide) (by decide)
    have ne_sa_b63 : sa ≠ b63 := Nat.ne_of_lt (Nat.lt_of_lt_of_le Es.lt (Nat.le_of_eq g63.symm))
    have ne_sb_b63 : sb ≠ b63 := Nat.ne_of_lt (Nat.lt_of_lt_of_le Vs.lt (Nat.le_of_eq g63.symm))
    have g_b63 : n0 ≤ b63 := Nat.le_trans Z58 (Nat.le_of_eq g63.symm)
    have F64 := Sta.ext E63 F59
    have F65 := Sta.ext E63 F60
    have F66 := Exa.ext E63 Es
    have F67 := Fld.ext E63 Fc
    have F68 := Fld.ext E63 Fv
    have F69 := Vs.ext E63
    have Z63 : n0 ≤ h63.size := Nat.le_trans Z58 E63.1
    have hkw := Nat.le_trans hkw E63.1
    refine GoesW.of st63 ?_
    show GoesW _ _ _ _ _ _ _ (T63.setTop (mkF m 47 #[.val (.int u0), .val (.int u1), .val (.int u2), .val (.int u3), .val (.int u4), .val (.int cd), .val (.int ax), .val (.int ar), .val (.int ch), .val (.int (1 : Int32)), .unset, .unset, .unset, .unset, .unset] [(.ref b63)]))
    refine GoesW.of (fun t k => XS.astore X63.here hx rfl (hb hby at_47) rfl rfl (l' := #[.val (.int u0), .val (.int u1), .val (.int u2), .val (.int u3), .val (.int u4), .val (.int cd), .val (.int ax), .val (.int ar), .val (.int ch), .val (.int (1 : Int32)), .val (.ref b63), .unset, .unset, .unset, .unset]) rfl k) ?_
    show GoesW _ _ _ _ _ _ _ (T63.setTop (mkF m 49 #[.val (.int u0), .val (.int u1), .val (.int u2), .val (.int u3), .val (.int u4), .val (.int cd), .val (.int ax), .val (.int ar), .val (.int ch), .val (.int (1 : Int32)), .val (.ref b63), .unset, .unset, .unset, .unset] []))
    refine GoesW.of (fun t k => XS.aload X63.here hx rfl (hb hby at_49) rfl rfl k) ?_
    show GoesW _ _ _ _ _ _ _ (T63.setTop (mkF m 51 #[.val (.int u0), .val (.int u1), .val (.int u2), .val (.int u3), .val (.int u4), .val (.int cd), .val (.int ax), .val (.int ar), .val (.int ch), .val (.int (1 : Int32)), .val (.ref b63), .unset, .unset, .unset, .unset] [(.ref b63)]))
    refine GoesW.of (fun t k => XS.iconst X63.here hx rfl (hb hby at_51) k) ?_
    show GoesW _ _ _ _ _ _ _ (T63.setTop (mkF m 52 #[.val (.int u0), .val (.int u1), .val (.int u2), .val (.int u3), .val (.int u4), .val (.int cd), .val (.int ax), .val (.int ar), .val (.int ch), .val (.int (1 : Int32)), .val (.ref b63), .unset, .unset, .unset, .unset] [(.int (0 : Int32)), (.ref b63)]))
    refine GoesW.of (fun t k => XS.iloadN X63.here hx rfl (hb hby at_52) rfl k) ?_
    show GoesW _ _ _ _ _ _ _ (T63.setTop (mkF m 53 #[.val (.int u0), .val (.int u1), .val (.int u2), .val (.int u3), .val (.int u4), .val (.int cd), .val (.int ax), .val (.int ar), .val (.int ch), .val (.int (1 : Int32)), .val (.ref b63), .unset, .unset, .unset, .unset] [(.int u3), (.int (0 : Int32)), (.ref b63)]))
    obtain ⟨T70, h70, X70, e70, W70, V70, st70⟩ := putI X63 hx hZ e63 V63 (j := (0 : Int32)) (x := u3) (i := 0) (by decide) (by decide) (by decide) (g := (mkF m 53 #[.val (.int u0), .val (.int u1), .val (.int u2), .val (.int u3), .val (.int u4), .val (.int cd), .val (.int ax), .val (.int ar), .val (.int ch), .val (.int (1 : Int32)), .val (.ref b63), .unset, .unset, .unset, .unset] [(.int u3), (.int (0 : Int32)), (.ref b63)])) rfl rfl (hb hby at_53)
    have F71 := Sta.wr W70 F64
    have F72 := Sta.wr W70 F65
    have F73 := Exa.wr W70 F66
    have F74 := Fld.other W70 F67 (Or.inl ne_sa_b63)
    have F75 := Fld.other W70 F68 (Or.inl ne_sa_b63)
    have F76 := F69.other W70 ne_sb_b63
    have Z70 : n0 ≤ h70.size := Nat.le_trans Z63 (Keep.of_wr W70).1
    have N70 := Fr.snoc X70 N61 g_b63
    have hkw := Nat.le_trans hkw (Keep.of_wr W70).1
    refine GoesW.of st70 ?_
    show GoesW _ _ _ _ _ _ _ (T70.setTop (mkF m 54 #[.val (.int u0), .val (.int u1), .val (.int u2), .val (.int u3), .val (.int u4), .val (.int cd), .val (.int ax), .val (.int ar), .val (.int ch), .val (.int (1 : Int32)), .val (.ref b63), .unset, .unset, .unset, .unset] []))
    refine GoesW.of (fun t k => XS.aload X70.here hx rfl (hb hby at_54) rfl rfl k) ?_
    show GoesW _ _ _ _ _ _ _ (T70.setTop (mkF m 56 #[.val (.int u0), .val (.int u1), .val (.int u2), .val (.int u3), .val (.int u4), .val (.int cd), .val (.int ax), .val (.int ar), .val (.int ch), .val (.int (1 : Int32)), .val (.ref b63), .unset, .unset, .unset, .unset] [(.ref b63)]))
    refine GoesW.of (fun t k => XS.iconst X70.here hx rfl (hb hby at_56) k) ?_
    show GoesW _ _ _ _ _ _ _ (T70.setTop (mkF m 57 #[.val (.int u0), .val (.int u1), .val (.int u2), .val (.int u3), .val (.int u4), .val (.int cd), .val (.int ax), .val (.int ar), .val (.int ch), .val (.int (1 : Int32)), .val (.ref b63), .unset, .unset, .unset, .unset] [(.int (1 : Int32)), (.ref b63)]))
    refine GoesW.of (fun t k => XS.iloadN X70.here hx rfl (hb hby at_57) rfl k) ?_
    show GoesW _ _ _ _ _ _ _ (T70.setTop (mkF m 58 #[.val (.int u0), .val (.int u1), .val (.int u2), .val (.int u3), .val (.int u4), .val (.int cd), .val (.int ax), .val (.int ar), .val (.int ch), .val (.int (1 : Int32)), .val (.ref b63), .unset, .unset, .unset, .unset] [(.int u3), (.int (1 : Int32)), (.ref b63)]))
    obtain ⟨T77, h77, X77, e77, W77, V77, st77⟩ := putI X70 hx hZ e70 V70 (j := (1 : Int32)) (x := u3) (i := 1) (by decide) (by decide) (by decide) (g := (mkF m 58 #[.val (.int u0), .val (.int u1), .val (.int u2), .val (.int u3), .val (.int u4), .val (.int cd), .val (.int ax), .val (.int ar), .val (.int ch), .val (.int (1 : Int32)), .val (.ref b63), .unset, .unset, .unset, .unset] [(.int u3), (.int (1 : Int32)), (.ref b63)])) rfl rfl (hb hby at_58)
    have F78 := Sta.wr W77 F71
    have F79 := Sta.wr W77 F72
    have F80 := Exa.wr W77 F73
    have F81 := Fld.other W77 F74 (Or.inl ne_sa_b63)
    have F82 := Fld.other W77 F75 (Or.inl ne_sa_b63)
    have F83 := F76.other W77 ne_sb_b63
    have Z77 : n0 ≤ h77.size := Nat.le_trans Z70 (Keep.of_wr W77).1
    have N77 := Fr.snoc X77 N70 g_b63
    have hkw := Nat.le_trans hkw (Keep.of_wr W77).1
    refine GoesW.of st77 ?_
    show GoesW _ _ _ _ _ _ _ (T77.setTop (mkF m 59 #[.val (.int u0), .val (.int u1), .val (.int u2), .val (.int u3), .val (.int u4), .val (.int cd), .val (.int ax), .val (.int ar), .val (.int ch), .val (.int (1 : Int32)), .val (.ref b63), .unset, .unset, .unset, .unset] []))
    refine GoesW.of (fun t k => XS.aload X77.here hx rfl (hb hby at_59) rfl rfl k) ?_
    show GoesW _ _ _ _ _ _ _ (T77.setTop (mkF m 61 #[.val (.int u0), .val (.int u1), .val (.int u2), .val (.int u3), .val (.int u4), .val (.int cd), .val (.int ax), .val (.int ar), .val (.int ch), .val (.int (1 : Int32)), .val (.ref b63), .unset, .unset, .unset, .unset] [(.ref b63)]))
    refine GoesW.of (fun t k => XS.iconst X77.here hx rfl (hb hby at_61) k) ?_
    show GoesW _ _ _ _ _ _ _ (T77.setTop (mkF m 62 #[.val (.int u0), .val (.int u1), .val (.int u2), .val (.int u3), .val (.int u4), .val (.int cd), .val (.int ax), .val (.int ar), .val (.int ch), .val (.int (1 : Int32)), .val (.ref b63), .unset, .unset, .unset, .unset] [(.int (2 : Int32)), (.ref b63)]))
    refine GoesW.of (fun t k => XS.iloadN X77.here hx rfl (hb hby at_62) rfl k) ?_
    show GoesW _ _ _ _ _ _ _ (T77.setTop (mkF m 63 #[.val (.int u0), .val (.int u1), .val (.int u2), .val (.int u3), .val (.int u4), .val (.int cd), .val (.int ax), .val (.int ar), .val (.int ch), .val (.int (1 : Int32)), .val (.ref b63), .unset, .unset, .unset, .unset] [(.int u3), (.int (2 : Int32)), (.ref b63)]))
    obtain ⟨T84, h84, X84, e84, W84, V84, st84⟩ := putI X77 hx hZ e77 V77 (j := (2 : Int32)) (x := u3) (i := 2) (by decide) (by decide) (by decide) (g := (mkF m 63 #[.val (.int u0), .val (.int u1), .val (.int u2), .val (.int u3), .val (.int u4), .val (.int cd), .val (.int ax), .val (.int ar), .val (.int ch), .val (.int (1 : Int32)), .val (.ref b63), .unset, .unset, .unset, .unset] [(.int u3), (.int (2 : Int32)), (.ref b63)])) rfl rfl (hb hby at_63)
    have F85 := Sta.wr W84 F78
    have F86 := Sta.wr W84 F79
    have F87 := Exa.wr W84 F80
    have F88 := Fld.other W84 F81 (Or.inl ne_sa_b63)
    have F89 := Fld.other W84 F82 (Or.inl ne_sa_b63)
    have F90 := F83.other W84 ne_sb_b63
    have Z84 : n0 ≤ h84.size := Nat.le_trans Z77 (Keep.of_wr W84).1
    have N84 := Fr.snoc X84 N77 g_b63
    have hkw := Nat.le_trans hkw (Keep.of_wr W84).1
    refine GoesW.of st84 ?_
    show GoesW _ _ _ _ _ _ _ (T84.setTop (mkF m 64 #[.val (.int u0), .val (.int u1), .val (.int u2), .val (.int u3), .val (.int u4), .val (.int cd), .val (.int ax), .val (.int ar), .val (.int ch), .val (.int (1 : Int32)), .val (.ref b63), .unset, .unset, .unset, .unset] []))
    refine GoesW.of (fun t k => XS.aload X84.here hx rfl (hb hby at_64) rfl rfl k) ?_
    show GoesW _ _ _ _ _ _ _ (T84.setTop (mkF m 66 #[.val (.int u0), .val (.int u1), .val (.int u2), .val (.int u3), .val (.int u4), .val (.int cd), .val (.int ax), .val (.int ar), .val (.int ch), .val (.int (1 : Int32)), .val (.ref b63), .unset, .unset, .unset, .unset] [(.ref b63)]))
    refine GoesW.of (fun t k => XS.iconst X84.here hx rfl (hb hby at_66) k) ?_
    show GoesW _ _ _ _ _ _ _ (T84.setTop (mkF m 67 #[.val (.int u0), .val (.int u1), .val (.int u2), .val (.int u3), .val (.int u4), .val (.int cd), .val (.int ax), .val (.int ar), .val (.int ch), .val (.int (1 : Int32)), .val (.ref b63), .unset, .unset, .unset, .unset] [(.int (3 : Int32)), (.ref b63)]))
    refine GoesW.of (fun t k => XS.iloadN X84.here hx rfl (hb hby at_67) rfl k) ?_
    show GoesW _ _ _ _ _ _ _ (T84.setTop (mkF m 68 #[.val (.int u0), .val (.int u1), .val (.int u2), .val (.int u3), .val (.int u4), .val (.int cd), .val (.int ax), .val (.int ar), .val (.int ch), .val (.int (1 : Int32)), .val (.ref b63), .unset, .unset, .unset, .unset] [(.int u3), (.int (3 : Int32)), (.ref b63)]))
    obtain ⟨T91, h91, X91, e91, W91, V91, st91⟩ := putI X84 hx hZ e84 V84 (j := (3 : Int32)) (x := u3) (i := 3) (by decide) (by decide) (by decide) (g := (mkF m 68 #[.val (.int u0), .val (.int u1), .val (.int u2), .val (.int u3), .val (.int u4), .val (.int cd), .val (.int ax), .val (.int ar), .val (.int ch), .val (.int (1 : Int32)), .val (.ref b63), .unset, .unset, .unset, .unset] [(.int u3), (.int (3 : Int32)), (.ref b63)])) rfl rfl (hb hby at_68)
    have F92 := Sta.wr W91 F85
    have F93 := Sta.wr W91 F86
    have F94 := Exa.wr W91 F87
    have F95 := Fld.other W91 F88 (Or.inl ne_sa_b63)
    have F96 := Fld.other W91 F89 (Or.inl ne_sa_b63)
    have F97 := F90.other W91 ne_sb_b63
    have Z91 : n0 ≤ h91.size := Nat.le_trans Z84 (Keep.of_wr W91).1
    have N91 := Fr.snoc X91 N84 g_b63
    have hkw := Nat.le_trans hkw (Keep.of_wr W91).1
    refine GoesW.of st91 ?_
    show GoesW _ _ _ _ _ _ _ (T91.setTop (mkF m 69 #[.val (.int u0), .val (.int u1), .val (.int u2), .val (.int u3), .val (.int u4), .val (.int cd), .val (.int ax), .val (.int ar), .val (.int ch), .val (.int (1 : Int32)), .val (.ref b63), .unset, .unset, .unset, .unset] []))
    refine GoesW.of (fun t k => XS.aload X91.here hx rfl (hb hby at_69) rfl rfl k) ?_
    show GoesW _ _ _ _ _ _ _ (T91.setTop (mkF m 71 #[.val (.int u0), .val (.int u1), .val (.int u2), .val (.int u3), .val (.int u4), .val (.int cd), .val (.int ax), .val (.int ar), .val (.int ch), .val (.int (1 : Int32)), .val (.ref b63), .unset, .unset, .unset, .unset] [(.ref b63)]))
    refine GoesW.of (fun t k => XS.iconst X91.here hx rfl (hb hby at_71) k) ?_
    show GoesW _ _ _ _ _ _ _ (T91.setTop (mkF m 72 #[.val (.int u0), .val (.int u1), .val (.int u2), .val (.int u3), .val (.int u4), .val (.int cd), .val (.int ax), .val (.int ar), .val (.int ch), .val (.int (1 : Int32)), .val (.ref b63), .unset, .unset, .unset, .unset] [(.int (4 : Int32)), (.ref b63)]))
    refine GoesW.of (fun t k => XS.iloadN X91.here hx rfl (hb hby at_72) rfl k) ?_
    show GoesW _ _ _ _ _ _ _ (T91.setTop (mkF m 73 #[.val (.int u0), .val (.int u1), .val (.int u2), .val (.int u3), .val (.int u4), .val (.int cd), .val (.int ax), .val (.int ar), .val (.int ch), .val (.int (1 : Int32)), .val (.ref b63), .unset, .unset, .unset, .unset] [(.int u3), (.int (4 : Int32)), (.ref b63)]))
    obtain ⟨T98, h98, X98, e98, W98, V98, st98⟩ := putI X91 hx hZ e91 V91 (j := (4 : Int32)) (x := u3) (i := 4) (by decide) (by decide) (by decide) (g := (mkF m 73 #[.val (.int u0), .val (.int u1), .val (.int u2), .val (.int u3), .val (.int u4), .val (.int cd), .val (.int ax), .val (.int ar), .val (.int ch), .val (.int (1 : Int32)), .val (.ref b63), .unset, .unset, .unset, .unset] [(.int u3), (.int (4 : Int32)), (.ref b63)])) rfl rfl (hb hby at_73)
    have F99 := Sta.wr W98 F92
    have F100 := Sta.wr W98 F93
    have F101 := Exa.wr W98 F94
    have F102 := Fld.other W98 F95 (Or.inl ne_sa_b63)
    have F103 := Fld.other W98 F96 (Or.inl ne_sa_b63)
    have F104 := F97.other W98 ne_sb_b63
    have Z98 : n0 ≤ h98.size := Nat.le_trans Z91 (Keep.of_wr W98).1
    have N98 := Fr.snoc X98 N91 g_b63
    have hkw := Nat.le_trans hkw (Keep.of_wr W98).1
    refine GoesW.of st98 ?_
    show GoesW _ _ _ _ _ _ _ (T98.setTop (mkF m 74 #[.val (.int u0), .val (.int u1), .val (.int u2), .val (.int u3), .val (.int u4), .val (.int cd), .val (.int ax), .val (.int ar), .val (.int ch), .val (.int (1 : Int32)), .val (.ref b63), .unset, .unset, .unset, .unset] []))
    refine GoesW.of (fun t k => XS.aload X98.here hx rfl (hb hby at_74) rfl rfl k) ?_
    show GoesW _ _ _ _ _ _ _ (T98.setTop (mkF m 76 #[.val (.int u0), .val (.int u1), .val (.int u2), .val (.int u3), .val (.int u4), .val (.int cd), .val (.int ax), .val (.int ar), .val (.int ch), .val (.int (1 : Int32)), .val (.ref b63), .unset, .unset, .unset, .unset] [(.ref b63)]))
    refine GoesW.of (fun t k => XS.iconst X98.here hx rfl (hb hby at_76) k) ?_
    show GoesW _ _ _ _ _ _ _ (T98.setTop (mkF m 77 #[.val (.int u0), .val (.int u1), .val (.int u2), .val (.int u3), .val (.int u4), .val (.int cd), .val (.int ax), .val (.int ar), .val (.int ch), .val (.int (1 : Int32)), .val (.ref b63), .unset, .unset, .unset, .unset] [(.int (5 : Int32)), (.ref b63)]))
    refine GoesW.of (fun t k => XS.iloadN X98.here hx rfl (hb hby at_77) rfl k) ?_
    show GoesW _ _ _ _ _ _ _ (T98.setTop (mkF m 78 #[.val (.int u0), .val (.int u1), .val (.int u2), .val (.int u3), .val (.int u4), .val (.int cd), .val (.int ax), .val (.int ar), .val (.int ch), .val (.int (1 : Int32)), .val (.ref b63), .unset, .unset, .unset, .unset] [(.int u3), (.int (5 : Int32)), (.ref b63)]))
    obtain ⟨T105, h105, X105, e105, W105, V105, st105⟩ := putI X98 hx hZ e98 V98 (j := (5 : Int32)) (x := u3) (i := 5) (by decide) (by decide) (by decide) (g := (mkF m 78 #[.val (.int u0), .val (.int u1), .val (.int u2), .val (.int u3), .val (.int u4), .val (.int cd), .val (.int ax), .val (.int ar), .val (.int ch), .val (.int (1 : Int32)), .val (.ref b63), .unset, .unset, .unset, .unset] [(.int u3), (.int (5 : Int32)), (.ref b63)])) rfl rfl (hb hby at_78)
    have F106 := Sta.wr W105 F99
    have F107 := Sta.wr W105 F100
    have F108 := Exa.wr W105 F101
    have F109 := Fld.other W105 F102 (Or.inl ne_sa_b63)
    have F110 := Fld.other W105 F103 (Or.inl ne_sa_b63)
    have F111 := F104.other W105 ne_sb_b63
    have Z105 : n0 ≤ h105.size := Nat.le_trans Z98 (Keep.of_wr W105).1
    have N105 := Fr.snoc X105 N98 g_b63
    have hkw := Nat.le_trans hkw (Keep.of_wr W105).1
    refine GoesW.of st105 ?_
    show GoesW _ _ _ _ _ _ _ (T105.setTop (mkF m 79 #[.val (.int u0), .val (.int u1), .val (.int u2), .val (.int u3), .val (.int u4), .val (.int cd), .val (.int ax), .val (.int ar), .val (.int ch), .val (.int (1 : Int32)), .val (.ref b63), .unset, .unset, .unset, .unset] []))
    refine GoesW.of (fun t k => XS.aload X105.here hx rfl (hb hby at_79) rfl rfl k) ?_
    show GoesW _ _ _ _ _ _ _ (T105.setTop (mkF m 81 #[.val (.int u0), .val (.int u1), .val (.int u2), .val (.int u3), .val (.int u4), .val (.int cd), .val (.int ax), .val (.int ar), .val (.int ch), .val (.int (1 : Int32)), .val (.ref b63), .unset, .unset, .unset, .unset] [(.ref b63)]))
    refine GoesW.of (fun t k => XS.bipush X105.here hx rfl (hb hby at_81) k) ?_
    show GoesW _ _ _ _ _ _ _ (T105.setTop (mkF m 83 #[.val (.int u0), .val (.int u1), .val (.int u2), .val (.int u3), .val (.int u4), .val (.int cd), .val (.int ax), .val (.int ar), .val (.int ch), .val (.int (1 : Int32)), .val (.ref b63), .unset, .unset, .unset, .unset] [(.int (6 : Int32)), (.ref b63)]))
    refine GoesW.of (fun t k => XS.iloadN X105.here hx rfl (hb hby at_83) rfl k) ?_
    show GoesW _ _ _ _ _ _ _ (T105.setTop (mkF m 84 #[.val (.int u0), .val (.int u1), .val (.int u2), .val (.int u3), .val (.int u4), .val (.int cd), .val (.int ax), .val (.int ar), .val (.int ch), .val (.int (1 : Int32)), .val (.ref b63), .unset, .unset, .unset, .unset] [(.int u3), (.int (6 : Int32)), (.ref b63)]))
    obtain ⟨T112, h112, X112, e112, W112, V112, st112⟩ := putI X105 hx hZ e105 V105 (j := (6 : Int32)) (x := u3) (i := 6) (by decide) (by decide) (by decide) (g := (mkF m 84 #[.val (.int u0), .val (.int u1), .val (.int u2), .val (.int u3), .val (.int u4), .val (.int cd), .val (.int ax), .val (.int ar), .val (.int ch), .val (.int (1 : Int32)), .val (.ref b63), .unset, .unset, .unset, .unset] [(.int u3), (.int (6 : Int32)), (.ref b63)])) rfl rfl (hb hby at_84)
    have F113 := Sta.wr W112 F106
    have F114 := Sta.wr W112 F107
    have F115 := Exa.wr W112 F108
    have F116 := Fld.other W112 F109 (Or.inl ne_sa_b63)
    have F117 := Fld.other W112 F110 (Or.inl ne_sa_b63)
    have F118 := F111.other W112 ne_sb_b63
    have Z112 : n0 ≤ h112.size := Nat.le_trans Z105 (Keep.of_wr W112).1
    have N112 := Fr.snoc X112 N105 g_b63
    have hkw := Nat.le_trans hkw (Keep.of_wr W112).1
    refine GoesW.of st112 ?_
    show GoesW _ _ _ _ _ _ _ (T112.setTop (mkF m 85 #[.val (.int u0), .val (.int u1), .val (.int u2), .val (.int u3), .val (.int u4), .val (.int cd), .val (.int ax), .val (.int ar), .val (.int ch), .val (.int (1 : Int32)), .val (.ref b63), .unset, .unset, .unset, .unset] []))
    refine GoesW.of (fun t k => XS.aload X112.here hx rfl (hb hby at_85) rfl rfl k) ?_
    show GoesW _ _ _ _ _ _ _ (T112.setTop (mkF m 87 #[.val (.int u0), .val (.int u1), .val (.int u2), .val (.int u3), .val (.int u4), .val (.int cd), .val (.int ax), .val (.int ar), .val (.int ch), .val (.int (1 : Int32)), .val (.ref b63), .unset, .unset, .unset, .unset] [(.ref b63)]))
    refine GoesW.of (fun t k => XS.bipush X112.here hx rfl (hb hby at_87) k) ?_
    show GoesW _ _ _ _ _ _ _ (T112.setTop (mkF m 89 #[.val (.int u0), .val (.int u1), .val (.int u2), .val (.int u3), .val (.int u4), .val (.int cd), .val (.int ax), .val (.int ar), .val (.int ch), .val (.int (1 : Int32)), .val (.ref b63), .unset, .unset, .unset, .unset] [(.int (7 : Int32)), (.ref b63)]))
    refine GoesW.of (fun t k => XS.iloadN X112.here hx rfl (hb hby at_89) rfl k) ?_
    show GoesW _ _ _ _ _ _ _ (T112.setTop (mkF m 90 #[.val (.int u0), .val (.int u1), .val (.int u2), .val (.int u3), .val (.int u4), .val (.int cd), .val (.int ax), .val (.int ar), .val (.int ch), .val (.int (1 : Int32)), .val (.ref b63), .unset, .unset, .unset, .unset] [(.int u3), (.int (7 : Int32)), (.ref b63)]))
    obtain ⟨T119, h119, X119, e119, W119, V119, st119⟩ := putI X112 hx hZ e112 V112 (j := (7 : Int32)) (x := u3) (i := 7) (by decide) (by decide) (by decide) (g := (mkF m 90 #[.val (.int u0), .val (.int u1), .val (.int u2), .val (.int u3), .val (.int u4), .val (.int cd), .val (.int ax), .val (.int ar), .val (.int ch), .val (.int (1 : Int32)), .val (.ref b63), .unset, .unset, .unset, .unset] [(.int u3), (.int (7 : Int32)), (.ref b63)])) rfl rfl (hb hby at_90)
    have F120 := Sta.wr W119 F113
    have F121 := Sta.wr W119 F114
    have F122 := Exa.wr W119 F115
    have F123 := Fld.other W119 F116 (Or.inl ne_sa_b63)
    have F124 := Fld.other W119 F117 (Or.inl ne_sa_b63)
    have F125 := F118.other W119 ne_sb_b63
    have Z119 : n0 ≤ h119.size := Nat.le_trans Z112 (Keep.of_wr W119).1
    have N119 := Fr.snoc X119 N112 g_b63
    have hkw := Nat.le_trans hkw (Keep.of_wr W119).1
    refine GoesW.of st119 ?_
    show GoesW _ _ _ _ _ _ _ (T119.setTop (mkF m 91 #[.val (.int u0), .val (.int u1), .val (.int u2), .val (.int u3), .val (.int u4), .val (.int cd), .val (.int ax), .val (.int ar), .val (.int ch), .val (.int (1 : Int32)), .val (.ref b63), .unset, .unset, .unset, .unset] []))
    obtain ⟨f8, hf_f8⟩ : ∃ f : Nat → Int32, f = (upd (upd (upd (upd (upd (upd (upd (upd (fun _ => 0) 0 u3) 1 u3) 2 u3) 3 u3) 4 u3) 5 u3) 6 u3) 7 u3) := ⟨_, rfl⟩
    rw [← hf_f8] at V119
    refine GoesW.of (fun t k => XS.aload X119.here hx rfl (hb hby at_91) rfl rfl k) ?_
    show GoesW _ _ _ _ _ _ _ (T119.setTop (mkF m 93 #[.val (.int u0), .val (.int u1), .val (.int u2), .val (.int u3), .val (.int u4), .val (.int cd), .val (.int ax), .val (.int ar), .val (.int ch), .val (.int (1 : Int32)), .val (.ref b63), .unset, .unset, .unset, .unset] [(.ref b63)]))
    refine GoesW.of (fun t k => XS.iload X119.here hx rfl (hb hby at_93) rfl k) ?_
    show GoesW _ _ _ _ _ _ _ (T119.setTop (mkF m 95 #[.val (.int u0), .val (.int u1), .val (.int u2), .val (.int u3), .val (.int u4), .val (.int cd), .val (.int ax), .val (.int ar), .val (.int ch), .val (.int (1 : Int32)), .val (.ref b63), .unset, .unset, .unset, .unset] [(.int ax), (.ref b63)]))
    refine GoesW.of (fun t k => XS.iload X119.here hx rfl (hb hby at_95) rfl k) ?_
    show GoesW _ _ _ _ _ _ _ (T119.setTop (mkF m 97 #[.val (.int u0), .val (.int u1), .val (.int u2), .val (.int u3), .val (.int u4), .val (.int cd), .val (.int ax), .val (.int ar), .val (.int ch), .val (.int (1 : Int32)), .val (.ref b63), .unset, .unset, .unset, .unset] [(.int cd), (.int ax), (.ref b63)]))
    obtain ⟨T126, h126, X126, e126, W126, V126, st126⟩ := putI X119 hx hZ e119 V119 (j := ax) (x := cd) (i := ax.toNatClampNeg) (own_nn (by omega)) rfl (own_ltn (by omega) (by omega)) (g := (mkF m 97 #[.val (.int u0), .val (.int u1), .val (.int u2), .val (.int u3), .val (.int u4), .val (.int cd), .val (.int ax), .val (.int ar), .val (.int ch), .val (.int (1 : Int32)), .val (.ref b63), .unset, .unset, .unset, .unset] [(.int cd), (.int ax), (.ref b63)])) rfl rfl (hb hby at_97)
    have Z126 : n0 ≤ h126.size := Nat.le_trans Z119 (Keep.of_wr W126).1
    have N126 := Fr.snoc X126 N119 g_b63
    have hkw := Nat.le_trans hkw (Keep.of_wr W126).1
    refine GoesW.of st126 ?_
    show GoesW _ _ _ _ _ _ _ (T126.setTop (mkF m 98 #[.val (.int u0), .val (.int u1), .val (.int u2), .val (.int u3), .val (.int u4), .val (.int cd), .val (.int ax), .val (.int ar), .val (.int ch), .val (.int (1 : Int32)), .val (.ref b63), .unset, .unset, .unset, .unset] []))
    refine GoesW.of (fun t k => XS.aload X126.here hx rfl (hb hby at_98) rfl rfl k) ?_
    show GoesW _ _ _ _ _ _ _ (T126.setTop (mkF m 100 #[.val (.int u0), .val (.int u1), .val (.int u2), .val (.int u3), .val (.int u4), .val (.int cd), .val (.int ax), .val (.int ar), .val (.int ch), .val (.int (1 : Int32)), .val (.ref b63), .unset, .unset, .unset, .unset] [(.ref b63)]))
    refine GoesW.of (fun t k => XS.iload X126.here hx rfl (hb hby at_100) rfl k) ?_
    show GoesW _ _ _ _ _ _ _ (T126.setTop (mkF m 102 #[.val (.int u0), .val (.int u1), .val (.int u2), .val (.int u3), .val (.int u4), .val (.int cd), .val (.int ax), .val (.int ar), .val (.int ch), .val (.int (1 : Int32)), .val (.ref b63), .unset, .unset, .unset, .unset] [(.int ax), (.ref b63)]))
    refine GoesW.of (fun t k => XS.iconst X126.here hx rfl (hb hby at_102) k) ?_
    show GoesW _ _ _ _ _ _ _ (T126.setTop (mkF m 103 #[.val (.int u0), .val (.int u1), .val (.int u2), .val (.int u3), .val (.int u4), .val (.int cd), .val (.int ax), .val (.int ar), .val (.int ch), .val (.int (1 : Int32)), .val (.ref b63), .unset, .unset, .unset, .unset] [(.int (1 : Int32)), (.int ax), (.ref b63)]))
    refine GoesW.of (fun t k => XS.iadd X126.here hx rfl (hb hby at_103) rfl k) ?_
    show GoesW _ _ _ _ _ _ _ (T126.setTop (mkF m 104 #[.val (.int u0), .val (.int u1), .val (.int u2), .val (.int u3), .val (.int u4), .val (.int cd), .val (.int ax), .val (.int ar), .val (.int ch), .val (.int (1 : Int32)), .val (.ref b63), .unset, .unset, .unset, .unset] [(.int (ax + (1 : Int32))), (.ref b63)]))
    refine GoesW.of (fun t k => XS.iload X126.here hx rfl (hb hby at_104) rfl k) ?_
    show GoesW _ _ _ _ _ _ _ (T126.setTop (mkF m 106 #[.val (.int u0), .val (.int u1), .val (.int u2), .val (.int u3), .val (.int u4), .val (.int cd), .val (.int ax), .val (.int ar), .val (.int ch), .val (.int (1 : Int32)), .val (.ref b63), .unset, .unset, .unset, .unset] [(.int u4), (.int (ax + (1 : Int32))), (.ref b63)]))
    obtain ⟨T127, h127, X127, e127, W127, V127, st127⟩ := putI X126 hx hZ e126 V126 (j := (ax + (1 : Int32))) (x := u4) (i := (ax + (1 : Int32)).toNatClampNeg) (own_nn (by omega)) rfl (own_ltn (by omega) (by omega)) (g := (mkF m 106 #[.val (.int u0), .val (.int u1), .val (.int u2), .val (.int u3), .val (.int u4), .val (.int cd), .val (.int ax), .val (.int ar), .val (.int ch), .val (.int (1 : Int32)), .val (.ref b63), .unset, .unset, .unset, .unset] [(.int u4), (.int (ax + (1 : Int32))), (.ref b63)])) rfl rfl (hb hby at_106)
    have Z127 : n0 ≤ h127.size := Nat.le_trans Z126 (Keep.of_wr W127).1
    have N127 := Fr.snoc X127 N126 g_b63
    have hkw := Nat.le_trans hkw (Keep.of_wr W127).1
    refine GoesW.of st127 ?_
    show GoesW _ _ _ _ _ _ _ (T127.setTop (mkF m 107 #[.val (.int u0), .val (.int u1), .val (.int u2), .val (.int u3), .val (.int u4), .val (.int cd), .val (.int ax), .val (.int ar), .val (.int ch), .val (.int (1 : Int32)), .val (.ref b63), .unset, .unset, .unset, .unset] []))
    refine GoesW.of (fun t k => XS.aload X127.here hx rfl (hb hby at_107) rfl rfl k) ?_
    show GoesW _ _ _ _ _ _ _ (T127.setTop (mkF m 109 #[.val (.int u0), .val (.int u1), .val (.int u2), .val (.int u3), .val (.int u4), .val (.int cd), .val (.int ax), .val (.int ar), .val (.int ch), .val (.int (1 : Int32)), .val (.ref b63), .unset, .unset, .unset, .unset] [(.ref b63)]))
    refine GoesW.of (fun t k => XS.iload X127.here hx rfl (hb hby at_109) rfl k) ?_
    show GoesW _ _ _ _ _ _ _ (T127.setTop (mkF m 111 #[.val (.int u0), .val (.int u1), .val (.int u2), .val (.int u3), .val (.int u4), .val (.int cd), .val (.int ax), .val (.int ar), .val (.int ch), .val (.int (1 : Int32)), .val (.ref b63), .unset, .unset, .unset, .unset] [(.int ax), (.ref b63)]))
    refine GoesW.of (fun t k => XS.iconst X127.here hx rfl (hb hby at_111) k) ?_
    show GoesW _ _ _ _ _ _ _ (T127.setTop (mkF m 112 #[.val (.int u0), .val (.int u1), .val (.int u2), .val (.int u3), .val (.int u4), .val (.int cd), .val (.int ax), .val (.int ar), .val (.int ch), .val (.int (1 : Int32)), .val (.ref b63), .unset, .unset, .unset, .unset] [(.int (2 : Int32)), (.int ax), (.ref b63)]))
    refine GoesW.of (fun t k => XS.iadd X127.here hx rfl (hb hby at_112) rfl k) ?_
    show GoesW _ _ _ _ _ _ _ (T127.setTop (mkF m 113 #[.val (.int u0), .val (.int u1), .val (.int u2), .val (.int u3), .val (.int u4), .val (.int cd), .val (.int ax), .val (.int ar), .val (.int ch), .val (.int (1 : Int32)), .val (.ref b63), .unset, .unset, .unset, .unset] [(.int (ax + (2 : Int32))), (.ref b63)]))
    refine GoesW.of (fun t k => XS.iloadN X127.here hx rfl (hb hby at_113) rfl k) ?_
    show GoesW _ _ _ _ _ _ _ (T127.setTop (mkF m 114 #[.val (.int u0), .val (.int u1), .val (.int u2), .val (.int u3), .val (.int u4), .val (.int cd), .val (.int ax), .val (.int ar), .val (.int ch), .val (.int (1 : Int32)), .val (.ref b63), .unset, .unset, .unset, .unset] [(.int u2), (.int (ax + (2 : Int32))), (.ref b63)]))
    obtain ⟨T128, h128, X128, e128, W128, V128, st128⟩ := putI X127 hx hZ e127 V127 (j := (ax + (2 : Int32))) (x := u2) (i := (ax + (2 : Int32)).toNatClampNeg) (own_nn (by omega)) rfl (own_ltn (by omega) (by omega)) (g := (mkF m 114 #[.val (.int u0), .val (.int u1), .val (.int u2), .val (.int u3), .val (.int u4), .val (.int cd), .val (.int ax), .val (.int ar), .val (.int ch), .val (.int (1 : Int32)), .val (.ref b63), .unset, .unset, .unset, .unset] [(.int u2), (.int (ax + (2 : Int32))), (.ref b63)])) rfl rfl (hb hby at_114)
    have Z128 : n0 ≤ h128.size := Nat.le_trans Z127 (Keep.of_wr W128).1
    have N128 := Fr.snoc X128 N127 g_b63
    have hkw := Nat.le_trans hkw (Keep.of_wr W128).1
    refine GoesW.of st128 ?_
    show GoesW _ _ _ _ _ _ _ (T128.setTop (mkF m 115 #[.val (.int u0), .val (.int u1), .val (.int u2), .val (.int u3), .val (.int u4), .val (.int cd), .val (.int ax), .val (.int ar), .val (.int ch), .val (.int (1 : Int32)), .val (.ref b63), .unset, .unset, .unset, .unset] []))
    refine GoesW.of (fun t k => XS.iload X128.here hx rfl (hb hby at_115) rfl k) ?_
    show GoesW _ _ _ _ _ _ _ (T128.setTop (mkF m 117 #[.val (.int u0), .val (.int u1), .val (.int u2), .val (.int u3), .val (.int u4), .val (.int cd), .val (.int ax), .val (.int ar), .val (.int ch), .val (.int (1 : Int32)), .val (.ref b63), .unset, .unset, .unset, .unset] [(.int (1 : Int32))]))
    refine GoesW.of (fun t k => XS.ifNo X128.here hx rfl (hb hby at_117) rfl ((if0 _ _).trans (feq (by decide : ¬ ((1 : Int32) = (0 : Int32)))).1) k) ?_
    show GoesW _ _ _ _ _ _ _ (T128.setTop (mkF m 120 #[.val (.int u0), .val (.int u1), .val (.int u2), .val (.int u3), .val (.int u4), .val (.int cd), .val (.int ax), .val (.int ar), .val (.int ch), .val (.int (1 : Int32)), .val (.ref b63), .unset, .unset, .unset, .unset] []))
    refine GoesW.of (fun t k => XS.aload X128.here hx rfl (hb hby at_120) rfl rfl k) ?_
    show GoesW _ _ _ _ _ _ _ (T128.setTop (mkF m 122 #[.val (.int u0), .val (.int u1), .val (.int u2), .val (.int u3), .val (.int u4), .val (.int cd), .val (.int ax), .val (.int ar), .val (.int ch), .val (.int (1 : Int32)), .val (.ref b63), .unset, .unset, .unset, .unset] [(.ref b63)]))
    refine GoesW.of (fun t k => XS.iload X128.here hx rfl (hb hby at_122) rfl k) ?_
    show GoesW _ _ _ _ _ _ _ (T128.setTop (mkF m 124 #[.val (.int u0), .val (.int u1), .val (.int u2), .val (.int u3), .val (.int u4), .val (.int cd), .val (.int ax), .val (.int ar), .val (.int ch), .val (.int (1 : Int32)), .val (.ref b63), .unset, .unset, .unset, .unset] [(.int ax), (.ref b63)]))
    refine GoesW.of (fun t k => XS.iconst X128.here hx rfl (hb hby at_124) k) ?_
    show GoesW _ _ _ _ _ _ _ (T128.setTop (mkF m 125 #[.val (.int u0), .val (.int u1), .val (.int u2), .val (.int u3), .val (.int u4), .val (.int cd), .val (.int ax), .val (.int ar), .val (.int ch), .val (.int (1 : Int32)), .val (.ref b63), .unset, .unset, .unset, .unset] [(.int (3 : Int32)), (.int ax), (.ref b63)]))
    refine GoesW.of (fun t k => XS.iadd X128.here hx rfl (hb hby at_125) rfl k) ?_
    show GoesW _ _ _ _ _ _ _ (T128.setTop (mkF m 126 #[.val (.int u0), .val (.int u1), .val (.int u2), .val (.int u3), .val (.int u4), .val (.int cd), .val (.int ax), .val (.int ar), .val (.int ch), .val (.int (1 : Int32)), .val (.ref b63), .unset, .unset, .unset, .unset] [(.int (ax + (3 : Int32))), (.ref b63)]))
    refine GoesW.of (fun t k => XS.iload X128.here hx rfl (hb hby at_126) rfl k) ?_
    show GoesW _ _ _ _ _ _ _ (T128.setTop (mkF m 128 #[.val (.int u0), .val (.int u1), .val (.int u2), .val (.int u3), .val (.int u4), .val (.int cd), .val (.int ax), .val (.int ar), .val (.int ch), .val (.int (1 : Int32)), .val (.ref b63), .unset, .unset, .unset, .unset] [(.int ar), (.int (ax + (3 : Int32))), (.ref b63)]))
    obtain ⟨T129, h129, X129, e129, W129, V129, st129⟩ := putI X128 hx hZ e128 V128 (j := (ax + (3 : Int32))) (x := ar) (i := (ax + (3 : Int32)).toNatClampNeg) (own_nn (by omega)) rfl (own_ltn (by omega) (by omega)) (g := (mkF m 128 #[.val (.int u0), .val (.int u1), .val (.int u2), .val (.int u3), .val (.int u4), .val (.int cd), .val (.int ax), .val (.int ar), .val (.int ch), .val (.int (1 : Int32)), .val (.ref b63), .unset, .unset, .unset, .unset] [(.int ar), (.int (ax + (3 : Int32))), (.ref b63)])) rfl rfl (hb hby at_128)
    have Z129 : n0 ≤ h129.size := Nat.le_trans Z128 (Keep.of_wr W129).1
    have N129 := Fr.snoc X129 N128 g_b63
    have hkw := Nat.le_trans hkw (Keep.of_wr W129).1
    refine GoesW.of st129 ?_
    show GoesW _ _ _ _ _ _ _ (T129.setTop (mkF m 129 #[.val (.int u0), .val (.int u1), .val (.int u2), .val (.int u3), .val (.int u4), .val (.int cd), .val (.int ax), .val (.int ar), .val (.int ch), .val (.int (1 : Int32)), .val (.ref b63), .unset, .unset, .unset, .unset] []))
    refine GoesW.of (fun t k => XS.goto X129.here hx rfl (pc0 := 129) (pc' := 141) rfl (hb hby at_129) (by decide) (by decide) k) ?_
    show GoesW _ _ _ _ _ _ _ (T129.setTop (mkF m 141 #[.val (.int u0), .val (.int u1), .val (.int u2), .val (.int u3), .val (.int u4), .val (.int cd), .val (.int ax), .val (.int ar), .val (.int ch), .val (.int (1 : Int32)), .val (.ref b63), .unset, .unset, .unset, .unset] []))
    refine GoesW.of (fun t k => XS.iload X129.here hx rfl (hb hby at_141) rfl k) ?_
    show GoesW _ _ _ _ _ _ _ (T129.setTop (mkF m 143 #[.val (.int u0), .val (.int u1), .val (.int u2), .val (.int u3), .val (.int u4), .val (.int cd), .val (.int ax), .val (.int ar), .val (.int ch), .val (.int (1 : Int32)), .val (.ref b63), .unset, .unset, .unset, .unset] [(.int (1 : Int32))]))
    refine GoesW.of (fun t k => XS.ifNo X129.here hx rfl (hb hby at_143) rfl ((if0 _ _).trans (feq (by decide : ¬ ((1 : Int32) = (0 : Int32)))).1) k) ?_
    show GoesW _ _ _ _ _ _ _ (T129.setTop (mkF m 146 #[.val (.int u0), .val (.int u1), .val (.int u2), .val (.int u3), .val (.int u4), .val (.int cd), .val (.int ax), .val (.int ar), .val (.int ch), .val (.int (1 : Int32)), .val (.ref b63), .unset, .unset, .unset, .unset] []))
    refine GoesW.of (fun t k => X129.ldc2Long hx hown (mvT hZ (hw _ (List.mem_of_getElem? (i := 40) rfl))) (g := (mkF m 146 #[.val (.int u0), .val (.int u1), .val (.int u2), .val (.int u3), .val (.int u4), .val (.int cd), .val (.int ax), .val (.int ar), .val (.int ch), .val (.int (1 : Int32)), .val (.ref b63), .unset, .unset, .unset, .unset] [])) rfl (hb hby at_146) t k) ?_
    show GoesW _ _ _ _ _ _ _ (T129.setTop (mkF m 149 #[.val (.int u0), .val (.int u1), .val (.int u2), .val (.int u3), .val (.int u4), .val (.int cd), .val (.int ax), .val (.int ar), .val (.int ch), .val (.int (1 : Int32)), .val (.ref b63), .unset, .unset, .unset, .unset] [(.long (4 : Int64))]))
    refine GoesW.of (fun t k => X129.ldc2Long hx hown (mvT hZ (hw _ (List.mem_of_getElem? (i := 41) rfl))) (g := (mkF m 149 #[.val (.int u0), .val (.int u1), .val (.int u2), .val (.int u3), .val (.int u4), .val (.int cd), .val (.int ax), .val (.int ar), .val (.int ch), .val (.int (1 : Int32)), .val (.ref b63), .unset, .unset, .unset, .unset] [(.long (4 : Int64))])) rfl (hb hby at_149) t k) ?_
    show GoesW _ _ _ _ _ _ _ (T129.setTop (mkF m 152 #[.val (.int u0), .val (.int u1), .val (.int u2), .val (.int u3), .val (.int u4), .val (.int cd), .val (.int ax), .val (.int ar), .val (.int ch), .val (.int (1 : Int32)), .val (.ref b63), .unset, .unset, .unset, .unset] [(.long (2 : Int64)), (.long (4 : Int64))]))
    refine GoesW.of (fun t k => XS.iload X129.here hx rfl (hb hby at_152) rfl k) ?_
    show GoesW _ _ _ _ _ _ _ (T129.setTop (mkF m 154 #[.val (.int u0), .val (.int u1), .val (.int u2), .val (.int u3), .val (.int u4), .val (.int cd), .val (.int ax), .val (.int ar), .val (.int ch), .val (.int (1 : Int32)), .val (.ref b63), .unset, .unset, .unset, .unset] [(.int ar), (.long (2 : Int64)), (.long (4 : Int64))]))
    refine GoesW.of (fun t k => XS.i2l X129.here hx rfl (hb hby at_154) rfl k) ?_
    show GoesW _ _ _ _ _ _ _ (T129.setTop (mkF m 155 #[.val (.int u0), .val (.int u1), .val (.int u2), .val (.int u3), .val (.int u4), .val (.int cd), .val (.int ax), .val (.int ar), .val (.int ch), .val (.int (1 : Int32)), .val (.ref b63), .unset, .unset, .unset, .unset] [(.long (ar.toInt64)), (.long (2 : Int64)), (.long (4 : Int64))]))
    refine GoesW.of (fun t k => XS.lmul X129.here hx rfl (hb hby at_155) rfl k) ?_
    show GoesW _ _ _ _ _ _ _ (T129.setTop (mkF m 156 #[.val (.int u0), .val (.int u1), .val (.int u2), .val (.int u3), .val (.int u4), .val (.int cd), .val (.int ax), .val (.int ar), .val (.int ch), .val (.int (1 : Int32)), .val (.ref b63), .unset, .unset, .unset, .unset] [(.long ((2 : Int64) * (ar.toInt64))), (.long (4 : Int64))]))
    refine GoesW.of (fun t k => XS.ladd X129.here hx rfl (hb hby at_156) rfl k) ?_
    show GoesW _ _ _ _ _ _ _ (T129.setTop (mkF m 157 #[.val (.int u0), .val (.int u1), .val (.int u2), .val (.int u3), .val (.int u4), .val (.int cd), .val (.int ax), .val (.int ar), .val (.int ch), .val (.int (1 : Int32)), .val (.ref b63), .unset, .unset, .unset, .unset] [(.long ((4 : Int64) + ((2 : Int64) * (ar.toInt64))))]))
    refine GoesW.of (fun t k => XS.lstore X129.here hx rfl (hb hby at_157) rfl (l' := #[.val (.int u0), .val (.int u1), .val (.int u2), .val (.int u3), .val (.int u4), .val (.int cd), .val (.int ax), .val (.int ar), .val (.int ch), .val (.int (1 : Int32)), .val (.ref b63), .val (.long ((4 : Int64) + ((2 : Int64) * (ar.toInt64)))), .second, .unset, .unset]) rfl k) ?_
    show GoesW _ _ _ _ _ _ _ (T129.setTop (mkF m 159 #[.val (.int u0), .val (.int u1), .val (.int u2), .val (.int u3), .val (.int u4), .val (.int cd), .val (.int ax), .val (.int ar), .val (.int ch), .val (.int (1 : Int32)), .val (.ref b63), .val (.long ((4 : Int64) + ((2 : Int64) * (ar.toInt64)))), .second, .unset, .unset] []))
    refine GoesW.of (fun t k => XS.goto X129.here hx rfl (pc0 := 159) (pc' := 170) rfl (hb hby at_159) (by decide) (by decide) k) ?_
    show GoesW _ _ _ _ _ _ _ (T129.setTop (mkF m 170 #[.val (.int u0), .val (.int u1), .val (.int u2), .val (.int u3), .val (.int u4), .val (.int cd), .val (.int ax), .val (.int ar), .val (.int ch), .val (.int (1 : Int32)), .val (.ref b63), .val (.long ((4 : Int64) + ((2 : Int64) * (ar.toInt64)))), .second, .unset, .unset] []))
    obtain ⟨ff, hf_ff⟩ : ∃ f : Nat → Int32, f = (upd (upd (upd (upd f8 ax.toNatClampNeg cd) (ax + (1 : Int32)).toNatClampNeg u4) (ax + (2 : Int32)).toNatClampNeg u2) (ax + (3 : Int32)).toNatClampNeg ar) := ⟨_, rfl⟩
    rw [← hf_ff] at V129
    have hf0 : ff ax.toNatClampNeg = cd := by
      rw [hf_ff]
      exact (own_upd_ne (fun q => by have h1 := nat_of (own_nn (j := ax) (by omega)); have h2 := nat_of (own_nn (j := (ax + (3 : Int32))) (by omega)); omega)).trans ((own_upd_ne (fun q => by have h1 := nat_of (own_nn (j := ax) (by omega)); have h2 := nat_of (own_nn (j := (ax + (2 : Int32))) (by omega)); omega)).trans ((own_upd_ne (fun q => by have h1 := nat_of (own_nn (j := ax) (by omega)); have h2 := nat_of (own_nn (j := (ax + (1 : Int32))) (by omega)); omega)).trans own_upd_eq))
    have hf3 : ff (ax + (3 : Int32)).toNatClampNeg = ar := by rw [hf_ff]; exact own_upd_eq
    refine GoesW.of (fun t k => XS.aload X129.here hx rfl (hb hby at_170) rfl rfl k) ?_
    show GoesW _ _ _ _ _ _ _ (T129.setTop (mkF m 172 #[.val (.int u0), .val (.int u1), .val (.int u2), .val (.int u3), .val (.int u4), .val (.int cd), .val (.int ax), .val (.int ar), .val (.int ch), .val (.int (1 : Int32)), .val (.ref b63), .val (.long ((4 : Int64) + ((2 : Int64) * (ar.toInt64)))), .second, .unset, .unset] [(.ref b63)]))
    refine GoesW.of (fun t k => XS.iload X129.here hx rfl (hb hby at_172) rfl k) ?_
    show GoesW _ _ _ _ _ _ _ (T129.setTop (mkF m 174 #[.val (.int u0), .val (.int u1), .val (.int u2), .val (.int u3), .val (.int u4), .val (.int cd), .val (.int ax), .val (.int ar), .val (.int ch), .val (.int (1 : Int32)), .val (.ref b63), .val (.long ((4 : Int64) + ((2 : Int64) * (ar.toInt64)))), .second, .unset, .unset] [(.int ax), (.ref b63)]))
    obtain ⟨_, _, ⟨T130, L130, k130, n130⟩, -, X130, ⟨Lc130, hQ130, l130, y130, z130⟩, st130⟩ := Jvm.LawKit.callS X129 hx (y := (⟨"com/example/dutiful_logic/dutifullogic/Op", "length", "([II)I"⟩ : MethodName)) hown (mvT hZ (hw _ (List.mem_of_getElem? (i := 36) rfl))) (mvT hZ (hw _ (List.mem_of_getElem? (i := 37) rfl))) (mvT hZ (hw _ (List.mem_of_getElem? (i := 38) rfl))) (mvT hZ (hw _ (List.mem_of_getElem? (i := 39) rfl))) (by decide) (backOf (W := 0) (rm6 l Z a0 hw [] b63 ax ff h129 n0 Z129 V129 hat) hZ (hw _ (List.mem_of_getElem? (i := 39) rfl)) (hw _ (List.mem_of_getElem? (i := 38) rfl)) (by decide) (by decide)) (g := (mkF m 174 #[.val (.int u0), .val (.int u1), .val (.int u2), .val (.int u3), .val (.int u4), .val (.int cd), .val (.int ax), .val (.int ar), .val (.int ch), .val (.int (1 : Int32)), .val (.ref b63), .val (.long ((4 : Int64) + ((2 : Int64) * (ar.toInt64)))), .second, .unset, .unset] [(.int ax), (.ref b63)])) rfl (by rw [hml]; rfl) (argsL := [(.ref b63), (.int ax)]) (rest := []) (lenOf pd_5 rfl) rfl (by show 2 * 0 + _ ≤ _; exact Nat.le_of_eq rfl) (hb hby at_174) (fun _ _ => ⟨rfl, e129, (by decide : 3 + 0 ≤ _), (by decide : 200 + 0 ≤ _)⟩)
    dsimp only [Pt.U, Pt.locs, Pt.cells, Pt.slots] at X130 l130 y130 z130 st130 hQ130
    replace l130 := l130.symm
    replace y130 := y130.symm
    replace z130 := z130.symm
    subst l130 y130 z130
    obtain ⟨rfl, N130q, e130⟩ := hQ130
    have N130 := Fr.app N129 N130q
    refine GoesW.of st130 ?_
    show GoesW _ _ _ _ _ _ _ (T130.setTop (mkF m 177 #[.val (.int u0), .val (.int u1), .val (.int u2), .val (.int u3), .val (.int u4), .val (.int cd), .val (.int ax), .val (.int ar), .val (.int ch), .val (.int (1 : Int32)), .val (.ref b63), .val (.long ((4 : Int64) + ((2 : Int64) * (ar.toInt64)))), .second, .unset, .unset] [(.int (f6 (ff ax.toNatClampNeg) (ff (ax + (3 : Int32)).toNatClampNeg)))]))
    refine GoesW.of (fun t k => XS.i2l X130.here hx rfl (hb hby at_177) rfl k) ?_
    show GoesW _ _ _ _ _ _ _ (T130.setTop (mkF m 178 #[.val (.int u0), .val (.int u1), .val (.int u2), .val (.int u3), .val (.int u4), .val (.int cd), .val (.int ax), .val (.int ar), .val (.int ch), .val (.int (1 : Int32)), .val (.ref b63), .val (.long ((4 : Int64) + ((2 : Int64) * (ar.toInt64)))), .second, .unset, .unset] [(.long ((f6 (ff ax.toNatClampNeg) (ff (ax + (3 : Int32)).toNatClampNeg)).toInt64))]))
    refine GoesW.of (fun t k => XS.lstore X130.here hx rfl (hb hby at_178) rfl (l' := #[.val (.int u0), .val (.int u1), .val (.int u2), .val (.int u3), .val (.int u4), .val (.int cd), .val (.int ax), .val (.int ar), .val (.int ch), .val (.int (1 : Int32)), .val (.ref b63), .val (.long ((4 : Int64) + ((2 : Int64) * (ar.toInt64)))), .second, .val (.long ((f6 (ff ax.toNatClampNeg) (ff (ax + (3 : Int32)).toNatClampNeg)).toInt64)), .second]) rfl k) ?_
    show GoesW _ _ _ _ _ _ _ (T130.setTop (mkF m 180 #[.val (.int u0), .val (.int u1), .val (.int u2), .val (.int u3), .val (.int u4), .val (.int cd), .val (.int ax), .val (.int ar), .val (.int ch), .val (.int (1 : Int32)), .val (.ref b63), .val (.long ((4 : Int64) + ((2 : Int64) * (ar.toInt64)))), .second, .val (.long ((f6 (ff ax.toNatClampNeg) (ff (ax + (3 : Int32)).toNatClampNeg)).toInt64)), .second] []))
    refine GoesW.of (fun t k => XS.lload X130.here hx rfl (hb hby at_180) rfl k) ?_
    show GoesW _ _ _ _ _ _ _ (T130.setTop (mkF m 182 #[.val (.int u0), .val (.int u1), .val (.int u2), .val (.int u3), .val (.int u4), .val (.int cd), .val (.int ax), .val (.int ar), .val (.int ch), .val (.int (1 : Int32)), .val (.ref b63), .val (.long ((4 : Int64) + ((2 : Int64) * (ar.toInt64)))), .second, .val (.long ((f6 (ff ax.toNatClampNeg) (ff (ax + (3 : Int32)).toNatClampNeg)).toInt64)), .second] [(.long ((f6 (ff ax.toNatClampNeg) (ff (ax + (3 : Int32)).toNatClampNeg)).toInt64))]))
    refine GoesW.of (fun t k => XS.lload X130.here hx rfl (hb hby at_182) rfl k) ?_
    show GoesW _ _ _ _ _ _ _ (T130.setTop (mkF m 184 #[.val (.int u0), .val (.int u1), .val (.int u2), .val (.int u3), .val (.int u4), .val (.int cd), .val (.int ax), .val (.int ar), .val (.int ch), .val (.int (1 : Int32)), .val (.ref b63), .val (.long ((4 : Int64) + ((2 : Int64) * (ar.toInt64)))), .second, .val (.long ((f6 (ff ax.toNatClampNeg) (ff (ax + (3 : Int32)).toNatClampNeg)).toInt64)), .second] [(.long ((4 : Int64) + ((2 : Int64) * (ar.toInt64)))), (.long ((f6 (ff ax.toNatClampNeg) (ff (ax + (3 : Int32)).toNatClampNeg)).toInt64))]))
    refine GoesW.of (fun t k => XS.lcmp X130.here hx rfl (hb hby at_184) rfl k) ?_
    show GoesW _ _ _ _ _ _ _ (T130.setTop (mkF m 185 #[.val (.int u0), .val (.int u1), .val (.int u2), .val (.int u3), .val (.int u4), .val (.int cd), .val (.int ax), .val (.int ar), .val (.int ch), .val (.int (1 : Int32)), .val (.ref b63), .val (.long ((4 : Int64) + ((2 : Int64) * (ar.toInt64)))), .second, .val (.long ((f6 (ff ax.toNatClampNeg) (ff (ax + (3 : Int32)).toNatClampNeg)).toInt64)), .second] [(.int (lcmpW ((f6 (ff ax.toNatClampNeg) (ff (ax + (3 : Int32)).toNatClampNeg)).toInt64) ((4 : Int64) + ((2 : Int64) * (ar.toInt64)))))]))
    refine GoesW.of (fun t k => XS.ifNo X130.here hx rfl (hb hby at_185) rfl ((if0 _ _).trans (teq ((lw_eq _ _).mpr (by rw [hf0, hf3, (own_res hcd).1 (by rw [← hy_ch]; exact hc62)]; exact own_long har))).2) k) ?_
    show GoesW _ _ _ _ _ _ _ (T130.setTop (mkF m 188 #[.val (.int u0), .val (.int u1), .val (.int u2), .val (.int u3), .val (.int u4), .val (.int cd), .val (.int ax), .val (.int ar), .val (.int ch), .val (.int (1 : Int32)), .val (.ref b63), .val (.long ((4 : Int64) + ((2 : Int64) * (ar.toInt64)))), .second, .val (.long ((f6 (ff ax.toNatClampNeg) (ff (ax + (3 : Int32)).toNatClampNeg)).toInt64)), .second] []))
    refine GoesW.of (fun t k => XS.iconst X130.here hx rfl (hb hby at_188) k) ?_
    show GoesW _ _ _ _ _ _ _ (T130.setTop (mkF m 189 #[.val (.int u0), .val (.int u1), .val (.int u2), .val (.int u3), .val (.int u4), .val (.int cd), .val (.int ax), .val (.int ar), .val (.int ch), .val (.int (1 : Int32)), .val (.ref b63), .val (.long ((4 : Int64) + ((2 : Int64) * (ar.toInt64)))), .second, .val (.long ((f6 (ff ax.toNatClampNeg) (ff (ax + (3 : Int32)).toNatClampNeg)).toInt64)), .second] [(.int (1 : Int32))]))
    refine GoesW.of (fun t k => XS.goto X130.here hx rfl (pc0 := 189) (pc' := 193) rfl (hb hby at_189) (by decide) (by decide) k) ?_
    show GoesW _ _ _ _ _ _ _ (T130.setTop (mkF m 193 #[.val (.int u0), .val (.int u1), .val (.int u2), .val (.int u3), .val (.int u4), .val (.int cd), .val (.int ax), .val (.int ar), .val (.int ch), .val (.int (1 : Int32)), .val (.ref b63), .val (.long ((4 : Int64) + ((2 : Int64) * (ar.toInt64)))), .second, .val (.long ((f6 (ff ax.toNatClampNeg) (ff (ax + (3 : Int32)).toNatClampNeg)).toInt64)), .second] [(.int (1 : Int32))]))
    exact GoesW.fin X130 hlk hSw (by rw [e130]; exact hkw) (v := some (.int (1 : Int32))) (fun h => by rw [Bd.returns] at h; cases h) (fun fs hr => retN X130 hx (t := .boolean) Bd.returns (by simp) (hb hby at_193) hr) ⟨rfl, N130⟩ (by decide) (by decide)
  · refine GoesW.of (fun t k => XS.icmpYes X61.here hx rfl (pc0 := 33) (pc' := 40) rfl (hb hby at_33) rfl (feq hc62).2 (by decide) (by decide) k) ?_
    show GoesW _ _ _ _ _ _ _ (T61.setTop (mkF m 40 #[.val (.int u0), .val (.int u1), .val (.int u2), .val (.int u3), .val (.int u4), .val (.int cd), .val (.int ax), .val (.int ar), .val (.int ch), .unset, .unset, .unset, .unset, .unset, .unset] []))
    refine GoesW.of (fun t k => XS.iconst X61.here hx rfl (hb hby at_40) k) ?_
    show GoesW _ _ _ _ _ _ _ (T61.setTop (mkF m 41 #[.val (.int u0), .val (.int u1), .val (.int u2), .val (.int u3), .val (.int u4), .val (.int cd), .val (.int ax), .val (.int ar), .val (.int ch), .unset, .unset, .unset, .unset, .unset, .unset] [(.int (0 : Int32))]))
    refine GoesW.of (fun t k => XS.istore X61.here hx rfl (hb hby at_41) rfl (l' := #[.val (.int u0), .val (.int u1), .val (.int u2), .val (.int u3), .val (.int u4), .val (.int cd), .val (.int ax), .val (.int ar), .val (.int ch), .val (.int (0 : Int32)), .unset, .unset, .unset, .unset, .unset]) rfl k) ?_
    show GoesW _ _ _ _ _ _ _ (T61.setTop (mkF m 43 #[.val (.int u0), .val (.int u1), .val (.int u2), .val (.int u3), .val (.int u4), .val (.int cd), .val (.int ax), .val (.int ar), .val (.int ch), .val (.int (0 : Int32)), .unset, .unset, .unset, .unset, .unset] []))
    refine GoesW.of (fun t k => XS.bipush X61.here hx rfl (hb hby at_43) k) ?_
    show GoesW _ _ _ _ _ _ _ (T61.setTop (mkF m 45 #[.val (.int u0), .val (.int u1), .val (.int u2), .val (.int u3), .val (.int u4), .val (.int cd), .val (.int ax), .val (.int ar), .val (.int ch), .val (.int (0 : Int32)), .unset, .unset, .unset, .unset, .unset] [(.int (8 : Int32))]))
    obtain ⟨T131, h131, k131, X131, e131, E131, A131, Ea131, st131⟩ := newPE X61 hx hZ (hw _ (List.mem_of_getElem? (i := 35) rfl)) e61 (g := (mkF m 45 #[.val (.int u0), .val (.int u1), .val (.int u2), .val (.int u3), .val (.int u4), .val (.int cd), .val (.int ax), .val (.int ar), .val (.int ch), .val (.int (0 : Int32)), .unset, .unset, .unset, .unset, .unset] [(.int (8 : Int32))])) rfl (hb hby at_45) rfl (by decide) (cap := 8) (by decide) (by decide) (by decide) (by decide) (ad := "[I") (by decide)
    obtain ⟨b131, g131⟩ : ∃ z, z = h58.size := ⟨_, rfl⟩
    rw [← g131] at A131 Ea131 st131
    have V131 : AI Z h131 b131 .int 8 (fun _ => 0) := AI.new rfl rfl A131 (by decide) (by decide)
    have ne_sa_b131 : sa ≠ b131 := Nat.ne_of_lt (Nat.lt_of_lt_of_le Es.lt (Nat.le_of_eq g131.symm))
    have ne_sb_b131 : sb ≠ b131 := Nat.ne_of_lt (Nat.lt_of_lt_of_le Vs.lt (Nat.le_of_eq g131.symm))
    have g_b131 : n0 ≤ b131 := Nat.le_trans Z58 (Nat.le_of_eq g131.symm)
    have F132 := Sta.ext E131 F59
    have F133 := Sta.ext E131 F60
    have F134 := Exa.ext E131 Es
    have F135 := Fld.ext E131 Fc
    have F136 := Fld.ext E131 Fv
    have F137 := Vs.ext E131
    have Z131 : n0 ≤ h131.size := Nat.le_trans Z58 E131.1
    have hkw := Nat.le_trans hkw E131.1
    refine GoesW.of st131 ?_
    show GoesW _ _ _ _ _ _ _ (T131.setTop (mkF m 47 #[.val (.int u0), .val (.int u1), .val (.int u2), .val (.int u3), .val (.int u4), .val (.int cd), .val (.int ax), .val (.int ar), .val (.int ch), .val (.int (0 : Int32)), .unset, .unset, .unset, .unset, .unset] [(.ref b131)]))
    refine GoesW.of (fun t k => XS.astore X131.here hx rfl (hb hby at_47) rfl rfl (l' := #[.val (.int u0), .val (.int u1), .val (.int u2), .val (.int u3), .val (.int u4), .val (.int cd), .val (.int ax), .val (.int ar), .val (.int ch), .val (.int (0 : Int32)), .val (.ref b131), .unset, .unset, .unset, .unset]) rfl k) ?_
    show GoesW _ _ _ _ _ _ _ (T131.setTop (mkF m 49 #[.val (.int u0), .val (.int u1), .val (.int u2), .val (.int u3), .val (.int u4), .val (.int cd), .val (.int ax), .val (.int ar), .val (.int ch), .val (.int (0 : Int32)), .val (.ref b131), .unset, .unset, .unset, .unset] []))
    refine GoesW.of (fun t k => XS.aload X131.here hx rfl (hb hby at_49) rfl rfl k) ?_
    show GoesW _ _ _ _ _ _ _ (T131.setTop (mkF m 51 #[.val (.int u0), .val (.int u1), .val (.int u2), .val (.int u3), .val (.int u4), .val (.int cd), .val (.int ax), .val (.int ar), .val (.int ch), .val (.int (0 : Int32)), .val (.ref b131), .unset, .unset, .unset, .unset] [(.ref b131)]))
    refine GoesW.of (fun t k => XS.iconst X131.here hx rfl (hb hby at_51) k) ?_
    show GoesW _ _ _ _ _ _ _ (T131.setTop (mkF m 52 #[.val (.int u0), .val (.int u1), .val (.int u2), .val (.int u3), .val (.int u4), .val (.int cd), .val (.int ax), .val (.int ar), .val (.int ch), .val (.int (0 : Int32)), .val (.ref b131), .unset, .unset, .unset, .unset] [(.int (0 : Int32)), (.ref b131)]))
    refine GoesW.of (fun t k => XS.iloadN X131.here hx rfl (hb hby at_52) rfl k) ?_
    show GoesW _ _ _ _ _ _ _ (T131.setTop (mkF m 53 #[.val (.int u0), .val (.int u1), .val (.int u2), .val (.int u3), .val (.int u4), .val (.int cd), .val (.int ax), .val (.int ar), .val (.int ch), .val (.int (0 : Int32)), .val (.ref b131), .unset, .unset, .unset, .unset] [(.int u3), (.int (0 : Int32)), (.ref b131)]))
    obtain ⟨T138, h138, X138, e138, W138, V138, st138⟩ := putI X131 hx hZ e131 V131 (j := (0 : Int32)) (x := u3) (i := 0) (by decide) (by decide) (by decide) (g := (mkF m 53 #[.val (.int u0), .val (.int u1), .val (.int u2), .val (.int u3), .val (.int u4), .val (.int cd), .val (.int ax), .val (.int ar), .val (.int ch), .val (.int (0 : Int32)), .val (.ref b131), .unset, .unset, .unset, .unset] [(.int u3), (.int (0 : Int32)), (.ref b131)])) rfl rfl (hb hby at_53)
    have F139 := Sta.wr W138 F132
    have F140 := Sta.wr W138 F133
    have F141 := Exa.wr W138 F134
    have F142 := Fld.other W138 F135 (Or.inl ne_sa_b131)
    have F143 := Fld.other W138 F136 (Or.inl ne_sa_b131)
    have F144 := F137.other W138 ne_sb_b131
    have Z138 : n0 ≤ h138.size := Nat.le_trans Z131 (Keep.of_wr W138).1
    have N138 := Fr.snoc X138 N61 g_b131
    have hkw := Nat.le_trans hkw (Keep.of_wr W138).1
    refine GoesW.of st138 ?_
    show GoesW _ _ _ _ _ _ _ (T138.setTop (mkF m 54 #[.val (.int u0), .val (.int u1), .val (.int u2), .val (.int u3), .val (.int u4), .val (.int cd), .val (.int ax), .val (.int ar), .val (.int ch), .val (.int (0 : Int32)), .val (.ref b131), .unset, .unset, .unset, .unset] []))
    refine GoesW.of (fun t k => XS.aload X138.here hx rfl (hb hby at_54) rfl rfl k) ?_
    show GoesW _ _ _ _ _ _ _ (T138.setTop (mkF m 56 #[.val (.int u0), .val (.int u1), .val (.int u2), .val (.int u3), .val (.int u4), .val (.int cd), .val (.int ax), .val (.int ar), .val (.int ch), .val (.int (0 : Int32)), .val (.ref b131), .unset, .unset, .unset, .unset] [(.ref b131)]))
    refine GoesW.of (fun t k => XS.iconst X138.here hx rfl (hb hby at_56) k) ?_
    show GoesW _ _ _ _ _ _ _ (T138.setTop (mkF m 57 #[.val (.int u0), .val (.int u1), .val (.int u2), .val (.int u3), .val (.int u4), .val (.int cd), .val (.int ax), .val (.int ar), .val (.int ch), .val (.int (0 : Int32)), .val (.ref b131), .unset, .unset, .unset, .unset] [(.int (1 : Int32)), (.ref b131)]))
    refine GoesW.of (fun t k => XS.iloadN X138.here hx rfl (hb hby at_57) rfl k) ?_
    show GoesW _ _ _ _ _ _ _ (T138.setTop (mkF m 58 #[.val (.int u0), .val (.int u1), .val (.int u2), .val (.int u3), .val (.int u4), .val (.int cd), .val (.int ax), .val (.int ar), .val (.int ch), .val (.int (0 : Int32)), .val (.ref b131), .unset, .unset, .unset, .unset] [(.int u3), (.int (1 : Int32)), (.ref b131)]))
    obtain ⟨T145, h145, X145, e145, W145, V145, st145⟩ := putI X138 hx hZ e138 V138 (j := (1 : Int32)) (x := u3) (i := 1) (by decide) (by decide) (by decide) (g := (mkF m 58 #[.val (.int u0), .val (.int u1), .val (.int u2), .val (.int u3), .val (.int u4), .val (.int cd), .val (.int ax), .val (.int ar), .val (.int ch), .val (.int (0 : Int32)), .val (.ref b131), .unset, .unset, .unset, .unset] [(.int u3), (.int (1 : Int32)), (.ref b131)])) rfl rfl (hb hby at_58)
    have F146 := Sta.wr W145 F139
    have F147 := Sta.wr W145 F140
    have F148 := Exa.wr W145 F141
    have F149 := Fld.other W145 F142 (Or.inl ne_sa_b131)
    have F150 := Fld.other W145 F143 (Or.inl ne_sa_b131)
    have F151 := F144.other W145 ne_sb_b131
    have Z145 : n0 ≤ h145.size := Nat.le_trans Z138 (Keep.of_wr W145).1
    have N145 := Fr.snoc X145 N138 g_b131
    have hkw := Nat.le_trans hkw (Keep.of_wr W145).1
    refine GoesW.of st145 ?_
    show GoesW _ _ _ _ _ _ _ (T145.setTop (mkF m 59 #[.val (.int u0), .val (.int u1), .val (.int u2), .val (.int u3), .val (.int u4), .val (.int cd), .val (.int ax), .val (.int ar), .val (.int ch), .val (.int (0 : Int32)), .val (.ref b131), .unset, .unset, .unset, .unset] []))
    refine GoesW.of (fun t k => XS.aload X145.here hx rfl (hb hby at_59) rfl rfl k) ?_
    show GoesW _ _ _ _ _ _ _ (T145.setTop (mkF m 61 #[.val (.int u0), .val (.int u1), .val (.int u2), .val (.int u3), .val (.int u4), .val (.int cd), .val (.int ax), .val (.int ar), .val (.int ch), .val (.int (0 : Int32)), .val (.ref b131), .unset, .unset, .unset, .unset] [(.ref b131)]))
    refine GoesW.of (fun t k => XS.iconst X145.here hx rfl (hb hby at_61) k) ?_
    show GoesW _ _ _ _ _ _ _ (T145.setTop (mkF m 62 #[.val (.int u0), .val (.int u1), .val (.int u2), .val (.int u3), .val (.int u4), .val (.int cd), .val (.int ax), .val (.int ar), .val (.int ch), .val (.int (0 : Int32)), .val (.ref b131), .unset, .unset, .unset, .unset] [(.int (2 : Int32)), (.ref b131)]))
    refine GoesW.of (fun t k => XS.iloadN X145.here hx rfl (hb hby at_62) rfl k) ?_
    show GoesW _ _ _ _ _ _ _ (T145.setTop (mkF m 63 #[.val (.int u0), .val (.int u1), .val (.int u2), .val (.int u3), .val (.int u4), .val (.int cd), .val (.int ax), .val (.int ar), .val (.int ch), .val (.int (0 : Int32)), .val (.ref b131), .unset, .unset, .unset, .unset] [(.int u3), (.int (2 : Int32)), (.ref b131)]))
    obtain ⟨T152, h152, X152, e152, W152, V152, st152⟩ := putI X145 hx hZ e145 V145 (j := (2 : Int32)) (x := u3) (i := 2) (by decide) (by decide) (by decide) (g := (mkF m 63 #[.val (.int u0), .val (.int u1), .val (.int u2), .val (.int u3), .val (.int u4), .val (.int cd), .val (.int ax), .val (.int ar), .val (.int ch), .val (.int (0 : Int32)), .val (.ref b131), .unset, .unset, .unset, .unset] [(.int u3), (.int (2 : Int32)), (.ref b131)])) rfl rfl (hb hby at_63)
    have F153 := Sta.wr W152 F146
    have F154 := Sta.wr W152 F147
    have F155 := Exa.wr W152 F148
    have F156 := Fld.other W152 F149 (Or.inl ne_sa_b131)
    have F157 := Fld.other W152 F150 (Or.inl ne_sa_b131)
    have F158 := F151.other W152 ne_sb_b131
    have Z152 : n0 ≤ h152.size := Nat.le_trans Z145 (Keep.of_wr W152).1
    have N152 := Fr.snoc X152 N145 g_b131
    have hkw := Nat.le_trans hkw (Keep.of_wr W152).1
    refine GoesW.of st152 ?_
    show GoesW _ _ _ _ _ _ _ (T152.setTop (mkF m 64 #[.val (.int u0), .val (.int u1), .val (.int u2), .val (.int u3), .val (.int u4), .val (.int cd), .val (.int ax), .val (.int ar), .val (.int ch), .val (.int (0 : Int32)), .val (.ref b131), .unset, .unset, .unset, .unset] []))
    refine GoesW.of (fun t k => XS.aload X152.here hx rfl (hb hby at_64) rfl rfl k) ?_
    show GoesW _ _ _ _ _ _ _ (T152.setTop (mkF m 66 #[.val (.int u0), .val (.int u1), .val (.int u2), .val (.int u3), .val (.int u4), .val (.int cd), .val (.int ax), .val (.int ar), .val (.int ch), .val (.int (0 : Int32)), .val (.ref b131), .unset, .unset, .unset, .unset] [(.ref b131)]))
    refine GoesW.of (fun t k => XS.iconst X152.here hx rfl (hb hby at_66) k) ?_
    show GoesW _ _ _ _ _ _ _ (T152.setTop (mkF m 67 #[.val (.int u0), .val (.int u1), .val (.int u2), .val (.int u3), .val (.int u4), .val (.int cd), .val (.int ax), .val (.int ar), .val (.int ch), .val (.int (0 : Int32)), .val (.ref b131), .unset, .unset, .unset, .unset] [(.int (3 : Int32)), (.ref b131)]))
    refine GoesW.of (fun t k => XS.iloadN X152.here hx rfl (hb hby at_67) rfl k) ?_
    show GoesW _ _ _ _ _ _ _ (T152.setTop (mkF m 68 #[.val (.int u0), .val (.int u1), .val (.int u2), .val (.int u3), .val (.int u4), .val (.int cd), .val (.int ax), .val (.int ar), .val (.int ch), .val (.int (0 : Int32)), .val (.ref b131), .unset, .unset, .unset, .unset] [(.int u3), (.int (3 : Int32)), (.ref b131)]))
    obtain ⟨T159, h159, X159, e159, W159, V159, st159⟩ := putI X152 hx hZ e152 V152 (j := (3 : Int32)) (x := u3) (i := 3) (by decide) (by decide) (by decide) (g := (mkF m 68 #[.val (.int u0), .val (.int u1), .val (.int u2), .val (.int u3), .val (.int u4), .val (.int cd), .val (.int ax), .val (.int ar), .val (.int ch), .val (.int (0 : Int32)), .val (.ref b131), .unset, .unset, .unset, .unset] [(.int u3), (.int (3 : Int32)), (.ref b131)])) rfl rfl (hb hby at_68)
    have F160 := Sta.wr W159 F153
    have F161 := Sta.wr W159 F154
    have F162 := Exa.wr W159 F155
    have F163 := Fld.other W159 F156 (Or.inl ne_sa_b131)
    have F164 := Fld.other W159 F157 (Or.inl ne_sa_b131)
    have F165 := F158.other W159 ne_sb_b131
    have Z159 : n0 ≤ h159.size := Nat.le_trans Z152 (Keep.of_wr W159).1
    have N159 := Fr.snoc X159 N152 g_b131
    have hkw := Nat.le_trans hkw (Keep.of_wr W159).1
    refine GoesW.of st159 ?_
    show GoesW _ _ _ _ _ _ _ (T159.setTop (mkF m 69 #[.val (.int u0), .val (.int u1), .val (.int u2), .val (.int u3), .val (.int u4), .val (.int cd), .val (.int ax), .val (.int ar), .val (.int ch), .val (.int (0 : Int32)), .val (.ref b131), .unset, .unset, .unset, .unset] []))
    refine GoesW.of (fun t k => XS.aload X159.here hx rfl (hb hby at_69) rfl rfl k) ?_
    show GoesW _ _ _ _ _ _ _ (T159.setTop (mkF m 71 #[.val (.int u0), .val (.int u1), .val (.int u2), .val (.int u3), .val (.int u4), .val (.int cd), .val (.int ax), .val (.int ar), .val (.int ch), .val (.int (0 : Int32)), .val (.ref b131), .unset, .unset, .unset, .unset] [(.ref b131)]))
    refine GoesW.of (fun t k => XS.iconst X159.here hx rfl (hb hby at_71) k) ?_
    show GoesW _ _ _ _ _ _ _ (T159.setTop (mkF m 72 #[.val (.int u0), .val (.int u1), .val (.int u2), .val (.int u3), .val (.int u4), .val (.int cd), .val (.int ax), .val (.int ar), .val (.int ch), .val (.int (0 : Int32)), .val (.ref b131), .unset, .unset, .unset, .unset] [(.int (4 : Int32)), (.ref b131)]))
    refine GoesW.of (fun t k => XS.iloadN X159.here hx rfl (hb hby at_72) rfl k) ?_
    show GoesW _ _ _ _ _ _ _ (T159.setTop (mkF m 73 #[.val (.int u0), .val (.int u1), .val (.int u2), .val (.int u3), .val (.int u4), .val (.int cd), .val (.int ax), .val (.int ar), .val (.int ch), .val (.int (0 : Int32)), .val (.ref b131), .unset, .unset, .unset, .unset] [(.int u3), (.int (4 : Int32)), (.ref b131)]))
    obtain ⟨T166, h166, X166, e166, W166, V166, st166⟩ := putI X159 hx hZ e159 V159 (j := (4 : Int32)) (x := u3) (i := 4) (by decide) (by decide) (by decide) (g := (mkF m 73 #[.val (.int u0), .val (.int u1), .val (.int u2), .val (.int u3), .val (.int u4), .val (.int cd), .val (.int ax), .val (.int ar), .val (.int ch), .val (.int (0 : Int32)), .val (.ref b131), .unset, .unset, .unset, .unset] [(.int u3), (.int (4 : Int32)), (.ref b131)])) rfl rfl (hb hby at_73)
    have F167 := Sta.wr W166 F160
    have F168 := Sta.wr W166 F161
    have F169 := Exa.wr W166 F162
    have F170 := Fld.other W166 F163 (Or.inl ne_sa_b131)
    have F171 := Fld.other W166 F164 (Or.inl ne_sa_b131)
    have F172 := F165.other W166 ne_sb_b131
    have Z166 : n0 ≤ h166.size := Nat.le_trans Z159 (Keep.of_wr W166).1
    have N166 := Fr.snoc X166 N159 g_b131
    have hkw := Nat.le_trans hkw (Keep.of_wr W166).1
    refine GoesW.of st166 ?_
    show GoesW _ _ _ _ _ _ _ (T166.setTop (mkF m 74 #[.val (.int u0), .val (.int u1), .val (.int u2), .val (.int u3), .val (.int u4), .val (.int cd), .val (.int ax), .val (.int ar), .val (.int ch), .val (.int (0 : Int32)), .val (.ref b131), .unset, .unset, .unset, .unset] []))
    refine GoesW.of (fun t k => XS.aload X166.here hx rfl (hb hby at_74) rfl rfl k) ?_
    show GoesW _ _ _ _ _ _ _ (T166.setTop (mkF m 76 #[.val (.int u0), .val (.int u1), .val (.int u2), .val (.int u3), .val (.int u4), .val (.int cd), .val (.int ax), .val (.int ar), .val (.int ch), .val (.int (0 : Int32)), .val (.ref b131), .unset, .unset, .unset, .unset] [(.ref b131)]))
    refine GoesW.of (fun t k => XS.iconst X166.here hx rfl (hb hby at_76) k) ?_
    show GoesW _ _ _ _ _ _ _ (T166.setTop (mkF m 77 #[.val (.int u0), .val (.int u1), .val (.int u2), .val (.int u3), .val (.int u4), .val (.int cd), .val (.int ax), .val (.int ar), .val (.int ch), .val (.int (0 : Int32)), .val (.ref b131), .unset, .unset, .unset, .unset] [(.int (5 : Int32)), (.ref b131)]))
    refine GoesW.of (fun t k => XS.iloadN X166.here hx rfl (hb hby at_77) rfl k) ?_
    show GoesW _ _ _ _ _ _ _ (T166.setTop (mkF m 78 #[.val (.int u0), .val (.int u1), .val (.int u2), .val (.int u3), .val (.int u4), .val (.int cd), .val (.int ax), .val (.int ar), .val (.int ch), .val (.int (0 : Int32)), .val (.ref b131), .unset, .unset, .unset, .unset] [(.int u3), (.int (5 : Int32)), (.ref b131)]))
    obtain ⟨T173, h173, X173, e173, W173, V173, st173⟩ := putI X166 hx hZ e166 V166 (j := (5 : Int32)) (x := u3) (i := 5) (by decide) (by decide) (by decide) (g := (mkF m 78 #[.val (.int u0), .val (.int u1), .val (.int u2), .val (.int u3), .val (.int u4), .val (.int cd), .val (.int ax), .val (.int ar), .val (.int ch), .val (.int (0 : Int32)), .val (.ref b131), .unset, .unset, .unset, .unset] [(.int u3), (.int (5 : Int32)), (.ref b131)])) rfl rfl (hb hby at_78)
    have F174 := Sta.wr W173 F167
    have F175 := Sta.wr W173 F168
    have F176 := Exa.wr W173 F169
    have F177 := Fld.other W173 F170 (Or.inl ne_sa_b131)
    have F178 := Fld.other W173 F171 (Or.inl ne_sa_b131)
    have F179 := F172.other W173 ne_sb_b131
    have Z173 : n0 ≤ h173.size := Nat.le_trans Z166 (Keep.of_wr W173).1
    have N173 := Fr.snoc X173 N166 g_b131
    have hkw := Nat.le_trans hkw (Keep.of_wr W173).1
    refine GoesW.of st173 ?_
    show GoesW _ _ _ _ _ _ _ (T173.setTop (mkF m 79 #[.val (.int u0), .val (.int u1), .val (.int u2), .val (.int u3), .val (.int u4), .val (.int cd), .val (.int ax), .val (.int ar), .val (.int ch), .val (.int (0 : Int32)), .val (.ref b131), .unset, .unset, .unset, .unset] []))
    refine GoesW.of (fun t k => XS.aload X173.here hx rfl (hb hby at_79) rfl rfl k) ?_
    show GoesW _ _ _ _ _ _ _ (T173.setTop (mkF m 81 #[.val (.int u0), .val (.int u1), .val (.int u2), .val (.int u3), .val (.int u4), .val (.int cd), .val (.int ax), .val (.int ar), .val (.int ch), .val (.int (0 : Int32)), .val (.ref b131), .unset, .unset, .unset, .unset] [(.ref b131)]))
    refine GoesW.of (fun t k => XS.bipush X173.here hx rfl (hb hby at_81) k) ?_
    show GoesW _ _ _ _ _ _ _ (T173.setTop (mkF m 83 #[.val (.int u0), .val (.int u1), .val (.int u2), .val (.int u3), .val (.int u4), .val (.int cd), .val (.int ax), .val (.int ar), .val (.int ch), .val (.int (0 : Int32)), .val (.ref b131), .unset, .unset, .unset, .unset] [(.int (6 : Int32)), (.ref b131)]))
    refine GoesW.of (fun t k => XS.iloadN X173.here hx rfl (hb hby at_83) rfl k) ?_
    show GoesW _ _ _ _ _ _ _ (T173.setTop (mkF m 84 #[.val (.int u0), .val (.int u1), .val (.int u2), .val (.int u3), .val (.int u4), .val (.int cd), .val (.int ax), .val (.int ar), .val (.int ch), .val (.int (0 : Int32)), .val (.ref b131), .unset, .unset, .unset, .unset] [(.int u3), (.int (6 : Int32)), (.ref b131)]))
    obtain ⟨T180, h180, X180, e180, W180, V180, st180⟩ := putI X173 hx hZ e173 V173 (j := (6 : Int32)) (x := u3) (i := 6) (by decide) (by decide) (by decide) (g := (mkF m 84 #[.val (.int u0), .val (.int u1), .val (.int u2), .val (.int u3), .val (.int u4), .val (.int cd), .val (.int ax), .val (.int ar), .val (.int ch), .val (.int (0 : Int32)), .val (.ref b131), .unset, .unset, .unset, .unset] [(.int u3), (.int (6 : Int32)), (.ref b131)])) rfl rfl (hb hby at_84)
    have F181 := Sta.wr W180 F174
    have F182 := Sta.wr W180 F175
    have F183 := Exa.wr W180 F176
    have F184 := Fld.other W180 F177 (Or.inl ne_sa_b131)
    have F185 := Fld.other W180 F178 (Or.inl ne_sa_b131)
    have F186 := F179.other W180 ne_sb_b131
    have Z180 : n0 ≤ h180.size := Nat.le_trans Z173 (Keep.of_wr W180).1
    have N180 := Fr.snoc X180 N173 g_b131
    have hkw := Nat.le_trans hkw (Keep.of_wr W180).1
    refine GoesW.of st180 ?_
    show GoesW _ _ _ _ _ _ _ (T180.setTop (mkF m 85 #[.val (.int u0), .val (.int u1), .val (.int u2), .val (.int u3), .val (.int u4), .val (.int cd), .val (.int ax), .val (.int ar), .val (.int ch), .val (.int (0 : Int32)), .val (.ref b131), .unset, .unset, .unset, .unset] []))
    refine GoesW.of (fun t k => XS.aload X180.here hx rfl (hb hby at_85) rfl rfl k) ?_
    show GoesW _ _ _ _ _ _ _ (T180.setTop (mkF m 87 #[.val (.int u0), .val (.int u1), .val (.int u2), .val (.int u3), .val (.int u4), .val (.int cd), .val (.int ax), .val (.int ar), .val (.int ch), .val (.int (0 : Int32)), .val (.ref b131), .unset, .unset, .unset, .unset] [(.ref b131)]))
    refine GoesW.of (fun t k => XS.bipush X180.here hx rfl (hb hby at_87) k) ?_
    show GoesW _ _ _ _ _ _ _ (T180.setTop (mkF m 89 #[.val (.int u0), .val (.int u1), .val (.int u2), .val (.int u3), .val (.int u4), .val (.int cd), .val (.int ax), .val (.int ar), .val (.int ch), .val (.int (0 : Int32)), .val (.ref b131), .unset, .unset, .unset, .unset] [(.int (7 : Int32)), (.ref b131)]))
    refine GoesW.of (fun t k => XS.iloadN X180.here hx rfl (hb hby at_89) rfl k) ?_
    show GoesW _ _ _ _ _ _ _ (T180.setTop (mkF m 90 #[.val (.int u0), .val (.int u1), .val (.int u2), .val (.int u3), .val (.int u4), .val (.int cd), .val (.int ax), .val (.int ar), .val (.int ch), .val (.int (0 : Int32)), .val (.ref b131), .unset, .unset, .unset, .unset] [(.int u3), (.int (7 : Int32)), (.ref b131)]))
    obtain ⟨T187, h187, X187, e187, W187, V187, st187⟩ := putI X180 hx hZ e180 V180 (j := (7 : Int32)) (x := u3) (i := 7) (by decide) (by decide) (by decide) (g := (mkF m 90 #[.val (.int u0), .val (.int u1), .val (.int u2), .val (.int u3), .val (.int u4), .val (.int cd), .val (.int ax), .val (.int ar), .val (.int ch), .val (.int (0 : Int32)), .val (.ref b131), .unset, .unset, .unset, .unset] [(.int u3), (.int (7 : Int32)), (.ref b131)])) rfl rfl (hb hby at_90)
    have F188 := Sta.wr W187 F181
    have F189 := Sta.wr W187 F182
    have F190 := Exa.wr W187 F183
    have F191 := Fld.other W187 F184 (Or.inl ne_sa_b131)
    have F192 := Fld.other W187 F185 (Or.inl ne_sa_b131)
    have F193 := F186.other W187 ne_sb_b131
    have Z187 : n0 ≤ h187.size := Nat.le_trans Z180 (Keep.of_wr W187).1
    have N187 := Fr.snoc X187 N180 g_b131
    have hkw := Nat.le_trans hkw (Keep.of_wr W187).1
    refine GoesW.of st187 ?_
    show GoesW _ _ _ _ _ _ _ (T187.setTop (mkF m 91 #[.val (.int u0), .val (.int u1), .val (.int u2), .val (.int u3), .val (.int u4), .val (.int cd), .val (.int ax), .val (.int ar), .val (.int ch), .val (.int (0 : Int32)), .val (.ref b131), .unset, .unset, .unset, .unset] []))
    obtain ⟨f8, hf_f8⟩ : ∃ f : Nat → Int32, f = (upd (upd (upd (upd (upd (upd (upd (upd (fun _ => 0) 0 u3) 1 u3) 2 u3) 3 u3) 4 u3) 5 u3) 6 u3) 7 u3) := ⟨_, rfl⟩
    rw [← hf_f8] at V187
    refine GoesW.of (fun t k => XS.aload X187.here hx rfl (hb hby at_91) rfl rfl k) ?_
    show GoesW _ _ _ _ _ _ _ (T187.setTop (mkF m 93 #[.val (.int u0), .val (.int u1), .val (.int u2), .val (.int u3), .val (.int u4), .val (.int cd), .val (.int ax), .val (.int ar), .val (.int ch), .val (.int (0 : Int32)), .val (.ref b131), .unset, .unset, .unset, .unset] [(.ref b131)]))
    refine GoesW.of (fun t k => XS.iload X187.here hx rfl (hb hby at_93) rfl k) ?_
    show GoesW _ _ _ _ _ _ _ (T187.setTop (mkF m 95 #[.val (.int u0), .val (.int u1), .val (.int u2), .val (.int u3), .val (.int u4), .val (.int cd), .val (.int ax), .val (.int ar), .val (.int ch), .val (.int (0 : Int32)), .val (.ref b131), .unset, .unset, .unset, .unset] [(.int ax), (.ref b131)]))
    refine GoesW.of (fun t k => XS.iload X187.here hx rfl (hb hby at_95) rfl k) ?_
    show GoesW _ _ _ _ _ _ _ (T187.setTop (mkF m 97 #[.val (.int u0), .val (.int u1), .val (.int u2), .val (.int u3), .val (.int u4), .val (.int cd), .val (.int ax), .val (.int ar), .val (.int ch), .val (.int (0 : Int32)), .val (.ref b131), .unset, .unset, .unset, .unset] [(.int cd), (.int ax), (.ref b131)]))
    obtain ⟨T194, h194, X194, e194, W194, V194, st194⟩ := putI X187 hx hZ e187 V187 (j := ax) (x := cd) (i := ax.toNatClampNeg) (own_nn (by omega)) rfl (own_ltn (by omega) (by omega)) (g := (mkF m 97 #[.val (.int u0), .val (.int u1), .val (.int u2), .val (.int u3), .val (.int u4), .val (.int cd), .val (.int ax), .val (.int ar), .val (.int ch), .val (.int (0 : Int32)), .val (.ref b131), .unset, .unset, .unset, .unset] [(.int cd), (.int ax), (.ref b131)])) rfl rfl (hb hby at_97)
    have Z194 : n0 ≤ h194.size := Nat.le_trans Z187 (Keep.of_wr W194).1
    have N194 := Fr.snoc X194 N187 g_b131
    have hkw := Nat.le_trans hkw (Keep.of_wr W194).1
    refine GoesW.of st194 ?_
    show GoesW _ _ _ _ _ _ _ (T194.setTop (mkF m 98 #[.val (.int u0), .val (.int u1), .val (.int u2), .val (.int u3), .val (.int u4), .val (.int cd), .val (.int ax), .val (.int ar), .val (.int ch), .val (.int (0 : Int32)), .val (.ref b131), .unset, .unset, .unset, .unset] []))
    refine GoesW.of (fun t k => XS.aload X194.here hx rfl (hb hby at_98) rfl rfl k) ?_
    show GoesW _ _ _ _ _ _ _ (T194.setTop (mkF m 100 #[.val (.int u0), .val (.int u1), .val (.int u2), .val (.int u3), .val (.int u4), .val (.int cd), .val (.int ax), .val (.int ar), .val (.int ch), .val (.int (0 : Int32)), .val (.ref b131), .unset, .unset, .unset, .unset] [(.ref b131)]))
    refine GoesW.of (fun t k => XS.iload X194.here hx rfl (hb hby at_100) rfl k) ?_
    show GoesW _ _ _ _ _ _ _ (T194.setTop (mkF m 102 #[.val (.int u0), .val (.int u1), .val (.int u2), .val (.int u3), .val (.int u4), .val (.int cd), .val (.int ax), .val (.int ar), .val (.int ch), .val (.int (0 : Int32)), .val (.ref b131), .unset, .unset, .unset, .unset] [(.int ax), (.ref b131)]))
    refine GoesW.of (fun t k => XS.iconst X194.here hx rfl (hb hby at_102) k) ?_
    show GoesW _ _ _ _ _ _ _ (T194.setTop (mkF m 103 #[.val (.int u0), .val (.int u1), .val (.int u2), .val (.int u3), .val (.int u4), .val (.int cd), .val (.int ax), .val (.int ar), .val (.int ch), .val (.int (0 : Int32)), .val (.ref b131), .unset, .unset, .unset, .unset] [(.int (1 : Int32)), (.int ax), (.ref b131)]))
    refine GoesW.of (fun t k => XS.iadd X194.here hx rfl (hb hby at_103) rfl k) ?_
    show GoesW _ _ _ _ _ _ _ (T194.setTop (mkF m 104 #[.val (.int u0), .val (.int u1), .val (.int u2), .val (.int u3), .val (.int u4), .val (.int cd), .val (.int ax), .val (.int ar), .val (.int ch), .val (.int (0 : Int32)), .val (.ref b131), .unset, .unset, .unset, .unset] [(.int (ax + (1 : Int32))), (.ref b131)]))
    refine GoesW.of (fun t k => XS.iload X194.here hx rfl (hb hby at_104) rfl k) ?_
    show GoesW _ _ _ _ _ _ _ (T194.setTop (mkF m 106 #[.val (.int u0), .val (.int u1), .val (.int u2), .val (.int u3), .val (.int u4), .val (.int cd), .val (.int ax), .val (.int ar), .val (.int ch), .val (.int (0 : Int32)), .val (.ref b131), .unset, .unset, .unset, .unset] [(.int u4), (.int (ax + (1 : Int32))), (.ref b131)]))
    obtain ⟨T195, h195, X195, e195, W195, V195, st195⟩ := putI X194 hx hZ e194 V194 (j := (ax + (1 : Int32))) (x := u4) (i := (ax + (1 : Int32)).toNatClampNeg) (own_nn (by omega)) rfl (own_ltn (by omega) (by omega)) (g := (mkF m 106 #[.val (.int u0), .val (.int u1), .val (.int u2), .val (.int u3), .val (.int u4), .val (.int cd), .val (.int ax), .val (.int ar), .val (.int ch), .val (.int (0 : Int32)), .val (.ref b131), .unset, .unset, .unset, .unset] [(.int u4), (.int (ax + (1 : Int32))), (.ref b131)])) rfl rfl (hb hby at_106)
    have Z195 : n0 ≤ h195.size := Nat.le_trans Z194 (Keep.of_wr W195).1
    have N195 := Fr.snoc X195 N194 g_b131
    have hkw := Nat.le_trans hkw (Keep.of_wr W195).1
    refine GoesW.of st195 ?_
    show GoesW _ _ _ _ _ _ _ (T195.setTop (mkF m 107 #[.val (.int u0), .val (.int u1), .val (.int u2), .val (.int u3), .val (.int u4), .val (.int cd), .val (.int ax), .val (.int ar), .val (.int ch), .val (.int (0 : Int32)), .val (.ref b131), .unset, .unset, .unset, .unset] []))
    refine GoesW.of (fun t k => XS.aload X195.here hx rfl (hb hby at_107) rfl rfl k) ?_
    show GoesW _ _ _ _ _ _ _ (T195.setTop (mkF m 109 #[.val (.int u0), .val (.int u1), .val (.int u2), .val (.int u3), .val (.int u4), .val (.int cd), .val (.int ax), .val (.int ar), .val (.int ch), .val (.int (0 : Int32)), .val (.ref b131), .unset, .unset, .unset, .unset] [(.ref b131)]))
    refine GoesW.of (fun t k => XS.iload X195.here hx rfl (hb hby at_109) rfl k) ?_
    show GoesW _ _ _ _ _ _ _ (T195.setTop (mkF m 111 #[.val (.int u0), .val (.int u1), .val (.int u2), .val (.int u3), .val (.int u4), .val (.int cd), .val (.int ax), .val (.int ar), .val (.int ch), .val (.int (0 : Int32)), .val (.ref b131), .unset, .unset, .unset, .unset] [(.int ax), (.ref b131)]))
    refine GoesW.of (fun t k => XS.iconst X195.here hx rfl (hb hby at_111) k) ?_
    show GoesW _ _ _ _ _ _ _ (T195.setTop (mkF m 112 #[.val (.int u0), .val (.int u1), .val (.int u2), .val (.int u3), .val (.int u4), .val (.int cd), .val (.int ax), .val (.int ar), .val (.int ch), .val (.int (0 : Int32)), .val (.ref b131), .unset, .unset, .unset, .unset] [(.int (2 : Int32)), (.int ax), (.ref b131)]))
    refine GoesW.of (fun t k => XS.iadd X195.here hx rfl (hb hby at_112) rfl k) ?_
    show GoesW _ _ _ _ _ _ _ (T195.setTop (mkF m 113 #[.val (.int u0), .val (.int u1), .val (.int u2), .val (.int u3), .val (.int u4), .val (.int cd), .val (.int ax), .val (.int ar), .val (.int ch), .val (.int (0 : Int32)), .val (.ref b131), .unset, .unset, .unset, .unset] [(.int (ax + (2 : Int32))), (.ref b131)]))
    refine GoesW.of (fun t k => XS.iloadN X195.here hx rfl (hb hby at_113) rfl k) ?_
    show GoesW _ _ _ _ _ _ _ (T195.setTop (mkF m 114 #[.val (.int u0), .val (.int u1), .val (.int u2), .val (.int u3), .val (.int u4), .val (.int cd), .val (.int ax), .val (.int ar), .val (.int ch), .val (.int (0 : Int32)), .val (.ref b131), .unset, .unset, .unset, .unset] [(.int u2), (.int (ax + (2 : Int32))), (.ref b131)]))
    obtain ⟨T196, h196, X196, e196, W196, V196, st196⟩ := putI X195 hx hZ e195 V195 (j := (ax + (2 : Int32))) (x := u2) (i := (ax + (2 : Int32)).toNatClampNeg) (own_nn (by omega)) rfl (own_ltn (by omega) (by omega)) (g := (mkF m 114 #[.val (.int u0), .val (.int u1), .val (.int u2), .val (.int u3), .val (.int u4), .val (.int cd), .val (.int ax), .val (.int ar), .val (.int ch), .val (.int (0 : Int32)), .val (.ref b131), .unset, .unset, .unset, .unset] [(.int u2), (.int (ax + (2 : Int32))), (.ref b131)])) rfl rfl (hb hby at_114)
    have Z196 : n0 ≤ h196.size := Nat.le_trans Z195 (Keep.of_wr W196).1
    have N196 := Fr.snoc X196 N195 g_b131
    have hkw := Nat.le_trans hkw (Keep.of_wr W196).1
    refine GoesW.of st196 ?_
    show GoesW _ _ _ _ _ _ _ (T196.setTop (mkF m 115 #[.val (.int u0), .val (.int u1), .val (.int u2), .val (.int u3), .val (.int u4), .val (.int cd), .val (.int ax), .val (.int ar), .val (.int ch), .val (.int (0 : Int32)), .val (.ref b131), .unset, .unset, .unset, .unset] []))
    refine GoesW.of (fun t k => XS.iload X196.here hx rfl (hb hby at_115) rfl k) ?_
    show GoesW _ _ _ _ _ _ _ (T196.setTop (mkF m 117 #[.val (.int u0), .val (.int u1), .val (.int u2), .val (.int u3), .val (.int u4), .val (.int cd), .val (.int ax), .val (.int ar), .val (.int ch), .val (.int (0 : Int32)), .val (.ref b131), .unset, .unset, .unset, .unset] [(.int (0 : Int32))]))
    refine GoesW.of (fun t k => XS.ifYes X196.here hx rfl (pc0 := 117) (pc' := 132) rfl (hb hby at_117) rfl ((if0 _ _).trans (teq (rfl : (0 : Int32) = (0 : Int32))).1) (by decide) (by decide) k) ?_
    show GoesW _ _ _ _ _ _ _ (T196.setTop (mkF m 132 #[.val (.int u0), .val (.int u1), .val (.int u2), .val (.int u3), .val (.int u4), .val (.int cd), .val (.int ax), .val (.int ar), .val (.int ch), .val (.int (0 : Int32)), .val (.ref b131), .unset, .unset, .unset, .unset] []))
    refine GoesW.of (fun t k => XS.aload X196.here hx rfl (hb hby at_132) rfl rfl k) ?_
    show GoesW _ _ _ _ _ _ _ (T196.setTop (mkF m 134 #[.val (.int u0), .val (.int u1), .val (.int u2), .val (.int u3), .val (.int u4), .val (.int cd), .val (.int ax), .val (.int ar), .val (.int ch), .val (.int (0 : Int32)), .val (.ref b131), .unset, .unset, .unset, .unset] [(.ref b131)]))
    refine GoesW.of (fun t k => XS.iload X196.here hx rfl (hb hby at_134) rfl k) ?_
    show GoesW _ _ _ _ _ _ _ (T196.setTop (mkF m 136 #[.val (.int u0), .val (.int u1), .val (.int u2), .val (.int u3), .val (.int u4), .val (.int cd), .val (.int ax), .val (.int ar), .val (.int ch), .val (.int (0 : Int32)), .val (.ref b131), .unset, .unset, .unset, .unset] [(.int ax), (.ref b131)]))
    refine GoesW.of (fun t k => XS.iconst X196.here hx rfl (hb hby at_136) k) ?_
    show GoesW _ _ _ _ _ _ _ (T196.setTop (mkF m 137 #[.val (.int u0), .val (.int u1), .val (.int u2), .val (.int u3), .val (.int u4), .val (.int cd), .val (.int ax), .val (.int ar), .val (.int ch), .val (.int (0 : Int32)), .val (.ref b131), .unset, .unset, .unset, .unset] [(.int (3 : Int32)), (.int ax), (.ref b131)]))
    refine GoesW.of (fun t k => XS.iadd X196.here hx rfl (hb hby at_137) rfl k) ?_
    show GoesW _ _ _ _ _ _ _ (T196.setTop (mkF m 138 #[.val (.int u0), .val (.int u1), .val (.int u2), .val (.int u3), .val (.int u4), .val (.int cd), .val (.int ax), .val (.int ar), .val (.int ch), .val (.int (0 : Int32)), .val (.ref b131), .unset, .unset, .unset, .unset] [(.int (ax + (3 : Int32))), (.ref b131)]))
    refine GoesW.of (fun t k => XS.iload X196.here hx rfl (hb hby at_138) rfl k) ?_
    show GoesW _ _ _ _ _ _ _ (T196.setTop (mkF m 140 #[.val (.int u0), .val (.int u1), .val (.int u2), .val (.int u3), .val (.int u4), .val (.int cd), .val (.int ax), .val (.int ar), .val (.int ch), .val (.int (0 : Int32)), .val (.ref b131), .unset, .unset, .unset, .unset] [(.int u4), (.int (ax + (3 : Int32))), (.ref b131)]))
    obtain ⟨T197, h197, X197, e197, W197, V197, st197⟩ := putI X196 hx hZ e196 V196 (j := (ax + (3 : Int32))) (x := u4) (i := (ax + (3 : Int32)).toNatClampNeg) (own_nn (by omega)) rfl (own_ltn (by omega) (by omega)) (g := (mkF m 140 #[.val (.int u0), .val (.int u1), .val (.int u2), .val (.int u3), .val (.int u4), .val (.int cd), .val (.int ax), .val (.int ar), .val (.int ch), .val (.int (0 : Int32)), .val (.ref b131), .unset, .unset, .unset, .unset] [(.int u4), (.int (ax + (3 : Int32))), (.ref b131)])) rfl rfl (hb hby at_140)
    have Z197 : n0 ≤ h197.size := Nat.le_trans Z196 (Keep.of_wr W197).1
    have N197 := Fr.snoc X197 N196 g_b131
    have hkw := Nat.le_trans hkw (Keep.of_wr W197).1
    refine GoesW.of st197 ?_
    show GoesW _ _ _ _ _ _ _ (T197.setTop (mkF m 141 #[.val (.int u0), .val (.int u1), .val (.int u2), .val (.int u3), .val (.int u4), .val (.int cd), .val (.int ax), .val (.int ar), .val (.int ch), .val (.int (0 : Int32)), .val (.ref b131), .unset, .unset, .unset, .unset] []))
    refine GoesW.of (fun t k => XS.iload X197.here hx rfl (hb hby at_141) rfl k) ?_
    show GoesW _ _ _ _ _ _ _ (T197.setTop (mkF m 143 #[.val (.int u0), .val (.int u1), .val (.int u2), .val (.int u3), .val (.int u4), .val (.int cd), .val (.int ax), .val (.int ar), .val (.int ch), .val (.int (0 : Int32)), .val (.ref b131), .unset, .unset, .unset, .unset] [(.int (0 : Int32))]))
    refine GoesW.of (fun t k => XS.ifYes X197.here hx rfl (pc0 := 143) (pc' := 162) rfl (hb hby at_143) rfl ((if0 _ _).trans (teq (rfl : (0 : Int32) = (0 : Int32))).1) (by decide) (by decide) k) ?_
    show GoesW _ _ _ _ _ _ _ (T197.setTop (mkF m 162 #[.val (.int u0), .val (.int u1), .val (.int u2), .val (.int u3), .val (.int u4), .val (.int cd), .val (.int ax), .val (.int ar), .val (.int ch), .val (.int (0 : Int32)), .val (.ref b131), .unset, .unset, .unset, .unset] []))
    refine GoesW.of (fun t k => XS.iload X197.here hx rfl (hb hby at_162) rfl k) ?_
    show GoesW _ _ _ _ _ _ _ (T197.setTop (mkF m 164 #[.val (.int u0), .val (.int u1), .val (.int u2), .val (.int u3), .val (.int u4), .val (.int cd), .val (.int ax), .val (.int ar), .val (.int ch), .val (.int (0 : Int32)), .val (.ref b131), .unset, .unset, .unset, .unset] [(.int ch)]))
    refine GoesW.of (fun t k => XS.bipush X197.here hx rfl (hb hby at_164) k) ?_
    show GoesW _ _ _ _ _ _ _ (T197.setTop (mkF m 166 #[.val (.int u0), .val (.int u1), .val (.int u2), .val (.int u3), .val (.int u4), .val (.int cd), .val (.int ax), .val (.int ar), .val (.int ch), .val (.int (0 : Int32)), .val (.ref b131), .unset, .unset, .unset, .unset] [(.int (48 : Int32)), (.int ch)]))
    refine GoesW.of (fun t k => XS.isub X197.here hx rfl (hb hby at_166) rfl k) ?_
    show GoesW _ _ _ _ _ _ _ (T197.setTop (mkF m 167 #[.val (.int u0), .val (.int u1), .val (.int u2), .val (.int u3), .val (.int u4), .val (.int cd), .val (.int ax), .val (.int ar), .val (.int ch), .val (.int (0 : Int32)), .val (.ref b131), .unset, .unset, .unset, .unset] [(.int (ch - (48 : Int32)))]))
    refine GoesW.of (fun t k => XS.i2l X197.here hx rfl (hb hby at_167) rfl k) ?_
    show GoesW _ _ _ _ _ _ _ (T197.setTop (mkF m 168 #[.val (.int u0), .val (.int u1), .val (.int u2), .val (.int u3), .val (.int u4), .val (.int cd), .val (.int ax), .val (.int ar), .val (.int ch), .val (.int (0 : Int32)), .val (.ref b131), .unset, .unset, .unset, .unset] [(.long ((ch - (48 : Int32)).toInt64))]))
    refine GoesW.of (fun t k => XS.lstore X197.here hx rfl (hb hby at_168) rfl (l' := #[.val (.int u0), .val (.int u1), .val (.int u2), .val (.int u3), .val (.int u4), .val (.int cd), .val (.int ax), .val (.int ar), .val (.int ch), .val (.int (0 : Int32)), .val (.ref b131), .val (.long ((ch - (48 : Int32)).toInt64)), .second, .unset, .unset]) rfl k) ?_
    show GoesW _ _ _ _ _ _ _ (T197.setTop (mkF m 170 #[.val (.int u0), .val (.int u1), .val (.int u2), .val (.int u3), .val (.int u4), .val (.int cd), .val (.int ax), .val (.int ar), .val (.int ch), .val (.int (0 : Int32)), .val (.ref b131), .val (.long ((ch - (48 : Int32)).toInt64)), .second, .unset, .unset] []))
    obtain ⟨ff, hf_ff⟩ : ∃ f : Nat → Int32, f = (upd (upd (upd (upd f8 ax.toNatClampNeg cd) (ax + (1 : Int32)).toNatClampNeg u4) (ax + (2 : Int32)).toNatClampNeg u2) (ax + (3 : Int32)).toNatClampNeg u4) := ⟨_, rfl⟩
    rw [← hf_ff] at V197
    have hf0 : ff ax.toNatClampNeg = cd := by
      rw [hf_ff]
      exact (own_upd_ne (fun q => by have h1 := nat_of (own_nn (j := ax) (by omega)); have h2 := nat_of (own_nn (j := (ax + (3 : Int32))) (by omega)); omega)).trans ((own_upd_ne (fun q => by have h1 := nat_of (own_nn (j := ax) (by omega)); have h2 := nat_of (own_nn (j := (ax + (2 : Int32))) (by omega)); omega)).trans ((own_upd_ne (fun q => by have h1 := nat_of (own_nn (j := ax) (by omega)); have h2 := nat_of (own_nn (j := (ax + (1 : Int32))) (by omega)); omega)).trans own_upd_eq))
    have hf3 : ff (ax + (3 : Int32)).toNatClampNeg = u4 := by rw [hf_ff]; exact own_upd_eq
    refine GoesW.of (fun t k => XS.aload X197.here hx rfl (hb hby at_170) rfl rfl k) ?_
    show GoesW _ _ _ _ _ _ _ (T197.setTop (mkF m 172 #[.val (.int u0), .val (.int u1), .val (.int u2), .val (.int u3), .val (.int u4), .val (.int cd), .val (.int ax), .val (.int ar), .val (.int ch), .val (.int (0 : Int32)), .val (.ref b131), .val (.long ((ch - (48 : Int32)).toInt64)), .second, .unset, .unset] [(.ref b131)]))
    refine GoesW.of (fun t k => XS.iload X197.here hx rfl (hb hby at_172) rfl k) ?_
    show GoesW _ _ _ _ _ _ _ (T197.setTop (mkF m 174 #[.val (.int u0), .val (.int u1), .val (.int u2), .val (.int u3), .val (.int u4), .val (.int cd), .val (.int ax), .val (.int ar), .val (.int ch), .val (.int (0 : Int32)), .val (.ref b131), .val (.long ((ch - (48 : Int32)).toInt64)), .second, .unset, .unset] [(.int ax), (.ref b131)]))
    obtain ⟨_, _, ⟨T198, L198, k198, n198⟩, -, X198, ⟨Lc198, hQ198, l198, y198, z198⟩, st198⟩ := Jvm.LawKit.callS X197 hx (y := (⟨"com/example/dutiful_logic/dutifullogic/Op", "length", "([II)I"⟩ : MethodName)) hown (mvT hZ (hw _ (List.mem_of_getElem? (i := 36) rfl))) (mvT hZ (hw _ (List.mem_of_getElem? (i := 37) rfl))) (mvT hZ (hw _ (List.mem_of_getElem? (i := 38) rfl))) (mvT hZ (hw _ (List.mem_of_getElem? (i := 39) rfl))) (by decide) (backOf (W := 0) (rm6 l Z a0 hw [] b131 ax ff h197 n0 Z197 V197 hat) hZ (hw _ (List.mem_of_getElem? (i := 39) rfl)) (hw _ (List.mem_of_getElem? (i := 38) rfl)) (by decide) (by decide)) (g := (mkF m 174 #[.val (.int u0), .val (.int u1), .val (.int u2), .val (.int u3), .val (.int u4), .val (.int cd), .val (.int ax), .val (.int ar), .val (.int ch), .val (.int (0 : Int32)), .val (.ref b131), .val (.long ((ch - (48 : Int32)).toInt64)), .second, .unset, .unset] [(.int ax), (.ref b131)])) rfl (by rw [hml]; rfl) (argsL := [(.ref b131), (.int ax)]) (rest := []) (lenOf pd_5 rfl) rfl (by show 2 * 0 + _ ≤ _; exact Nat.le_of_eq rfl) (hb hby at_174) (fun _ _ => ⟨rfl, e197, (by decide : 3 + 0 ≤ _), (by decide : 200 + 0 ≤ _)⟩)
    dsimp only [Pt.U, Pt.locs, Pt.cells, Pt.slots] at X198 l198 y198 z198 st198 hQ198
    replace l198 := l198.symm
    replace y198 := y198.symm
    replace z198 := z198.symm
    subst l198 y198 z198
    obtain ⟨rfl, N198q, e198⟩ := hQ198
    have N198 := Fr.app N197 N198q
    refine GoesW.of st198 ?_
    show GoesW _ _ _ _ _ _ _ (T198.setTop (mkF m 177 #[.val (.int u0), .val (.int u1), .val (.int u2), .val (.int u3), .val (.int u4), .val (.int cd), .val (.int ax), .val (.int ar), .val (.int ch), .val (.int (0 : Int32)), .val (.ref b131), .val (.long ((ch - (48 : Int32)).toInt64)), .second, .unset, .unset] [(.int (f6 (ff ax.toNatClampNeg) (ff (ax + (3 : Int32)).toNatClampNeg)))]))
    refine GoesW.of (fun t k => XS.i2l X198.here hx rfl (hb hby at_177) rfl k) ?_
    show GoesW _ _ _ _ _ _ _ (T198.setTop (mkF m 178 #[.val (.int u0), .val (.int u1), .val (.int u2), .val (.int u3), .val (.int u4), .val (.int cd), .val (.int ax), .val (.int ar), .val (.int ch), .val (.int (0 : Int32)), .val (.ref b131), .val (.long ((ch - (48 : Int32)).toInt64)), .second, .unset, .unset] [(.long ((f6 (ff ax.toNatClampNeg) (ff (ax + (3 : Int32)).toNatClampNeg)).toInt64))]))
    refine GoesW.of (fun t k => XS.lstore X198.here hx rfl (hb hby at_178) rfl (l' := #[.val (.int u0), .val (.int u1), .val (.int u2), .val (.int u3), .val (.int u4), .val (.int cd), .val (.int ax), .val (.int ar), .val (.int ch), .val (.int (0 : Int32)), .val (.ref b131), .val (.long ((ch - (48 : Int32)).toInt64)), .second, .val (.long ((f6 (ff ax.toNatClampNeg) (ff (ax + (3 : Int32)).toNatClampNeg)).toInt64)), .second]) rfl k) ?_
    show GoesW _ _ _ _ _ _ _ (T198.setTop (mkF m 180 #[.val (.int u0), .val (.int u1), .val (.int u2), .val (.int u3), .val (.int u4), .val (.int cd), .val (.int ax), .val (.int ar), .val (.int ch), .val (.int (0 : Int32)), .val (.ref b131), .val (.long ((ch - (48 : Int32)).toInt64)), .second, .val (.long ((f6 (ff ax.toNatClampNeg) (ff (ax + (3 : Int32)).toNatClampNeg)).toInt64)), .second] []))
    refine GoesW.of (fun t k => XS.lload X198.here hx rfl (hb hby at_180) rfl k) ?_
    show GoesW _ _ _ _ _ _ _ (T198.setTop (mkF m 182 #[.val (.int u0), .val (.int u1), .val (.int u2), .val (.int u3), .val (.int u4), .val (.int cd), .val (.int ax), .val (.int ar), .val (.int ch), .val (.int (0 : Int32)), .val (.ref b131), .val (.long ((ch - (48 : Int32)).toInt64)), .second, .val (.long ((f6 (ff ax.toNatClampNeg) (ff (ax + (3 : Int32)).toNatClampNeg)).toInt64)), .second] [(.long ((f6 (ff ax.toNatClampNeg) (ff (ax + (3 : Int32)).toNatClampNeg)).toInt64))]))
    refine GoesW.of (fun t k => XS.lload X198.here hx rfl (hb hby at_182) rfl k) ?_
    show GoesW _ _ _ _ _ _ _ (T198.setTop (mkF m 184 #[.val (.int u0), .val (.int u1), .val (.int u2), .val (.int u3), .val (.int u4), .val (.int cd), .val (.int ax), .val (.int ar), .val (.int ch), .val (.int (0 : Int32)), .val (.ref b131), .val (.long ((ch - (48 : Int32)).toInt64)), .second, .val (.long ((f6 (ff ax.toNatClampNeg) (ff (ax + (3 : Int32)).toNatClampNeg)).toInt64)), .second] [(.long ((ch - (48 : Int32)).toInt64)), (.long ((f6 (ff ax.toNatClampNeg) (ff (ax + (3 : Int32)).toNatClampNeg)).toInt64))]))
    refine GoesW.of (fun t k => XS.lcmp X198.here hx rfl (hb hby at_184) rfl k) ?_
    show GoesW _ _ _ _ _ _ _ (T198.setTop (mkF m 185 #[.val (.int u0), .val (.int u1), .val (.int u2), .val (.int u3), .val (.int u4), .val (.int cd), .val (.int ax), .val (.int ar), .val (.int ch), .val (.int (0 : Int32)), .val (.ref b131), .val (.long ((ch - (48 : Int32)).toInt64)), .second, .val (.long ((f6 (ff ax.toNatClampNeg) (ff (ax + (3 : Int32)).toNatClampNeg)).toInt64)), .second] [(.int (lcmpW ((f6 (ff ax.toNatClampNeg) (ff (ax + (3 : Int32)).toNatClampNeg)).toInt64) ((ch - (48 : Int32)).toInt64)))]))
    refine GoesW.of (fun t k => XS.ifNo X198.here hx rfl (hb hby at_185) rfl ((if0 _ _).trans (teq ((lw_eq _ _).mpr (by rw [hf0, hf3, (own_res hcd).2 (by rw [← hy_ch]; exact hc62), ← hy_ch]))).2) k) ?_
    show GoesW _ _ _ _ _ _ _ (T198.setTop (mkF m 188 #[.val (.int u0), .val (.int u1), .val (.int u2), .val (.int u3), .val (.int u4), .val (.int cd), .val (.int ax), .val (.int ar), .val (.int ch), .val (.int (0 : Int32)), .val (.ref b131), .val (.long ((ch - (48 : Int32)).toInt64)), .second, .val (.long ((f6 (ff ax.toNatClampNeg) (ff (ax + (3 : Int32)).toNatClampNeg)).toInt64)), .second] []))
    refine GoesW.of (fun t k => XS.iconst X198.here hx rfl (hb hby at_188) k) ?_
    show GoesW _ _ _ _ _ _ _ (T198.setTop (mkF m 189 #[.val (.int u0), .val (.int u1), .val (.int u2), .val (.int u3), .val (.int u4), .val (.int cd), .val (.int ax), .val (.int ar), .val (.int ch), .val (.int (0 : Int32)), .val (.ref b131), .val (.long ((ch - (48 : Int32)).toInt64)), .second, .val (.long ((f6 (ff ax.toNatClampNeg) (ff (ax + (3 : Int32)).toNatClampNeg)).toInt64)), .second] [(.int (1 : Int32))]))
    refine GoesW.of (fun t k => XS.goto X198.here hx rfl (pc0 := 189) (pc' := 193) rfl (hb hby at_189) (by decide) (by decide) k) ?_
    show GoesW _ _ _ _ _ _ _ (T198.setTop (mkF m 193 #[.val (.int u0), .val (.int u1), .val (.int u2), .val (.int u3), .val (.int u4), .val (.int cd), .val (.int ax), .val (.int ar), .val (.int ch), .val (.int (0 : Int32)), .val (.ref b131), .val (.long ((ch - (48 : Int32)).toInt64)), .second, .val (.long ((f6 (ff ax.toNatClampNeg) (ff (ax + (3 : Int32)).toNatClampNeg)).toInt64)), .second] [(.int (1 : Int32))]))
    exact GoesW.fin X198 hlk hSw (by rw [e198]; exact hkw) (v := some (.int (1 : Int32))) (fun h => by rw [Bd.returns] at h; cases h) (fun fs hr => retN X198 hx (t := .boolean) Bd.returns (by simp) (hb hby at_193) hr) ⟨rfl, N198⟩ (by decide) (by decide)
theorem own_ne0 {args : Array Value} {s : State} {t : Term} {w : Int32} (h : (Jvm.Cond.not (Jvm.Cond.eq t (.int 0))).value args s none s [] = some true) (ht : t.eval args s none [] s = some (.int w)) : ¬ w = 0 := fun q => by
  have h1 := not_v h
  subst q
  rw [eq_i ht (Term.int_eval 0) rfl] at h1
  exact absurd h1 (by decide)
set_option maxRecDepth 65536 in
set_option maxHeartbeats 40000000 in
theorem comes_1 {Post : Tables → Env → Array Value → State → Outcome → State → Prop} (hpost : ∀ tb e args s v u, (limb_1_1.after args s (.returned v) u = true ∧ limb_1_2.after args s (.returned v) u = true ∧ True) → FramedW s (.returned v) u (Jvm.fieldLocs frame_1_writes args s ++ Jvm.arrayLocs frame_1_arrays args s ++ Jvm.staticLocs frame_1_statics s) 16 1152 → Post tb e args s (.returned v) u) :
    ArmFor flags0 classFile x code maxLocals ret World_1 tables_1 room_1 Calls_1 rest_1 Pre_1 Post := by
  intro l hfl _ _ p e ha hc hk s m args below hf hA hF happ hP
  obtain ⟨hcalls, hrest, hpre⟩ := hP
  obtain ⟨-, -, -, hnamed, -, -, -, hat⟩ := (Spec.applies_iff hf).mp happ
  obtain ⟨hg, hn⟩ := and_e (Cond.before_iff.mp (show (Jvm.Cond.and given_1 narrow_1).before args s = true from hpre))
  obtain ⟨g199, g200⟩ := and_e hg
  obtain ⟨g201, g202⟩ := and_e g200
  obtain ⟨g203, g204⟩ := and_e g202
  obtain ⟨g205, g206⟩ := and_e g204
  obtain ⟨g207, g208⟩ := and_e g206
  obtain ⟨w0, w1, w2, w3, w4, rfl⟩ : ∃ w0 w1 w2 w3 w4 : Value, args = #[w0, w1, w2, w3, w4] := by
    have hs : args.size = 5 := by simpa [Cond.value, given_1] using g199
    obtain ⟨L⟩ := args
    match L, hs with
    | [w0, w1, w2, w3, w4], _ => exact ⟨w0, w1, w2, w3, w4, rfl⟩
  have hw := fun d (hd : d ∈ tables_1) => atoms_spec (ws := Jvm.Cond.code x code maxLocals ret :: tables_1) hat d (List.mem_cons_of_mem _ hd)
  obtain ⟨hsets, hown0⟩ := atoms_of _ (rest_1_c_eq ▸ (show rest_1_c.before _ s = true from hrest))
  obtain ⟨cs, vcs⟩ := is_v (Cond.before_iff.mp (hsets _ (List.mem_of_getElem? (i := 1) rfl)))
  have hcs := own_ne0 (Cond.before_iff.mp (hsets _ (List.mem_of_getElem? (i := 2) rfl))) vcs
  have S1 := Sta.start vcs (Or.inl (hsets _ (List.mem_of_getElem? (i := 0) rfl)))
  obtain ⟨fm, vfm, hfm⟩ := isR_v (Cond.before_iff.mp (hsets _ (List.mem_of_getElem? (i := 8) rfl)))
  have S2 := Sta.start vfm (Or.inl (hsets _ (List.mem_of_getElem? (i := 7) rfl)))
  have hheld : Jvm.Lit.constHeld s "com/example/dutiful_logic/dutifullogic/OpLengthPinLaw" 11 := hcalls.1 ("com/example/dutiful_logic/dutifullogic/OpLengthPinLaw", 11) (by simp [consts_1])
  obtain ⟨i0, ei0⟩ := is_v g201
  obtain rfl : w0 = (.int i0) := Option.some.inj ei0
  obtain ⟨i1, ei1⟩ := is_v g203
  obtain rfl : w1 = (.int i1) := Option.some.inj ei1
  obtain ⟨i2, ei2⟩ := is_v g205
  obtain rfl : w2 = (.int i2) := Option.some.inj ei2
  obtain ⟨i3, ei3⟩ := is_v g207
  obtain rfl : w3 = (.int i3) := Option.some.inj ei3
  obtain ⟨i4, ei4⟩ := is_v g208
  obtain rfl : w4 = (.int i4) := Option.some.inj ei4
  obtain ⟨n, o, h1, h2, h3, _, L, rfl, ⟨rfl, N⟩, hq⟩ := rm0 l s _ hw tables_1 i0 i1 i2 i3 i4 cs fm s.heap s.heap.size (Nat.le_refl _) rfl S1 hcs hfm S2 hheld (hsets _ (List.mem_of_getElem? (i := 2) rfl)) p e ha hc hk s m _ below hf ((Spec.applies_iff_loose hf).mp happ).1 ⟨rfl, rfl⟩ trivial
  exact ⟨n, _, h1, h2, h3, hpost _ _ _ _ _ _ ⟨Cond.after_iff.mpr rfl, Cond.after_iff.mpr (eq_i res_at (Term.int_eval (1)) rfl), trivial⟩ ⟨hq.1, hq.2.1, hq.2.2.1, (hq.2.2.2.sift fun y hy => Or.inr (N y hy)).mono (by decide) (by decide)⟩⟩
theorem main_1_1 : Claimed_1_1 := comes_1 fun _ _ _ _ _ _ h hF => ⟨h.1, hF⟩
theorem main_1_2 : Claimed_1_2 := comes_1 fun _ _ _ _ _ _ h hF => ⟨h.2.1, hF⟩
end Jvm.Pilot.@@N@@
namespace Jvm.Pilot.@@N@@
open Jvm Jvm.ClassFile Sem Op Lib Jvm.Free Jvm.Stand Jvm.Pilot.@@N@@.Jvm.D
/-! MADE BY PROGRAM (witnessworld.py) out of the Statement's table words and the real class files: 17 classes; the members and pool entries that the words name. The judged class is class 1, her method 1. -/
namespace start1
open Jvm.ClassFile
def u (s : String) : CpInfo := .utf8 (stringToUtf16 s)
/-- a pool by its gaps: so many unusable entries, then the entry; so many at the end -/
def gap : Nat → List CpInfo → List CpInfo
  | 0, r => r
  | n + 1, r => .unusable :: gap n r
def poolList (es : List (Nat × CpInfo)) (last : Nat) : List CpInfo := es.foldr (fun e r => gap e.1 (e.2 :: r)) (gap last [])
def pool (es : List (Nat × CpInfo)) (last : Nat) : Array CpInfo := ⟨poolList es last⟩
def fileOf (pool : Array CpInfo) (this : Nat) (attrs : Array Attribute := #[]) (ms : Array MethodInfo := #[]) (fl : Nat := 33) (sup : Nat := 0) (ifs : Array Nat := #[]) (fds : Array FieldInfo := #[]) : ClassFile where
  minorVersion := 0
  majorVersion := 65
  constantPool := pool
  accessFlags := fl
  thisClass := this
  superClass := sup
  interfaces := ifs
  fields := fds
  methods := ms
  attributes := attrs
def plain (name : String) (sup : Option ClassId) : Class where
  name := name
  kind := .ordinary
  loader := none
  accessFlags := 33
  super := sup
  interfaces := #[]
  cf := none
  fields := #[]
  methods := #[]
  instanceTypes := #[]
  staticTypes := #[]
  resolved := #[]
  callSites := []
  init := .initialized
  statics := none
  mirror := none

def pool0 : Array CpInfo := pool [(5, u "<init>"), (0, u "()V"), (1, .class_ 10), (1, u "java/lang/Object")] 113

def k0m0 : Method := { name := "<init>", desc := "()V", sig := { parameters := [], returnType := none }, accessFlags := 1, code := none }
/-- java/lang/Object -/
def k0 : Class := { plain "java/lang/Object" none with
  accessFlags := 33
  interfaces := #[]
  cf := some (fileOf pool0 8 #[] #[{ accessFlags := 1, nameIndex := 5, descriptorIndex := 6, attributes := #[] }] 33 0 #[] #[])
  fields := #[]
  methods := #[k0m0]
  instanceTypes := #[]
  staticTypes := #[]
  resolved := Array.replicate 124 none
  statics := none }

def pool1 : Array CpInfo := pool [(2, .class_ 4), (1, u "java/lang/Object"), (0, u "<init>"), (0, u "()V"), (0, .integer 2147483647), (0, .integer 65535), (0, .class_ 10), (0, u "com/example/dutiful_logic/dutifullogic/OpLengthPinLaw"), (0, .string 12), (0, u "33333S6222222333332S622122112212223344755132223"), (0, .methodref 14 15), (0, .class_ 16), (0, .nameAndType 17 18), (0, u "java/lang/String"), (0, u "charAt"), (0, u "(I)C"), (0, .long 4), (1, .long 2), (1, .methodref 24 25), (0, .class_ 26), (0, .nameAndType 27 28), (0, u "com/example/dutiful_logic/dutifullogic/Op"), (0, u "length"), (0, u "([II)I"), (0, u "TABLE"), (0, u "Ljava/lang/String;"), (3, u "law"), (0, u "(IIIII)Z")] 5

def k1m0 : Method := { name := "<init>", desc := "()V", sig := { parameters := [], returnType := none }, accessFlags := 2, code := none }
def k1c1 : Code := { maxStack := 6, maxLocals := 15, code := code, exceptionTable := #[], attributes := #[] }
def k1m1 : Method := { name := "law", desc := "(IIIII)Z", sig := { parameters := [.int, .int, .int, .int, .int], returnType := some .boolean }, accessFlags := 9, code := some k1c1 }
/-- com/example/dutiful_logic/dutifullogic/OpLengthPinLaw -/
def k1 : Class := { plain "com/example/dutiful_logic/dutifullogic/OpLengthPinLaw" (some 0) with
  accessFlags := 49
  interfaces := #[]
  cf := some (fileOf pool1 9 #[] #[{ accessFlags := 2, nameIndex := 5, descriptorIndex := 6, attributes := #[] }, { accessFlags := 9, nameIndex := 34, descriptorIndex := 35, attributes := #[] }] 49 2 #[] #[{ accessFlags := 26, nameIndex := 29, descriptorIndex := 30, attributes := #[] }])
  fields := #[{ name := "TABLE", type := (.object "java/lang/String"), accessFlags := 26, slot := 0, constantValue := 0 }]
  methods := #[k1m0, k1m1]
  instanceTypes := #[]
  staticTypes := #[(.object "java/lang/String")]
  resolved := Array.replicate 41 none
  statics := none }

def pool2 : Array CpInfo := pool [(1, .class_ 2), (0, u "java/io/Serializable"), (0, .class_ 4), (0, u "java/lang/Object")] 2

/-- java/io/Serializable -/
def k2 : Class := { plain "java/io/Serializable" (some 0) with
  accessFlags := 1537
  interfaces := #[]
  cf := some (fileOf pool2 1 #[] #[] 1537 3 #[] #[])
  fields := #[]
  methods := #[]
  instanceTypes := #[]
  staticTypes := #[]
  resolved := Array.replicate 7 none
  statics := none }

def pool3 : Array CpInfo := pool [(1, .class_ 2), (0, u "java/lang/Comparable"), (0, .class_ 4), (0, u "java/lang/Object")] 7

/-- java/lang/Comparable -/
def k3 : Class := { plain "java/lang/Comparable" (some 0) with
  accessFlags := 1537
  interfaces := #[]
  cf := some (fileOf pool3 1 #[] #[] 1537 3 #[] #[])
  fields := #[]
  methods := #[]
  instanceTypes := #[]
  staticTypes := #[]
  resolved := Array.replicate 12 none
  statics := none }

def pool4 : Array CpInfo := pool [(2, .class_ 4), (1, u "java/lang/CharSequence"), (42, .class_ 48), (0, u "java/lang/CharSequence$1CodePointIterator"), (10, .class_ 60), (0, u "java/lang/CharSequence$1CharIterator"), (5, .class_ 67), (0, u "java/lang/Object")] 63

/-- java/lang/CharSequence -/
def k4 : Class := { plain "java/lang/CharSequence" (some 0) with
  accessFlags := 1537
  interfaces := #[]
  cf := some (fileOf pool4 2 #[.nestMembers #[47, 59]] #[] 1537 66 #[] #[])
  fields := #[]
  methods := #[]
  instanceTypes := #[]
  staticTypes := #[]
  resolved := Array.replicate 131 none
  statics := none }

def pool5 : Array CpInfo := pool [(1, .class_ 2), (0, u "java/lang/constant/Constable"), (0, .class_ 4), (0, u "java/lang/Object")] 6

/-- java/lang/constant/Constable -/
def k5 : Class := { plain "java/lang/constant/Constable" (some 0) with
  accessFlags := 1537
  interfaces := #[]
  cf := some (fileOf pool5 1 #[] #[] 1537 3 #[] #[])
  fields := #[]
  methods := #[]
  instanceTypes := #[]
  staticTypes := #[]
  resolved := Array.replicate 11 none
  statics := none }

def pool6 : Array CpInfo := pool [(1, .class_ 2), (0, u "java/lang/constant/ConstantDesc"), (0, .class_ 4), (0, u "java/lang/Object")] 32

/-- java/lang/constant/ConstantDesc -/
def k6 : Class := { plain "java/lang/constant/ConstantDesc" (some 0) with
  accessFlags := 1537
  interfaces := #[]
  cf := some (fileOf pool6 1 #[] #[] 1537 3 #[] #[])
  fields := #[]
  methods := #[]
  instanceTypes := #[]
  staticTypes := #[]
  resolved := Array.replicate 37 none
  statics := none }

def pool7 : Array CpInfo := pool [(2, .class_ 4), (1, u "java/lang/Object"), (0, u "<init>"), (0, u "()V"), (2, .fieldref 10 11), (0, .class_ 12), (0, .nameAndType 13 14), (0, u "java/lang/String"), (0, u "value"), (0, u "[B"), (0, .fieldref 10 16), (0, .nameAndType 17 18), (0, u "coder"), (0, u "B"), (2, u "hash"), (0, u "I"), (2, u "hashIsZero"), (0, u "Z"), (11, .fieldref 10 39), (0, .nameAndType 40 26), (0, u "COMPACT_STRINGS"), (66, .class_ 109), (1, u "java/lang/StringLatin1"), (32, u "()Z"), (220, u "([BI)C"), (27, u "(II)V"), (35, u "(I)C"), (64, .methodref 10 493), (0, .nameAndType 494 142), (0, u "isLatin1"), (0, .methodref 107 496), (0, .nameAndType 497 363), (0, u "charAt"), (3, u "checkIndex"), (73, .class_ 576), (0, u "java/lang/CharSequence"), (22, u "CASE_INSENSITIVE_ORDER"), (0, u "Ljava/util/Comparator;"), (452, .fieldref 1054 1055), (0, .class_ 1056), (0, .nameAndType 1057 1058), (0, u "jdk/internal/util/Preconditions"), (0, u "SIOOBE_FORMATTER"), (0, u "Ljava/util/function/BiFunction;"), (0, .methodref 1054 1060), (0, .nameAndType 501 1061), (0, u "(IILjava/util/function/BiFunction;)I"), (39, u "serialPersistentFields"), (0, u "[Ljava/io/ObjectStreamField;"), (0, .class_ 1104), (0, u "java/lang/String$CaseInsensitiveComparator"), (1, .class_ 1107), (0, u "java/io/Serializable"), (0, .class_ 1109), (0, u "java/lang/Comparable"), (0, .class_ 1111), (0, u "java/lang/constant/Constable"), (0, .class_ 1113), (0, u "java/lang/constant/ConstantDesc"), (2, u "serialVersionUID"), (0, u "J"), (3, u "REPL"), (0, u "C"), (2, u "LATIN1"), (1, u "UTF16")] 323

def k7m0 : Method := { name := "<init>", desc := "()V", sig := { parameters := [], returnType := none }, accessFlags := 1, code := none }
def k7c1 : Code := { maxStack := 2, maxLocals := 2, code := jdk_42_method_56_code, exceptionTable := #[], attributes := #[] }
def k7m1 : Method := { name := "charAt", desc := "(I)C", sig := { parameters := [.int], returnType := some .char }, accessFlags := 1, code := some k7c1 }
def k7c2 : Code := { maxStack := 1, maxLocals := 1, code := jdk_42_method_154_code, exceptionTable := #[], attributes := #[] }
def k7m2 : Method := { name := "isLatin1", desc := "()Z", sig := { parameters := [], returnType := some .boolean }, accessFlags := 0, code := some k7c2 }
def k7c3 : Code := { maxStack := 3, maxLocals := 2, code := jdk_42_method_155_code, exceptionTable := #[], attributes := #[] }
def k7m3 : Method := { name := "checkIndex", desc := "(II)V", sig := { parameters := [.int, .int], returnType := none }, accessFlags := 8, code := some k7c3 }
/-- java/lang/String -/
def k7 : Class := { plain "java/lang/String" (some 0) with
  accessFlags := 49
  interfaces := #[2, 3, 4, 5, 6]
  cf := some (fileOf pool7 10 #[.nestMembers #[1103]] #[{ accessFlags := 1, nameIndex := 5, descriptorIndex := 6, attributes := #[] }, { accessFlags := 1, nameIndex := 497, descriptorIndex := 427, attributes := #[] }, { accessFlags := 0, nameIndex := 494, descriptorIndex := 142, attributes := #[] }, { accessFlags := 8, nameIndex := 501, descriptorIndex := 391, attributes := #[] }] 49 2 #[1106, 1108, 575, 1110, 1112] #[{ accessFlags := 18, nameIndex := 13, descriptorIndex := 14, attributes := #[] }, { accessFlags := 18, nameIndex := 17, descriptorIndex := 18, attributes := #[] }, { accessFlags := 2, nameIndex := 21, descriptorIndex := 22, attributes := #[] }, { accessFlags := 2, nameIndex := 25, descriptorIndex := 26, attributes := #[] }, { accessFlags := 26, nameIndex := 1116, descriptorIndex := 1117, attributes := #[] }, { accessFlags := 24, nameIndex := 40, descriptorIndex := 26, attributes := #[] }, { accessFlags := 26, nameIndex := 1101, descriptorIndex := 1102, attributes := #[] }, { accessFlags := 26, nameIndex := 1121, descriptorIndex := 1122, attributes := #[] }, { accessFlags := 25, nameIndex := 599, descriptorIndex := 600, attributes := #[] }, { accessFlags := 24, nameIndex := 1125, descriptorIndex := 18, attributes := #[] }, { accessFlags := 24, nameIndex := 1127, descriptorIndex := 18, attributes := #[] }])
  fields := #[{ name := "value", type := (.array .byte), accessFlags := 18, slot := 0, constantValue := 0 }, { name := "coder", type := .byte, accessFlags := 18, slot := 1, constantValue := 0 }, { name := "hash", type := .int, accessFlags := 2, slot := 2, constantValue := 0 }, { name := "hashIsZero", type := .boolean, accessFlags := 2, slot := 3, constantValue := 0 }, { name := "serialVersionUID", type := .long, accessFlags := 26, slot := 0, constantValue := 0 }, { name := "COMPACT_STRINGS", type := .boolean, accessFlags := 24, slot := 1, constantValue := 0 }, { name := "serialPersistentFields", type := (.array (.object "java/io/ObjectStreamField")), accessFlags := 26, slot := 2, constantValue := 0 }, { name := "REPL", type := .char, accessFlags := 26, slot := 3, constantValue := 0 }, { name := "CASE_INSENSITIVE_ORDER", type := (.object "java/util/Comparator"), accessFlags := 25, slot := 4, constantValue := 0 }, { name := "LATIN1", type := .byte, accessFlags := 24, slot := 5, constantValue := 0 }, { name := "UTF16", type := .byte, accessFlags := 24, slot := 6, constantValue := 0 }]
  methods := #[k7m0, k7m1, k7m2, k7m3]
  instanceTypes := #[(.array .byte), .byte, .int, .boolean]
  staticTypes := #[.long, .boolean, (.array (.object "java/io/ObjectStreamField")), .char, (.object "java/util/Comparator"), .byte, .byte]
  resolved := Array.replicate 1451 none
  statics := some 0 }

def pool8 : Array CpInfo := pool [(1, .class_ 2), (0, u "java/lang/String"), (1, .class_ 6), (1, u "java/lang/Object"), (0, u "<init>"), (0, u "()V"), (0, .methodref 1 10), (0, .nameAndType 11 12), (0, u "checkIndex"), (0, u "(II)V"), (1, .class_ 16), (1, u "java/lang/StringLatin1"), (36, u "([BI)C"), (67, u "$assertionsDisabled"), (0, u "Z"), (98, .class_ 223), (1, u "java/lang/StringLatin1$LinesSpliterator"), (28, u "charAt"), (137, .class_ 391), (0, u "java/lang/StringLatin1$CharsSpliterator")] 3

def k8m0 : Method := { name := "<init>", desc := "()V", sig := { parameters := [], returnType := none }, accessFlags := 0, code := none }
def k8c1 : Code := { maxStack := 2, maxLocals := 2, code := jdk_43_method_2_code, exceptionTable := #[], attributes := #[] }
def k8m1 : Method := { name := "charAt", desc := "([BI)C", sig := { parameters := [(.array .byte), .int], returnType := some .char }, accessFlags := 9, code := some k8c1 }
/-- java/lang/StringLatin1 -/
def k8 : Class := { plain "java/lang/StringLatin1" (some 0) with
  accessFlags := 48
  interfaces := #[]
  cf := some (fileOf pool8 14 #[.nestMembers #[390, 221]] #[{ accessFlags := 0, nameIndex := 7, descriptorIndex := 8, attributes := #[] }, { accessFlags := 9, nameIndex := 252, descriptorIndex := 53, attributes := #[] }] 48 4 #[] #[{ accessFlags := 4120, nameIndex := 121, descriptorIndex := 122, attributes := #[] }])
  fields := #[{ name := "$assertionsDisabled", type := .boolean, accessFlags := 4120, slot := 0, constantValue := 0 }]
  methods := #[k8m0, k8m1]
  instanceTypes := #[]
  staticTypes := #[.boolean]
  resolved := Array.replicate 395 none
  statics := none }

def pool9 : Array CpInfo := pool [(2, .class_ 4), (1, u "java/lang/Object"), (0, u "<init>"), (0, u "()V"), (17, .class_ 26), (1, u "jdk/internal/util/Preconditions"), (6, u "checkIndex"), (21, .class_ 56), (0, u "jdk/internal/util/Preconditions$4"), (57, .class_ 115), (0, u "jdk/internal/util/Preconditions$1"), (7, u "SIOOBE_FORMATTER"), (0, u "Ljava/util/function/BiFunction;"), (0, .class_ 126), (0, u "jdk/internal/util/Preconditions$2"), (3, u "AIOOBE_FORMATTER"), (0, .class_ 132), (0, u "jdk/internal/util/Preconditions$3"), (3, u "IOOBE_FORMATTER"), (41, u "(IILjava/util/function/BiFunction;)I")] 15

def k9m0 : Method := { name := "<init>", desc := "()V", sig := { parameters := [], returnType := none }, accessFlags := 1, code := none }
def k9c1 : Code := { maxStack := 3, maxLocals := 3, code := jdk_41_method_11_code, exceptionTable := #[], attributes := #[] }
def k9m1 : Method := { name := "checkIndex", desc := "(IILjava/util/function/BiFunction;)I", sig := { parameters := [.int, .int, (.object "java/util/function/BiFunction")], returnType := some .int }, accessFlags := 9, code := some k9c1 }
/-- jdk/internal/util/Preconditions -/
def k9 : Class := { plain "jdk/internal/util/Preconditions" (some 0) with
  accessFlags := 33
  interfaces := #[]
  cf := some (fileOf pool9 24 #[.nestMembers #[55, 131, 125, 114]] #[{ accessFlags := 1, nameIndex := 5, descriptorIndex := 6, attributes := #[] }, { accessFlags := 9, nameIndex := 33, descriptorIndex := 178, attributes := #[] }] 33 2 #[] #[{ accessFlags := 25, nameIndex := 123, descriptorIndex := 124, attributes := #[] }, { accessFlags := 25, nameIndex := 130, descriptorIndex := 124, attributes := #[] }, { accessFlags := 25, nameIndex := 136, descriptorIndex := 124, attributes := #[] }])
  fields := #[{ name := "SIOOBE_FORMATTER", type := (.object "java/util/function/BiFunction"), accessFlags := 25, slot := 0, constantValue := 0 }, { name := "AIOOBE_FORMATTER", type := (.object "java/util/function/BiFunction"), accessFlags := 25, slot := 1, constantValue := 0 }, { name := "IOOBE_FORMATTER", type := (.object "java/util/function/BiFunction"), accessFlags := 25, slot := 2, constantValue := 0 }]
  methods := #[k9m0, k9m1]
  instanceTypes := #[]
  staticTypes := #[(.object "java/util/function/BiFunction"), (.object "java/util/function/BiFunction"), (.object "java/util/function/BiFunction")]
  resolved := Array.replicate 194 none
  statics := some 1 }

def pool10 : Array CpInfo := pool [(2, .class_ 4), (1, u "java/lang/Object"), (0, u "<init>"), (0, u "()V"), (0, .class_ 8), (0, u "com/example/dutiful_logic/dutifullogic/Op"), (0, u "GET_X_VAR"), (0, u "I"), (2, u "GET_Y_VAR"), (1, u "GET_X_VAL"), (1, u "GET_Y_VAL"), (1, u "GET_CONST"), (1, u "GET_STRUCT"), (1, u "GET_LIST"), (1, u "UNIFY_X_VAR"), (1, u "UNIFY_Y_VAR"), (1, u "UNIFY_X_VAL"), (1, u "UNIFY_Y_VAL"), (1, u "UNIFY_CONST"), (1, u "UNIFY_VOID"), (1, u "PUT_X_VAR"), (1, u "PUT_Y_VAR"), (1, u "PUT_X_VAL"), (1, u "PUT_Y_VAL"), (1, u "PUT_CONST"), (1, u "PUT_VOID"), (1, u "PUT_STRUCT"), (1, u "PUT_LIST"), (1, u "INIT_Y"), (1, u "ALLOCATE"), (1, u "DEALLOCATE"), (1, u "CALL"), (1, u "EXECUTE"), (1, u "PROCEED"), (1, u "FAIL"), (1, u "GET_LEVEL"), (1, u "SAVE_B"), (1, u "CUT"), (1, u "CUT_Y"), (1, u "TRY_ELSE"), (1, u "JUMP"), (1, u "UNIFY_XX"), (1, u "TEST"), (1, u "COMPARE"), (1, u "EVAL"), (1, u "ARITH2"), (1, u "ARITH1"), (1, u "ARITH_COMPARE"), (1, u "STOP"), (1, u "META_CALL"), (1, u "CATCH_ENTER"), (1, u "CATCH_EXIT"), (1, u "SOLUTION"), (1, u "META_EXECUTE"), (1, u "TEST_VAR"), (0, u "TEST_NONVAR"), (0, u "TEST_ATOM"), (0, u "TEST_INTEGER"), (0, u "TEST_FLOAT"), (0, u "TEST_NUMBER"), (0, u "TEST_ATOMIC"), (0, u "TEST_COMPOUND"), (0, u "TEST_CALLABLE"), (0, u "ORDER_EQUAL"), (0, u "ORDER_NOT_EQUAL"), (0, u "ORDER_LESS"), (0, u "ORDER_NOT_GREATER"), (0, u "ORDER_GREATER"), (0, u "ORDER_NOT_LESS"), (0, u "FN_ADD"), (0, u "FN_SUBTRACT"), (0, u "FN_MULTIPLY"), (0, u "FN_OTHER"), (0, u "FN_QUOTIENT"), (0, u "FN_REMAINDER"), (0, u "FN_MODULO"), (0, u "FN_FLOOR_QUOTIENT"), (0, u "FN_MIN"), (0, u "FN_MAX"), (0, u "FN_AND"), (0, u "FN_OR"), (2, u "length"), (0, u "([II)I")] 5

def k10m0 : Method := { name := "<init>", desc := "()V", sig := { parameters := [], returnType := none }, accessFlags := 2, code := none }
def k10c1 : Code := { maxStack := 5, maxLocals := 3, code := prog_78_method_2_code, exceptionTable := #[], attributes := #[] }
def k10m1 : Method := { name := "length", desc := "([II)I", sig := { parameters := [(.array .int), .int], returnType := some .int }, accessFlags := 8, code := some k10c1 }
/-- com/example/dutiful_logic/dutifullogic/Op -/
def k10 : Class := { plain "com/example/dutiful_logic/dutifullogic/Op" (some 0) with
  accessFlags := 32
  interfaces := #[]
  cf := some (fileOf pool10 7 #[] #[{ accessFlags := 2, nameIndex := 5, descriptorIndex := 6, attributes := #[] }, { accessFlags := 8, nameIndex := 134, descriptorIndex := 135, attributes := #[] }] 32 2 #[] #[{ accessFlags := 24, nameIndex := 9, descriptorIndex := 10, attributes := #[] }, { accessFlags := 24, nameIndex := 13, descriptorIndex := 10, attributes := #[] }, { accessFlags := 24, nameIndex := 15, descriptorIndex := 10, attributes := #[] }, { accessFlags := 24, nameIndex := 17, descriptorIndex := 10, attributes := #[] }, { accessFlags := 24, nameIndex := 19, descriptorIndex := 10, attributes := #[] }, { accessFlags := 24, nameIndex := 21, descriptorIndex := 10, attributes := #[] }, { accessFlags := 24, nameIndex := 23, descriptorIndex := 10, attributes := #[] }, { accessFlags := 24, nameIndex := 25, descriptorIndex := 10, attributes := #[] }, { accessFlags := 24, nameIndex := 27, descriptorIndex := 10, attributes := #[] }, { accessFlags := 24, nameIndex := 29, descriptorIndex := 10, attributes := #[] }, { accessFlags := 24, nameIndex := 31, descriptorIndex := 10, attributes := #[] }, { accessFlags := 24, nameIndex := 33, descriptorIndex := 10, attributes := #[] }, { accessFlags := 24, nameIndex := 35, descriptorIndex := 10, attributes := #[] }, { accessFlags := 24, nameIndex := 37, descriptorIndex := 10, attributes := #[] }, { accessFlags := 24, nameIndex := 39, descriptorIndex := 10, attributes := #[] }, { accessFlags := 24, nameIndex := 41, descriptorIndex := 10, attributes := #[] }, { accessFlags := 24, nameIndex := 43, descriptorIndex := 10, attributes := #[] }, { accessFlags := 24, nameIndex := 45, descriptorIndex := 10, attributes := #[] }, { accessFlags := 24, nameIndex := 47, descriptorIndex := 10, attributes := #[] }, { accessFlags := 24, nameIndex := 49, descriptorIndex := 10, attributes := #[] }, { accessFlags := 24, nameIndex := 51, descriptorIndex := 10, attributes := #[] }, { accessFlags := 24, nameIndex := 53, descriptorIndex := 10, attributes := #[] }, { accessFlags := 24, nameIndex := 55, descriptorIndex := 10, attributes := #[] }, { accessFlags := 24, nameIndex := 57, descriptorIndex := 10, attributes := #[] }, { accessFlags := 24, nameIndex := 59, descriptorIndex := 10, attributes := #[] }, { accessFlags := 24, nameIndex := 61, descriptorIndex := 10, attributes := #[] }, { accessFlags := 24, nameIndex := 63, descriptorIndex := 10, attributes := #[] }, { accessFlags := 24, nameIndex := 65, descriptorIndex := 10, attributes := #[] }, { accessFlags := 24, nameIndex := 67, descriptorIndex := 10, attributes := #[] }, { accessFlags := 24, nameIndex := 69, descriptorIndex := 10, attributes := #[] }, { accessFlags := 24, nameIndex := 71, descriptorIndex := 10, attributes := #[] }, { accessFlags := 24, nameIndex := 73, descriptorIndex := 10, attributes := #[] }, { accessFlags := 24, nameIndex := 75, descriptorIndex := 10, attributes := #[] }, { accessFlags := 24, nameIndex := 77, descriptorIndex := 10, attributes := #[] }, { accessFlags := 24, nameIndex := 79, descriptorIndex := 10, attributes := #[] }, { accessFlags := 24, nameIndex := 81, descriptorIndex := 10, attributes := #[] }, { accessFlags := 24, nameIndex := 83, descriptorIndex := 10, attributes := #[] }, { accessFlags := 24, nameIndex := 85, descriptorIndex := 10, attributes := #[] }, { accessFlags := 24, nameIndex := 87, descriptorIndex := 10, attributes := #[] }, { accessFlags := 24, nameIndex := 89, descriptorIndex := 10, attributes := #[] }, { accessFlags := 24, nameIndex := 91, descriptorIndex := 10, attributes := #[] }, { accessFlags := 24, nameIndex := 93, descriptorIndex := 10, attributes := #[] }, { accessFlags := 24, nameIndex := 95, descriptorIndex := 10, attributes := #[] }, { accessFlags := 24, nameIndex := 97, descriptorIndex := 10, attributes := #[] }, { accessFlags := 24, nameIndex := 99, descriptorIndex := 10, attributes := #[] }, { accessFlags := 24, nameIndex := 101, descriptorIndex := 10, attributes := #[] }, { accessFlags := 24, nameIndex := 103, descriptorIndex := 10, attributes := #[] }, { accessFlags := 24, nameIndex := 105, descriptorIndex := 10, attributes := #[] }, { accessFlags := 24, nameIndex := 106, descriptorIndex := 10, attributes := #[] }, { accessFlags := 24, nameIndex := 107, descriptorIndex := 10, attributes := #[] }, { accessFlags := 24, nameIndex := 108, descriptorIndex := 10, attributes := #[] }, { accessFlags := 24, nameIndex := 109, descriptorIndex := 10, attributes := #[] }, { accessFlags := 24, nameIndex := 110, descriptorIndex := 10, attributes := #[] }, { accessFlags := 24, nameIndex := 111, descriptorIndex := 10, attributes := #[] }, { accessFlags := 24, nameIndex := 112, descriptorIndex := 10, attributes := #[] }, { accessFlags := 24, nameIndex := 113, descriptorIndex := 10, attributes := #[] }, { accessFlags := 24, nameIndex := 114, descriptorIndex := 10, attributes := #[] }, { accessFlags := 24, nameIndex := 115, descriptorIndex := 10, attributes := #[] }, { accessFlags := 24, nameIndex := 116, descriptorIndex := 10, attributes := #[] }, { accessFlags := 24, nameIndex := 117, descriptorIndex := 10, attributes := #[] }, { accessFlags := 24, nameIndex := 118, descriptorIndex := 10, attributes := #[] }, { accessFlags := 24, nameIndex := 119, descriptorIndex := 10, attributes := #[] }, { accessFlags := 24, nameIndex := 120, descriptorIndex := 10, attributes := #[] }, { accessFlags := 24, nameIndex := 121, descriptorIndex := 10, attributes := #[] }, { accessFlags := 24, nameIndex := 122, descriptorIndex := 10, attributes := #[] }, { accessFlags := 24, nameIndex := 123, descriptorIndex := 10, attributes := #[] }, { accessFlags := 24, nameIndex := 124, descriptorIndex := 10, attributes := #[] }, { accessFlags := 24, nameIndex := 125, descriptorIndex := 10, attributes := #[] }, { accessFlags := 24, nameIndex := 126, descriptorIndex := 10, attributes := #[] }, { accessFlags := 24, nameIndex := 127, descriptorIndex := 10, attributes := #[] }, { accessFlags := 24, nameIndex := 128, descriptorIndex := 10, attributes := #[] }, { accessFlags := 24, nameIndex := 129, descriptorIndex := 10, attributes := #[] }, { accessFlags := 24, nameIndex := 130, descriptorIndex := 10, attributes := #[] }, { accessFlags := 24, nameIndex := 131, descriptorIndex := 10, attributes := #[] }])
  fields := #[{ name := "GET_X_VAR", type := .int, accessFlags := 24, slot := 0, constantValue := 0 }, { name := "GET_Y_VAR", type := .int, accessFlags := 24, slot := 1, constantValue := 0 }, { name := "GET_X_VAL", type := .int, accessFlags := 24, slot := 2, constantValue := 0 }, { name := "GET_Y_VAL", type := .int, accessFlags := 24, slot := 3, constantValue := 0 }, { name := "GET_CONST", type := .int, accessFlags := 24, slot := 4, constantValue := 0 }, { name := "GET_STRUCT", type := .int, accessFlags := 24, slot := 5, constantValue := 0 }, { name := "GET_LIST", type := .int, accessFlags := 24, slot := 6, constantValue := 0 }, { name := "UNIFY_X_VAR", type := .int, accessFlags := 24, slot := 7, constantValue := 0 }, { name := "UNIFY_Y_VAR", type := .int, accessFlags := 24, slot := 8, constantValue := 0 }, { name := "UNIFY_X_VAL", type := .int, accessFlags := 24, slot := 9, constantValue := 0 }, { name := "UNIFY_Y_VAL", type := .int, accessFlags := 24, slot := 10, constantValue := 0 }, { name := "UNIFY_CONST", type := .int, accessFlags := 24, slot := 11, constantValue := 0 }, { name := "UNIFY_VOID", type := .int, accessFlags := 24, slot := 12, constantValue := 0 }, { name := "PUT_X_VAR", type := .int, accessFlags := 24, slot := 13, constantValue := 0 }, { name := "PUT_Y_VAR", type := .int, accessFlags := 24, slot := 14, constantValue := 0 }, { name := "PUT_X_VAL", type := .int, accessFlags := 24, slot := 15, constantValue := 0 }, { name := "PUT_Y_VAL", type := .int, accessFlags := 24, slot := 16, constantValue := 0 }, { name := "PUT_CONST", type := .int, accessFlags := 24, slot := 17, constantValue := 0 }, { name := "PUT_VOID", type := .int, accessFlags := 24, slot := 18, constantValue := 0 }, { name := "PUT_STRUCT", type := .int, accessFlags := 24, slot := 19, constantValue := 0 }, { name := "PUT_LIST", type := .int, accessFlags := 24, slot := 20, constantValue := 0 }, { name := "INIT_Y", type := .int, accessFlags := 24, slot := 21, constantValue := 0 }, { name := "ALLOCATE", type := .int, accessFlags := 24, slot := 22, constantValue := 0 }, { name := "DEALLOCATE", type := .int, accessFlags := 24, slot := 23, constantValue := 0 }, { name := "CALL", type := .int, accessFlags := 24, slot := 24, constantValue := 0 }, { name := "EXECUTE", type := .int, accessFlags := 24, slot := 25, constantValue := 0 }, { name := "PROCEED", type := .int, accessFlags := 24, slot := 26, constantValue := 0 }, { name := "FAIL", type := .int, accessFlags := 24, slot := 27, constantValue := 0 }, { name := "GET_LEVEL", type := .int, accessFlags := 24, slot := 28, constantValue := 0 }, { name := "SAVE_B", type := .int, accessFlags := 24, slot := 29, constantValue := 0 }, { name := "CUT", type := .int, accessFlags := 24, slot := 30, constantValue := 0 }, { name := "CUT_Y", type := .int, accessFlags := 24, slot := 31, constantValue := 0 }, { name := "TRY_ELSE", type := .int, accessFlags := 24, slot := 32, constantValue := 0 }, { name := "JUMP", type := .int, accessFlags := 24, slot := 33, constantValue := 0 }, { name := "UNIFY_XX", type := .int, accessFlags := 24, slot := 34, constantValue := 0 }, { name := "TEST", type := .int, accessFlags := 24, slot := 35, constantValue := 0 }, { name := "COMPARE", type := .int, accessFlags := 24, slot := 36, constantValue := 0 }, { name := "EVAL", type := .int, accessFlags := 24, slot := 37, constantValue := 0 }, { name := "ARITH2", type := .int, accessFlags := 24, slot := 38, constantValue := 0 }, { name := "ARITH1", type := .int, accessFlags := 24, slot := 39, constantValue := 0 }, { name := "ARITH_COMPARE", type := .int, accessFlags := 24, slot := 40, constantValue := 0 }, { name := "STOP", type := .int, accessFlags := 24, slot := 41, constantValue := 0 }, { name := "META_CALL", type := .int, accessFlags := 24, slot := 42, constantValue := 0 }, { name := "CATCH_ENTER", type := .int, accessFlags := 24, slot := 43, constantValue := 0 }, { name := "CATCH_EXIT", type := .int, accessFlags := 24, slot := 44, constantValue := 0 }, { name := "SOLUTION", type := .int, accessFlags := 24, slot := 45, constantValue := 0 }, { name := "META_EXECUTE", type := .int, accessFlags := 24, slot := 46, constantValue := 0 }, { name := "TEST_VAR", type := .int, accessFlags := 24, slot := 47, constantValue := 0 }, { name := "TEST_NONVAR", type := .int, accessFlags := 24, slot := 48, constantValue := 0 }, { name := "TEST_ATOM", type := .int, accessFlags := 24, slot := 49, constantValue := 0 }, { name := "TEST_INTEGER", type := .int, accessFlags := 24, slot := 50, constantValue := 0 }, { name := "TEST_FLOAT", type := .int, accessFlags := 24, slot := 51, constantValue := 0 }, { name := "TEST_NUMBER", type := .int, accessFlags := 24, slot := 52, constantValue := 0 }, { name := "TEST_ATOMIC", type := .int, accessFlags := 24, slot := 53, constantValue := 0 }, { name := "TEST_COMPOUND", type := .int, accessFlags := 24, slot := 54, constantValue := 0 }, { name := "TEST_CALLABLE", type := .int, accessFlags := 24, slot := 55, constantValue := 0 }, { name := "ORDER_EQUAL", type := .int, accessFlags := 24, slot := 56, constantValue := 0 }, { name := "ORDER_NOT_EQUAL", type := .int, accessFlags := 24, slot := 57, constantValue := 0 }, { name := "ORDER_LESS", type := .int, accessFlags := 24, slot := 58, constantValue := 0 }, { name := "ORDER_NOT_GREATER", type := .int, accessFlags := 24, slot := 59, constantValue := 0 }, { name := "ORDER_GREATER", type := .int, accessFlags := 24, slot := 60, constantValue := 0 }, { name := "ORDER_NOT_LESS", type := .int, accessFlags := 24, slot := 61, constantValue := 0 }, { name := "FN_ADD", type := .int, accessFlags := 24, slot := 62, constantValue := 0 }, { name := "FN_SUBTRACT", type := .int, accessFlags := 24, slot := 63, constantValue := 0 }, { name := "FN_MULTIPLY", type := .int, accessFlags := 24, slot := 64, constantValue := 0 }, { name := "FN_OTHER", type := .int, accessFlags := 24, slot := 65, constantValue := 0 }, { name := "FN_QUOTIENT", type := .int, accessFlags := 24, slot := 66, constantValue := 0 }, { name := "FN_REMAINDER", type := .int, accessFlags := 24, slot := 67, constantValue := 0 }, { name := "FN_MODULO", type := .int, accessFlags := 24, slot := 68, constantValue := 0 }, { name := "FN_FLOOR_QUOTIENT", type := .int, accessFlags := 24, slot := 69, constantValue := 0 }, { name := "FN_MIN", type := .int, accessFlags := 24, slot := 70, constantValue := 0 }, { name := "FN_MAX", type := .int, accessFlags := 24, slot := 71, constantValue := 0 }, { name := "FN_AND", type := .int, accessFlags := 24, slot := 72, constantValue := 0 }, { name := "FN_OR", type := .int, accessFlags := 24, slot := 73, constantValue := 0 }]
  methods := #[k10m0, k10m1]
  instanceTypes := #[]
  staticTypes := #[.int, .int, .int, .int, .int, .int, .int, .int, .int, .int, .int, .int, .int, .int, .int, .int, .int, .int, .int, .int, .int, .int, .int, .int, .int, .int, .int, .int, .int, .int, .int, .int, .int, .int, .int, .int, .int, .int, .int, .int, .int, .int, .int, .int, .int, .int, .int, .int, .int, .int, .int, .int, .int, .int, .int, .int, .int, .int, .int, .int, .int, .int, .int, .int, .int, .int, .int, .int, .int, .int, .int, .int, .int, .int]
  resolved := Array.replicate 141 none
  statics := none }

def pool11 : Array CpInfo := pool [(9, u "<init>"), (6, .class_ 18), (1, u "java/lang/Object"), (0, u "()V"), (1, .class_ 23), (1, u "jdk/internal/util/ArraysSupport"), (0, u "LOG2_ARRAY_LONG_INDEX_SCALE"), (0, u "I"), (2, u "U"), (0, u "Ljdk/internal/misc/Unsafe;"), (8, u "BIG_ENDIAN"), (0, u "Z"), (8, u "LOG2_BYTE_BIT_SIZE"), (4, u "LOG2_ARRAY_INT_INDEX_SCALE"), (54, u "JLA"), (0, u "Ljdk/internal/access/JavaLangAccess;"), (11, u "LOG2_ARRAY_BOOLEAN_INDEX_SCALE"), (9, u "LOG2_ARRAY_BYTE_INDEX_SCALE"), (5, u "LOG2_ARRAY_CHAR_INDEX_SCALE"), (5, u "LOG2_ARRAY_SHORT_INDEX_SCALE"), (18, u "LOG2_ARRAY_FLOAT_INDEX_SCALE"), (24, u "LOG2_ARRAY_DOUBLE_INDEX_SCALE"), (89, u "T_BOOLEAN"), (2, u "T_CHAR"), (1, u "T_FLOAT"), (1, u "T_DOUBLE"), (1, u "T_BYTE"), (1, u "T_SHORT"), (1, u "T_INT"), (1, u "T_LONG"), (1, u "SOFT_MAX_ARRAY_LENGTH")] 83

def k11m0 : Method := { name := "<init>", desc := "()V", sig := { parameters := [], returnType := none }, accessFlags := 2, code := none }
/-- jdk/internal/util/ArraysSupport -/
def k11 : Class := { plain "jdk/internal/util/ArraysSupport" (some 0) with
  accessFlags := 33
  interfaces := #[]
  cf := some (fileOf pool11 21 #[] #[{ accessFlags := 2, nameIndex := 9, descriptorIndex := 19, attributes := #[] }] 33 16 #[] #[{ accessFlags := 24, nameIndex := 28, descriptorIndex := 29, attributes := #[] }, { accessFlags := 26, nameIndex := 38, descriptorIndex := 39, attributes := #[] }, { accessFlags := 25, nameIndex := 121, descriptorIndex := 25, attributes := #[] }, { accessFlags := 25, nameIndex := 131, descriptorIndex := 25, attributes := #[] }, { accessFlags := 25, nameIndex := 137, descriptorIndex := 25, attributes := #[] }, { accessFlags := 25, nameIndex := 143, descriptorIndex := 25, attributes := #[] }, { accessFlags := 25, nameIndex := 53, descriptorIndex := 25, attributes := #[] }, { accessFlags := 25, nameIndex := 24, descriptorIndex := 25, attributes := #[] }, { accessFlags := 25, nameIndex := 162, descriptorIndex := 25, attributes := #[] }, { accessFlags := 25, nameIndex := 187, descriptorIndex := 25, attributes := #[] }, { accessFlags := 26, nameIndex := 48, descriptorIndex := 25, attributes := #[] }, { accessFlags := 25, nameIndex := 277, descriptorIndex := 25, attributes := #[] }, { accessFlags := 25, nameIndex := 280, descriptorIndex := 25, attributes := #[] }, { accessFlags := 25, nameIndex := 282, descriptorIndex := 25, attributes := #[] }, { accessFlags := 25, nameIndex := 284, descriptorIndex := 25, attributes := #[] }, { accessFlags := 25, nameIndex := 286, descriptorIndex := 25, attributes := #[] }, { accessFlags := 25, nameIndex := 288, descriptorIndex := 25, attributes := #[] }, { accessFlags := 25, nameIndex := 290, descriptorIndex := 25, attributes := #[] }, { accessFlags := 25, nameIndex := 292, descriptorIndex := 25, attributes := #[] }, { accessFlags := 26, nameIndex := 108, descriptorIndex := 109, attributes := #[] }, { accessFlags := 25, nameIndex := 294, descriptorIndex := 25, attributes := #[] }])
  fields := #[{ name := "U", type := (.object "jdk/internal/misc/Unsafe"), accessFlags := 24, slot := 0, constantValue := 0 }, { name := "BIG_ENDIAN", type := .boolean, accessFlags := 26, slot := 1, constantValue := 0 }, { name := "LOG2_ARRAY_BOOLEAN_INDEX_SCALE", type := .int, accessFlags := 25, slot := 2, constantValue := 0 }, { name := "LOG2_ARRAY_BYTE_INDEX_SCALE", type := .int, accessFlags := 25, slot := 3, constantValue := 0 }, { name := "LOG2_ARRAY_CHAR_INDEX_SCALE", type := .int, accessFlags := 25, slot := 4, constantValue := 0 }, { name := "LOG2_ARRAY_SHORT_INDEX_SCALE", type := .int, accessFlags := 25, slot := 5, constantValue := 0 }, { name := "LOG2_ARRAY_INT_INDEX_SCALE", type := .int, accessFlags := 25, slot := 6, constantValue := 0 }, { name := "LOG2_ARRAY_LONG_INDEX_SCALE", type := .int, accessFlags := 25, slot := 7, constantValue := 0 }, { name := "LOG2_ARRAY_FLOAT_INDEX_SCALE", type := .int, accessFlags := 25, slot := 8, constantValue := 0 }, { name := "LOG2_ARRAY_DOUBLE_INDEX_SCALE", type := .int, accessFlags := 25, slot := 9, constantValue := 0 }, { name := "LOG2_BYTE_BIT_SIZE", type := .int, accessFlags := 26, slot := 10, constantValue := 0 }, { name := "T_BOOLEAN", type := .int, accessFlags := 25, slot := 11, constantValue := 0 }, { name := "T_CHAR", type := .int, accessFlags := 25, slot := 12, constantValue := 0 }, { name := "T_FLOAT", type := .int, accessFlags := 25, slot := 13, constantValue := 0 }, { name := "T_DOUBLE", type := .int, accessFlags := 25, slot := 14, constantValue := 0 }, { name := "T_BYTE", type := .int, accessFlags := 25, slot := 15, constantValue := 0 }, { name := "T_SHORT", type := .int, accessFlags := 25, slot := 16, constantValue := 0 }, { name := "T_INT", type := .int, accessFlags := 25, slot := 17, constantValue := 0 }, { name := "T_LONG", type := .int, accessFlags := 25, slot := 18, constantValue := 0 }, { name := "JLA", type := (.object "jdk/internal/access/JavaLangAccess"), accessFlags := 26, slot := 19, constantValue := 0 }, { name := "SOFT_MAX_ARRAY_LENGTH", type := .int, accessFlags := 25, slot := 20, constantValue := 0 }]
  methods := #[k11m0]
  instanceTypes := #[]
  staticTypes := #[(.object "jdk/internal/misc/Unsafe"), .boolean, .int, .int, .int, .int, .int, .int, .int, .int, .int, .int, .int, .int, .int, .int, .int, .int, .int, (.object "jdk/internal/access/JavaLangAccess"), .int]
  resolved := Array.replicate 378 none
  statics := none }

def pool12 : Array CpInfo := pool [(1, u "java/lang/Cloneable"), (0, .class_ 1), (0, u "java/lang/Object"), (0, .class_ 3)] 3

/-- java/lang/Cloneable -/
def k12 : Class := { plain "java/lang/Cloneable" (some 0) with
  accessFlags := 1537
  interfaces := #[]
  cf := some (fileOf pool12 2 #[] #[] 1537 4 #[] #[])
  fields := #[]
  methods := #[]
  instanceTypes := #[]
  staticTypes := #[]
  resolved := Array.replicate 8 none
  statics := none }

/-- the primitive byte -/
def k13 : Class := { plain "byte" none with kind := .primitive 'B', accessFlags := 0x411 }
/-- [B -/
def k14 : Class := { plain "[B" (some 0) with kind := .array 13 .byte, interfaces := #[12, 2], accessFlags := 1041 }

/-- the primitive int -/
def k15 : Class := { plain "int" none with kind := .primitive 'I', accessFlags := 0x411 }
/-- [I -/
def k16 : Class := { plain "[I" (some 0) with kind := .array 15 .int, interfaces := #[12, 2], accessFlags := 1041 }

def heap : Heap := #[{ cls := 7, slots := #[.long 0, .int 1, .null, .int 0, .null, .int 0, .int 0], vm := .statics 7 },
  { cls := 9, slots := #[.null, .null, .null], vm := .statics 9 }]
def classes : Array Class := #[k0, k1, k2, k3, k4, k5, k6, k7, k8, k9, k10, k11, k12, k13, k14, k15, k16]
def interned : List (Array UInt16 × Addr) := []
def slotsUsed : Nat := 10
def theMethod : MethodId := ⟨1, 1⟩
def args0 : Array Value := #[.int 5, .int 7, .int 3, .int 4, .int 6]
def aboutOver (below : List Frame) : State where
  vm := { classes := classes, interned := interned.toArray }
  heap := heap
  slotsUsed := slotsUsed
  threads := #[{ frames := .invoking theMethod args0 :: below }]
def below0 : List Frame := [.native { method := ⟨0, 0⟩, args := #[] }]
def about1 : State := aboutOver below0
def p0 : Program := .bare "" "" ""
def e0 : Env := launch0.env 0 0 0
theorem w_frames : about1.frames = Frame.invoking theMethod args0 :: below0 := rfl
set_option maxRecDepth 65536 in
theorem w_args : argsFit about1.vm theMethod args0 = true := by decide +kernel
set_option maxRecDepth 65536 in
theorem w_heap : heapFits about1 = true := by decide +kernel
set_option maxRecDepth 65536 in
theorem w_runnable : about1.curStatus? = some .runnable := by decide +kernel
set_option maxRecDepth 65536 in
theorem w_alone : about1.alone = true := by decide +kernel
set_option maxRecDepth 65536 in
theorem w_named : about1.methodNamed? x = some theMethod := by decide +kernel
set_option maxRecDepth 65536 in
theorem w_hears : about1.hears theMethod below0 = true := by decide +kernel
set_option maxRecDepth 65536 in
theorem w_ripe : about1.ripe theMethod args0 below0 = true := by decide +kernel
theorem w_running : about1.status = .running := rfl
set_option maxRecDepth 65536 in
theorem w_room : about1.hasRoom e0.platform room_1 = true :=
  launch0.hasRoom_least _ room_1 (by decide +kernel) (by decide +kernel) (by decide +kernel) (by decide +kernel) (by decide +kernel) (by decide +kernel)
theorem allAtoms_all (ts : List Jvm.Cond) (a : Array Jvm.Value) (st : Jvm.State) : (allAtoms ts).before a st = ts.all (fun c => c.before a st) := by
  induction ts with
  | nil => rfl
  | cons c t ih =>
    show (Jvm.Cond.and c (allAtoms t)).before a st = _
    rw [Jvm.Cond.before_and, ih, List.all_cons]
def words1 : List Jvm.Cond := Jvm.Cond.code x code maxLocals ret :: tables_1
/-- a 'code' word, met by the world's own term for the bytes: nothing is compared byte by byte -/
theorem code_word {y : MethodName} {bytes : ByteArray} {mx : Nat} {rt : Option FieldType} {a : Array Value} {s : State} {m : MethodId} {meth : Method} {c : Code} (h1 : s.methodNamed? y = some m) (h2 : s.vm.method? m = some meth) (h3 : meth.code = some c) (h4 : c.code = bytes)
    (h5 : (c.maxLocals == mx && c.exceptionTable.isEmpty && decide (c.maxStack ≤ mostOperands) && decide (meth.sig.returnType = rt) && !meth.locks && decide (parseMethodDescriptor y.desc = some meth.sig)) = true) : (Jvm.Cond.code y bytes mx rt).before a s = true := by
  simp only [Bool.and_eq_true, beq_iff_eq, Bool.not_eq_true', decide_eq_true_eq] at h5
  obtain ⟨⟨⟨⟨⟨g1, g2⟩, g3⟩, g4⟩, g5⟩, g6⟩ := h5
  simp [Cond.before, Cond.holds, Cond.value, h1, h2, h3, h4, g1, g2, g3, g4, g5, g6]
def isCode : Jvm.Cond → Bool
  | .code _ _ _ _ => true
  | _ => false
theorem all_split {L : List Jvm.Cond} {P : Jvm.Cond → Bool} (h1 : L.all (fun c => isCode c || P c) = true) (h2 : ∀ c ∈ L.filter isCode, P c = true) : L.all P = true := by
  refine List.all_eq_true.mpr fun c hc => ?_
  have h := List.all_eq_true.mp h1 c hc
  rcases Bool.eq_false_or_eq_true (isCode c) with hi | hi
  · exact h2 c (List.mem_filter.mpr ⟨hc, hi⟩)
  · simpa [hi] using h
set_option maxRecDepth 65536 in
theorem w_c0 : (Jvm.Cond.code x code maxLocals ret).before args0 about1 = true := code_word (m := ⟨1, 1⟩) (meth := k1m1) (c := k1c1) (by decide +kernel) rfl rfl rfl (by decide +kernel)
set_option maxRecDepth 65536 in
theorem w_c1 : (Jvm.Cond.code ({ cls := "java/lang/String", name := "charAt", desc := "(I)C" } : Jvm.MethodName) jdk_42_method_56_code (2 : Nat) (Option.some Jvm.ClassFile.FieldType.char)).before args0 about1 = true := code_word (m := ⟨7, 1⟩) (meth := k7m1) (c := k7c1) (by decide +kernel) rfl rfl rfl (by decide +kernel)
set_option maxRecDepth 65536 in
theorem w_c2 : (Jvm.Cond.code ({ cls := "java/lang/String", name := "isLatin1", desc := "()Z" } : Jvm.MethodName) jdk_42_method_154_code (1 : Nat) (Option.some Jvm.ClassFile.FieldType.boolean)).before args0 about1 = true := code_word (m := ⟨7, 2⟩) (meth := k7m2) (c := k7c2) (by decide +kernel) rfl rfl rfl (by decide +kernel)
set_option maxRecDepth 65536 in
theorem w_c3 : (Jvm.Cond.code ({ cls := "java/lang/StringLatin1", name := "charAt", desc := "([BI)C" } : Jvm.MethodName) jdk_43_method_2_code (2 : Nat) (Option.some Jvm.ClassFile.FieldType.char)).before args0 about1 = true := code_word (m := ⟨8, 1⟩) (meth := k8m1) (c := k8c1) (by decide +kernel) rfl rfl rfl (by decide +kernel)
set_option maxRecDepth 65536 in
theorem w_c4 : (Jvm.Cond.code ({ cls := "java/lang/String", name := "checkIndex", desc := "(II)V" } : Jvm.MethodName) jdk_42_method_155_code (2 : Nat) (Option.none : Option Jvm.ClassFile.FieldType)).before args0 about1 = true := code_word (m := ⟨7, 3⟩) (meth := k7m3) (c := k7c3) (by decide +kernel) rfl rfl rfl (by decide +kernel)
set_option maxRecDepth 65536 in
theorem w_c5 : (Jvm.Cond.code ({ cls := "jdk/internal/util/Preconditions", name := "checkIndex", desc := "(IILjava/util/function/BiFunction;)I" } : Jvm.MethodName) jdk_41_method_11_code (3 : Nat) (Option.some Jvm.ClassFile.FieldType.int)).before args0 about1 = true := code_word (m := ⟨9, 1⟩) (meth := k9m1) (c := k9c1) (by decide +kernel) rfl rfl rfl (by decide +kernel)
set_option maxRecDepth 65536 in
theorem w_c6 : (Jvm.Cond.code ({ cls := "com/example/dutiful_logic/dutifullogic/Op", name := "length", desc := "([II)I" } : Jvm.MethodName) prog_78_method_2_code (3 : Nat) (Option.some Jvm.ClassFile.FieldType.int)).before args0 about1 = true := code_word (m := ⟨10, 1⟩) (meth := k10m1) (c := k10c1) (by decide +kernel) rfl rfl rfl (by decide +kernel)
def codes1 : List Jvm.Cond := [Jvm.Cond.code x code maxLocals ret, Jvm.Cond.code ({ cls := "java/lang/String", name := "charAt", desc := "(I)C" } : Jvm.MethodName) jdk_42_method_56_code (2 : Nat) (Option.some Jvm.ClassFile.FieldType.char), Jvm.Cond.code ({ cls := "java/lang/String", name := "isLatin1", desc := "()Z" } : Jvm.MethodName) jdk_42_method_154_code (1 : Nat) (Option.some Jvm.ClassFile.FieldType.boolean), Jvm.Cond.code ({ cls := "java/lang/StringLatin1", name := "charAt", desc := "([BI)C" } : Jvm.MethodName) jdk_43_method_2_code (2 : Nat) (Option.some Jvm.ClassFile.FieldType.char), Jvm.Cond.code ({ cls := "java/lang/String", name := "checkIndex", desc := "(II)V" } : Jvm.MethodName) jdk_42_method_155_code (2 : Nat) (Option.none : Option Jvm.ClassFile.FieldType), Jvm.Cond.code ({ cls := "jdk/internal/util/Preconditions", name := "checkIndex", desc := "(IILjava/util/function/BiFunction;)I" } : Jvm.MethodName) jdk_41_method_11_code (3 : Nat) (Option.some Jvm.ClassFile.FieldType.int), Jvm.Cond.code ({ cls := "com/example/dutiful_logic/dutifullogic/Op", name := "length", desc := "([II)I" } : Jvm.MethodName) prog_78_method_2_code (3 : Nat) (Option.some Jvm.ClassFile.FieldType.int)]
set_option maxRecDepth 65536 in
theorem codes_eq : words1.filter isCode = codes1 := rfl
theorem w_codes : ∀ c ∈ words1.filter isCode, c.before args0 about1 = true := by
  rw [codes_eq]
  intro c hc
  simp only [codes1, List.mem_cons, List.not_mem_nil, or_false] at hc
  rcases hc with rfl | rfl | rfl | rfl | rfl | rfl | rfl
  · exact w_c0
  · exact w_c1
  · exact w_c2
  · exact w_c3
  · exact w_c4
  · exact w_c5
  · exact w_c6
set_option maxRecDepth 65536 in
theorem w_t1 : (words1.take 24).all (fun c => isCode c || c.before args0 about1) = true := by decide +kernel
set_option maxRecDepth 65536 in
theorem w_t2 : (words1.drop 24).all (fun c => isCode c || c.before args0 about1) = true := by decide +kernel
theorem w_tables : (allAtoms (Jvm.Cond.code x code maxLocals ret :: tables_1)).before args0 about1 = true := by
  rw [allAtoms_all]
  show words1.all (fun c => c.before args0 about1) = true
  refine all_split ?_ w_codes
  rw [← List.take_append_drop 24 words1, List.all_append, w_t1, w_t2]
  rfl
set_option maxRecDepth 65536 in
theorem w_rest : rest_1_c.before args0 about1 = true := by decide +kernel
set_option maxRecDepth 65536 in
theorem w_case : (Jvm.Cond.and given_1 narrow_1).before args0 about1 = true := by decide +kernel
set_option maxRecDepth 65536 in
theorem w_consts : constsHeld consts_1 about1 := Jvm.Lit.constsHeldB_iff.mp (by decide +kernel)
theorem w_applies : (headSpec (Jvm.Cond.code x code maxLocals ret :: tables_1) room_1).applies x e0.platform about1 = true :=
  (Spec.applies_iff w_frames).mpr ⟨w_running, w_runnable, w_alone, w_named, w_hears, w_ripe, w_room, w_tables⟩
theorem atStart : AtStart classFile x code maxLocals ret World_1 tables_1 room_1 Calls_1 rest_1 Pre_1 launch0 p0 e0 about1 theMethod args0 below0 :=
  ⟨lists_1, trivial, launch0.admits_env _ _ _, launch0.least_env, fairChoices_fair.cas, fairChoices_fair.clock, w_frames, w_args, w_heap, w_applies, ⟨w_consts, trivial⟩, w_rest, w_case⟩
end start1
theorem witness_1 : WitnessClaimed_1 := ⟨start1.p0, start1.e0, start1.about1, start1.theMethod, start1.args0, start1.below0, start1.atStart⟩
end Jvm.Pilot.@@N@@
