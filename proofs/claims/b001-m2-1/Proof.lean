import JvmDerived
import JvmDerived.Pilot.@@N@@Statement
import JvmDerived.Pilot.@@N@@Code
set_option linter.unusedVariables false
set_option linter.unusedSimpArgs false
namespace Jvm.RoadKit
open Sem ClassFile Op Lib Jvm.Stand Jvm.Free Jvm.LawKit
section New
variable {p : Program} {l : Launch} {e : Env} {R : Room} {s : State} {m : MethodId} {args : Array Value} {below : List Frame} {meth : Method} {c : Code} {T : State} {locs : List Loc} {cells slots : Nat}
theorem retI (X : Stand p l e R s m args below meth c T locs cells slots) (hx : p.tables.exec = Jvm.exec) {pc : Nat} {Ls : Array Slot} {z : Int32} {rest : List Value} (hret : meth.sig.returnType = some .int) (hd : decode c.code pc = .ok (.ireturn, 1)) {fs : List Frame}
    (hl : ∀ (f : JFrame) (acts : List Action), f.method = m → f.locked = none → f.entered = [] → (doReturn e (T.setTop f) acts (some (.int z))).1 = T.setFrames fs) : Steps p.tables e below (T.setTop (mkF m pc Ls (.int z :: rest))) (T.setFrames fs) := by
  have hm' : T.vm.method? m = some meth := X.method'
  have hn : narrow .int (.int z) = .int z := rfl
  show Steps p.tables e below (T.setTop { method := m, pc := pc, locals := Ls, stack := _ :: rest, locked := none }) _
  jvm_step X.here [X.here.top, hx, hd, hm', hret, hn]
  first | (intro acts; rw [hl _ acts rfl rfl rfl]) | rw [hl _ _ rfl rfl rfl]
  exact Steps.refl _
end New
end Jvm.RoadKit
namespace Jvm.Pilot.@@N@@
open Jvm Jvm.ClassFile Sem Op Lib Jvm.Free Jvm.Stand Jvm.LawKit Jvm.RoadKit Bundle Jvm.Pilot.@@N@@.Jvm.D
section OwnKit
variable {p : Program} {l : Launch} {e : Env} {R : Room} {s : State} {m : MethodId} {args : Array Value} {below : List Frame} {meth : Method} {c : Code} {T : State} {locs : List Loc} {cells slots : Nat}
/-- from S the run comes to a return of which F holds -/
def Goes (tb : Tables) (e : Env) (below : List Frame) (s : State) (F : Option Value → Heap → List Loc → Prop) (k n : Nat) (S : State) : Prop :=
  ∃ s₂ o, Steps tb e below S s₂ ∧ s₂.status = .running ∧ Ended s₂ below o ∧ ∃ v L, o = .returned v ∧ F v s₂.heap L ∧ FrameEnd s o s₂ L k n
theorem Goes.of {tb : Tables} {F : Option Value → Heap → List Loc → Prop} {k n : Nat} {S S' : State} (h : ∀ t, Steps tb e below S' t → Steps tb e below S t) (g : Goes tb e below s F k n S') : Goes tb e below s F k n S := by
  obtain ⟨s₂, o, h1, r⟩ := g
  exact ⟨s₂, o, h _ h1, r⟩
theorem Goes.mono {tb : Tables} {F G : Option Value → Heap → List Loc → Prop} {k n : Nat} {S : State} (h : ∀ v h L, F v h L → G v h L) (g : Goes tb e below s F k n S) : Goes tb e below s G k n S := by
  obtain ⟨s₂, o, h1, h2, h3, v, L, h4, h5, h6⟩ := g
  exact ⟨s₂, o, h1, h2, h3, v, L, h4, h _ _ _ h5, h6⟩
theorem Goes.fin (X : Stand p l e R s m args below meth c T locs cells slots) (hlk : meth.locks = false) {v : Option Value} {F : Option Value → Heap → List Loc → Prop} {k n : Nat} {S : State} (hv : meth.sig.returnType = none → v = none)
    (step : ∀ fs, (∀ (f : JFrame) (acts : List Action), f.method = m → f.locked = none → f.entered = [] → (doReturn e (T.setTop f) acts v).1 = T.setFrames fs) → Steps p.tables e below S (T.setFrames fs)) (hF : F v T.heap locs) (hk : cells ≤ k) (hn : slots ≤ n) : Goes p.tables e below s F k n S := by
  obtain ⟨fs, hr, hrun, hended, hW, hsame⟩ := X.leave hv hlk
  exact ⟨_, _, step fs hr, hrun, hended, v, locs, rfl, hF, ⟨_, rfl⟩, hW, hsame.mono hk hn⟩
end OwnKit
theorem d2_0 : decode prog_10_method_7_code 0 = .ok (.lload_n 0, 1) := by decide +kernel
theorem d2_1 : decode prog_10_method_7_code 1 = .ok (.ldc2_w 91, 3) := by decide +kernel
theorem d2_4 : decode prog_10_method_7_code 4 = .ok (.ladd, 1) := by decide +kernel
theorem d2_5 : decode prog_10_method_7_code 5 = .ok (.lconst 1, 1) := by decide +kernel
theorem d2_6 : decode prog_10_method_7_code 6 = .ok (.lsub, 1) := by decide +kernel
theorem d2_7 : decode prog_10_method_7_code 7 = .ok (.ldc2_w 91, 3) := by decide +kernel
theorem d2_10 : decode prog_10_method_7_code 10 = .ok (.ldiv, 1) := by decide +kernel
theorem d2_11 : decode prog_10_method_7_code 11 = .ok (.ldc2_w 91, 3) := by decide +kernel
theorem d2_14 : decode prog_10_method_7_code 14 = .ok (.lmul, 1) := by decide +kernel
theorem d2_15 : decode prog_10_method_7_code 15 = .ok (.lreturn, 1) := by decide +kernel
theorem pn_0 : plainName "com/example/verbguard/verbguard/HeapEstimate" = true := by first | (simp [plainName, overriddenIn]; done) | decide +kernel
theorem ef_2 (m : MethodId) (q1 : Int64) : entryFrame m #[(.long q1)] 2 = mkF m 0 #[.val (.long q1), .second] [] := by first | (simp [entryFrame, mkF, argsToLocals, Value.category]; done) | rfl
def f2 (q1 : Int64) : Int64 :=
  ((((q1 + (8 : Int64)) - (1 : Int64)) / (8 : Int64)) * (8 : Int64))
def Q2 (q1 : Int64) (h0 : Heap) (n0 : Nat) (v : Option Value) (h : Heap) (L : List Loc) : Prop := v = some (.long (f2 q1)) ∧ Fr n0 L ∧ h = h0
set_option maxRecDepth 65536 in
set_option maxHeartbeats 40000000 in
theorem rm2 (l : Launch) (Z : State) (a0 : Array Value) (hw : ∀ d ∈ tables_1, d.before a0 Z = true) (ws : List Jvm.Cond) (q1 : Int64) (h0 : Heap) (n0 : Nat) :
    MetFree l (⟨"com/example/verbguard/verbguard/HeapEstimate", "aligned", "(J)J"⟩ : MethodName) (head1 (Jvm.Cond.code (⟨"com/example/verbguard/verbguard/HeapEstimate", "aligned", "(J)J"⟩ : MethodName) prog_10_method_7_code 2 (some .long) :: ws) ({ frames := 0, cells := 0, slots := 0, locals := 0 } : Room)) (fun a U => a = #[(.long q1)] ∧ Z.Warmed39 U.vm ∧ U.heap = h0) (fun _ _ _ _ _ => True) (fun _ U o U' => ∃ v L, o = .returned v ∧ Q2 q1 h0 n0 v U'.heap L ∧ FrameEnd U o U' L 0 0) := by
  refine MetFree.of_bodySF (plainFor_of_name pn_0) hisR ?_
  intro p e s m args below meth c s₁ Bd hml0 hP hK
  obtain ⟨rfl, hZ, hh⟩ := hP
  have hx := Bd.exec
  have hby := Bd.bytes
  have hlk : meth.locks = false := BodyLoose.notSynchronized Bd
  have hml : c.maxLocals = 2 := hml0
  have hown : s.vm.findClass "com/example/verbguard/verbguard/HeapEstimate" = some m.cls := findClass_of_methodNamed Bd.named
  have X0 : Stand p l e ({ frames := 0, cells := 0, slots := 0, locals := 0 } : Room) s m #[(.long q1)] below meth c s₁ [] 0 0 := Stand.of_body Bd
  have e0 : s₁.heap = h0 := by rw [← hh, Bd.state]; rfl
  have N0 := Fr.nil n0
  show Goes p.tables e below s (Q2 q1 h0 n0) 0 0 (s₁.setTop (entryFrame m #[(.long q1)] 2))
  refine Goes.of (fun t k => castTop (ef_2 m q1) k) ?_
  show Goes _ _ _ _ _ _ _ (s₁.setTop (mkF m 0 #[.val (.long q1), .second] []))
  refine Goes.of (fun t k => XS.lloadN X0.here hx rfl (hb hby d2_0) rfl k) ?_
  show Goes _ _ _ _ _ _ _ (s₁.setTop (mkF m 1 #[.val (.long q1), .second] [(.long q1)]))
  refine Goes.of (fun t k => X0.ldc2Long hx hown (mvT hZ (hw _ (List.mem_of_getElem? (i := 10) rfl))) (g := (mkF m 1 #[.val (.long q1), .second] [(.long q1)])) rfl (hb hby d2_1) t k) ?_
  show Goes _ _ _ _ _ _ _ (s₁.setTop (mkF m 4 #[.val (.long q1), .second] [(.long (8 : Int64)), (.long q1)]))
  refine Goes.of (fun t k => XS.ladd X0.here hx rfl (hb hby d2_4) rfl k) ?_
  show Goes _ _ _ _ _ _ _ (s₁.setTop (mkF m 5 #[.val (.long q1), .second] [(.long (q1 + (8 : Int64)))]))
  refine Goes.of (fun t k => XS.lconst X0.here hx rfl (hb hby d2_5) k) ?_
  show Goes _ _ _ _ _ _ _ (s₁.setTop (mkF m 6 #[.val (.long q1), .second] [(.long (1 : Int64)), (.long (q1 + (8 : Int64)))]))
  refine Goes.of (fun t k => XS.lsub X0.here hx rfl (hb hby d2_6) rfl k) ?_
  show Goes _ _ _ _ _ _ _ (s₁.setTop (mkF m 7 #[.val (.long q1), .second] [(.long ((q1 + (8 : Int64)) - (1 : Int64)))]))
  refine Goes.of (fun t k => X0.ldc2Long hx hown (mvT hZ (hw _ (List.mem_of_getElem? (i := 10) rfl))) (g := (mkF m 7 #[.val (.long q1), .second] [(.long ((q1 + (8 : Int64)) - (1 : Int64)))])) rfl (hb hby d2_7) t k) ?_
  show Goes _ _ _ _ _ _ _ (s₁.setTop (mkF m 10 #[.val (.long q1), .second] [(.long (8 : Int64)), (.long ((q1 + (8 : Int64)) - (1 : Int64)))]))
  refine Goes.of (fun t k => XS.ldiv X0.here hx rfl (hb hby d2_10) rfl (by decide) k) ?_
  show Goes _ _ _ _ _ _ _ (s₁.setTop (mkF m 11 #[.val (.long q1), .second] [(.long (((q1 + (8 : Int64)) - (1 : Int64)) / (8 : Int64)))]))
  refine Goes.of (fun t k => X0.ldc2Long hx hown (mvT hZ (hw _ (List.mem_of_getElem? (i := 10) rfl))) (g := (mkF m 11 #[.val (.long q1), .second] [(.long (((q1 + (8 : Int64)) - (1 : Int64)) / (8 : Int64)))])) rfl (hb hby d2_11) t k) ?_
  show Goes _ _ _ _ _ _ _ (s₁.setTop (mkF m 14 #[.val (.long q1), .second] [(.long (8 : Int64)), (.long (((q1 + (8 : Int64)) - (1 : Int64)) / (8 : Int64)))]))
  refine Goes.of (fun t k => XS.lmul X0.here hx rfl (hb hby d2_14) rfl k) ?_
  show Goes _ _ _ _ _ _ _ (s₁.setTop (mkF m 15 #[.val (.long q1), .second] [(.long ((((q1 + (8 : Int64)) - (1 : Int64)) / (8 : Int64)) * (8 : Int64)))]))
  exact Goes.fin X0 hlk (v := some (.long ((((q1 + (8 : Int64)) - (1 : Int64)) / (8 : Int64)) * (8 : Int64)))) (fun h => by rw [Bd.returns] at h; cases h) (fun fs hr => retOut X0 hx Bd.returns (by rfl) (Or.inr (Or.inl ⟨rfl, rfl, _, rfl⟩)) (hb hby d2_15) hr) ⟨congrArg (fun z => some (Value.long z)) (by rw [f2] : ((((q1 + (8 : Int64)) - (1 : Int64)) / (8 : Int64)) * (8 : Int64)) = f2 q1), N0, e0⟩ (by decide) (by decide)
theorem d1_0 : decode prog_10_method_3_code 0 = .ok (.ldc2_w 17, 3) := by decide +kernel
theorem d1_3 : decode prog_10_method_3_code 3 = .ok (.iload_n 0, 1) := by decide +kernel
theorem d1_4 : decode prog_10_method_3_code 4 = .ok (.i2l, 1) := by decide +kernel
theorem d1_5 : decode prog_10_method_3_code 5 = .ok (.iload_n 1, 1) := by decide +kernel
theorem d1_6 : decode prog_10_method_3_code 6 = .ok (.i2l, 1) := by decide +kernel
theorem d1_7 : decode prog_10_method_3_code 7 = .ok (.lmul, 1) := by decide +kernel
theorem d1_8 : decode prog_10_method_3_code 8 = .ok (.ladd, 1) := by decide +kernel
theorem d1_9 : decode prog_10_method_3_code 9 = .ok (.invokestatic 13, 3) := by decide +kernel
theorem d1_12 : decode prog_10_method_3_code 12 = .ok (.lreturn, 1) := by decide +kernel
theorem pd_0 : parseMethodDescriptor "(J)J" = some ⟨[.long], some .long⟩ := by decide +kernel
theorem ef_1 (m : MethodId) (p2 : Int32) (p3 : Int32) : entryFrame m #[(.int p2), (.int p3)] 2 = mkF m 0 #[.val (.int p2), .val (.int p3)] [] := by first | (simp [entryFrame, mkF, argsToLocals, Value.category]; done) | rfl
def f1 (p2 : Int32) (p3 : Int32) : Int64 :=
  (f2 ((16 : Int64) + ((p2.toInt64) * (p3.toInt64))))
def Q1 (p2 : Int32) (p3 : Int32) (h0 : Heap) (n0 : Nat) (v : Option Value) (h : Heap) (L : List Loc) : Prop := v = some (.long (f1 p2 p3)) ∧ Fr n0 L ∧ h = h0
set_option maxRecDepth 65536 in
set_option maxHeartbeats 40000000 in
theorem rm1 (l : Launch) (Z : State) (a0 : Array Value) (hw : ∀ d ∈ tables_1, d.before a0 Z = true) (ws : List Jvm.Cond) (p2 : Int32) (p3 : Int32) (h0 : Heap) (n0 : Nat) :
    MetFree l (⟨"com/example/verbguard/verbguard/HeapEstimate", "array", "(II)J"⟩ : MethodName) (head1 (Jvm.Cond.code (⟨"com/example/verbguard/verbguard/HeapEstimate", "array", "(II)J"⟩ : MethodName) prog_10_method_3_code 2 (some .long) :: ws) ({ frames := 1, cells := 0, slots := 0, locals := 13 } : Room)) (fun a U => a = #[(.int p2), (.int p3)] ∧ Z.Warmed39 U.vm ∧ U.heap = h0) (fun _ _ _ _ _ => True) (fun _ U o U' => ∃ v L, o = .returned v ∧ Q1 p2 p3 h0 n0 v U'.heap L ∧ FrameEnd U o U' L 0 0) := by
  refine MetFree.of_bodySF (plainFor_of_name pn_0) hisR ?_
  intro p e s m args below meth c s₁ Bd hml0 hP hK
  obtain ⟨rfl, hZ, hh⟩ := hP
  have hx := Bd.exec
  have hby := Bd.bytes
  have hlk : meth.locks = false := BodyLoose.notSynchronized Bd
  have hml : c.maxLocals = 2 := hml0
  have hown : s.vm.findClass "com/example/verbguard/verbguard/HeapEstimate" = some m.cls := findClass_of_methodNamed Bd.named
  have X0 : Stand p l e ({ frames := 1, cells := 0, slots := 0, locals := 13 } : Room) s m #[(.int p2), (.int p3)] below meth c s₁ [] 0 0 := Stand.of_body Bd
  have e0 : s₁.heap = h0 := by rw [← hh, Bd.state]; rfl
  have N0 := Fr.nil n0
  show Goes p.tables e below s (Q1 p2 p3 h0 n0) 0 0 (s₁.setTop (entryFrame m #[(.int p2), (.int p3)] 2))
  refine Goes.of (fun t k => castTop (ef_1 m p2 p3) k) ?_
  show Goes _ _ _ _ _ _ _ (s₁.setTop (mkF m 0 #[.val (.int p2), .val (.int p3)] []))
  refine Goes.of (fun t k => X0.ldc2Long hx hown (mvT hZ (hw _ (List.mem_of_getElem? (i := 6) rfl))) (g := (mkF m 0 #[.val (.int p2), .val (.int p3)] [])) rfl (hb hby d1_0) t k) ?_
  show Goes _ _ _ _ _ _ _ (s₁.setTop (mkF m 3 #[.val (.int p2), .val (.int p3)] [(.long (16 : Int64))]))
  refine Goes.of (fun t k => XS.iloadN X0.here hx rfl (hb hby d1_3) rfl k) ?_
  show Goes _ _ _ _ _ _ _ (s₁.setTop (mkF m 4 #[.val (.int p2), .val (.int p3)] [(.int p2), (.long (16 : Int64))]))
  refine Goes.of (fun t k => XS.i2l X0.here hx rfl (hb hby d1_4) rfl k) ?_
  show Goes _ _ _ _ _ _ _ (s₁.setTop (mkF m 5 #[.val (.int p2), .val (.int p3)] [(.long (p2.toInt64)), (.long (16 : Int64))]))
  refine Goes.of (fun t k => XS.iloadN X0.here hx rfl (hb hby d1_5) rfl k) ?_
  show Goes _ _ _ _ _ _ _ (s₁.setTop (mkF m 6 #[.val (.int p2), .val (.int p3)] [(.int p3), (.long (p2.toInt64)), (.long (16 : Int64))]))
  refine Goes.of (fun t k => XS.i2l X0.here hx rfl (hb hby d1_6) rfl k) ?_
  show Goes _ _ _ _ _ _ _ (s₁.setTop (mkF m 7 #[.val (.int p2), .val (.int p3)] [(.long (p3.toInt64)), (.long (p2.toInt64)), (.long (16 : Int64))]))
  refine Goes.of (fun t k => XS.lmul X0.here hx rfl (hb hby d1_7) rfl k) ?_
  show Goes _ _ _ _ _ _ _ (s₁.setTop (mkF m 8 #[.val (.int p2), .val (.int p3)] [(.long ((p2.toInt64) * (p3.toInt64))), (.long (16 : Int64))]))
  refine Goes.of (fun t k => XS.ladd X0.here hx rfl (hb hby d1_8) rfl k) ?_
  show Goes _ _ _ _ _ _ _ (s₁.setTop (mkF m 9 #[.val (.int p2), .val (.int p3)] [(.long ((16 : Int64) + ((p2.toInt64) * (p3.toInt64))))]))
  obtain ⟨_, _, ⟨T4, L4, k4, n4⟩, -, X4, ⟨Lc4, hQ4, l4, y4, z4⟩, st4⟩ := Jvm.LawKit.callS X0 hx (y := (⟨"com/example/verbguard/verbguard/HeapEstimate", "aligned", "(J)J"⟩ : MethodName)) hown (mvT hZ (hw _ (List.mem_of_getElem? (i := 7) rfl))) (mvT hZ (hw _ (List.mem_of_getElem? (i := 8) rfl))) (mvT hZ (hw _ (List.mem_of_getElem? (i := 4) rfl))) (mvT hZ (hw _ (List.mem_of_getElem? (i := 9) rfl))) (by decide) (backOf (W := 0) (rm2 l Z a0 hw [] ((16 : Int64) + ((p2.toInt64) * (p3.toInt64))) h0 n0) hZ (hw _ (List.mem_of_getElem? (i := 9) rfl)) (hw _ (List.mem_of_getElem? (i := 4) rfl)) (by decide) (by decide)) (g := (mkF m 9 #[.val (.int p2), .val (.int p3)] [(.long ((16 : Int64) + ((p2.toInt64) * (p3.toInt64))))])) rfl (by rw [hml]; rfl) (argsL := [(.long ((16 : Int64) + ((p2.toInt64) * (p3.toInt64))))]) (rest := []) (lenOf pd_0 rfl) rfl (by show 2 * 0 + _ ≤ _; exact Nat.le_of_eq rfl) (hb hby d1_9) (fun _ _ => ⟨rfl, e0, (by decide : 0 + 0 ≤ _), (by decide : 0 + 0 ≤ _)⟩)
  dsimp only [Pt.U, Pt.locs, Pt.cells, Pt.slots] at X4 l4 y4 z4 st4 hQ4
  subst l4 y4 z4
  obtain ⟨rfl, N4q, e4⟩ := hQ4
  have N4 := Fr.app N0 N4q
  refine Goes.of st4 ?_
  show Goes _ _ _ _ _ _ _ (T4.setTop (mkF m 12 #[.val (.int p2), .val (.int p3)] [(.long (f2 ((16 : Int64) + ((p2.toInt64) * (p3.toInt64)))))]))
  exact Goes.fin X4 hlk (v := some (.long (f2 ((16 : Int64) + ((p2.toInt64) * (p3.toInt64)))))) (fun h => by rw [Bd.returns] at h; cases h) (fun fs hr => retOut X4 hx Bd.returns (by rfl) (Or.inr (Or.inl ⟨rfl, rfl, _, rfl⟩)) (hb hby d1_12) hr) ⟨congrArg (fun z => some (Value.long z)) (by rw [f1] : (f2 ((16 : Int64) + ((p2.toInt64) * (p3.toInt64)))) = f1 p2 p3), N4, e4⟩ (by decide) (by decide)
theorem pn_1 : plainName "com/example/verbguard/verbguard/HeapEstimateArrayPinLaw" = true := by first | (simp [plainName, overriddenIn]; done) | decide +kernel
theorem pd_1 : parseMethodDescriptor "(II)J" = some ⟨[.int, .int], some .long⟩ := by decide +kernel
theorem ef_0 (m : MethodId) (u0 : Int32) (u1 : Int32) : entryFrame m #[(.int u0), (.int u1)] maxLocals = mkF m 0 #[.val (.int u0), .val (.int u1), .unset, .unset, .unset, .unset, .unset, .unset] [] := by first | (simp [entryFrame, mkF, argsToLocals, Value.category, maxLocals]; done) | rfl
def f0 (u0 : Int32) (u1 : Int32) : Int32 :=
  (if ((f1 (u0 &&& (2147483647 : Int32)) (u1 &&& (2147483647 : Int32))) - (f1 (u0 &&& (2147483647 : Int32)) (u1 &&& (2147483647 : Int32))) / (8 : Int64) * (8 : Int64)) = (0 : Int64) then (if (f1 (u0 &&& (2147483647 : Int32)) (u1 &&& (2147483647 : Int32))) < ((16 : Int64) + (((u0 &&& (2147483647 : Int32)).toInt64) * ((u1 &&& (2147483647 : Int32)).toInt64))) then (0 : Int32)
    else (if ((f1 (u0 &&& (2147483647 : Int32)) (u1 &&& (2147483647 : Int32))) - ((16 : Int64) + (((u0 &&& (2147483647 : Int32)).toInt64) * ((u1 &&& (2147483647 : Int32)).toInt64)))) < (8 : Int64) then (1 : Int32)
      else (0 : Int32)))
  else (0 : Int32))
def Q0 (u0 : Int32) (u1 : Int32) (h0 : Heap) (n0 : Nat) (v : Option Value) (h : Heap) (L : List Loc) : Prop := v = some (.int (f0 u0 u1)) ∧ Fr n0 L ∧ h = h0
set_option maxRecDepth 65536 in
set_option maxHeartbeats 40000000 in
theorem rm0 (l : Launch) (Z : State) (a0 : Array Value) (hw : ∀ d ∈ tables_1, d.before a0 Z = true) (ws : List Jvm.Cond) (u0 : Int32) (u1 : Int32) (h0 : Heap) (n0 : Nat) :
    MetFree l x (head1 (Jvm.Cond.code x code maxLocals ret :: ws) room_1) (fun a U => a = #[(.int u0), (.int u1)] ∧ Z.Warmed39 U.vm ∧ U.heap = h0) (fun _ _ _ _ _ => True) (fun _ U o U' => ∃ v L, o = .returned v ∧ Q0 u0 u1 h0 n0 v U'.heap L ∧ FrameEnd U o U' L room_1.cells room_1.slots) := by
  refine MetFree.of_bodySF (plainFor_of_name pn_1) hisR ?_
  intro p e s m args below meth c s₁ Bd hml0 hP hK
  obtain ⟨rfl, hZ, hh⟩ := hP
  have hx := Bd.exec
  have hby := Bd.bytes
  have hlk : meth.locks = false := BodyLoose.notSynchronized Bd
  have hml : c.maxLocals = 8 := hml0
  have hown : s.vm.findClass "com/example/verbguard/verbguard/HeapEstimateArrayPinLaw" = some m.cls := findClass_of_methodNamed Bd.named
  have X0 : Stand p l e room_1 s m #[(.int u0), (.int u1)] below meth c s₁ [] 0 0 := Stand.of_body Bd
  have e0 : s₁.heap = h0 := by rw [← hh, Bd.state]; rfl
  have N0 := Fr.nil n0
  show Goes p.tables e below s (Q0 u0 u1 h0 n0) room_1.cells room_1.slots (s₁.setTop (entryFrame m #[(.int u0), (.int u1)] maxLocals))
  refine Goes.of (fun t k => castTop (ef_0 m u0 u1) k) ?_
  show Goes _ _ _ _ _ _ _ (s₁.setTop (mkF m 0 #[.val (.int u0), .val (.int u1), .unset, .unset, .unset, .unset, .unset, .unset] []))
  refine Goes.of (fun t k => XS.iloadN X0.here hx rfl (hb hby at_0) rfl k) ?_
  show Goes _ _ _ _ _ _ _ (s₁.setTop (mkF m 1 #[.val (.int u0), .val (.int u1), .unset, .unset, .unset, .unset, .unset, .unset] [(.int u0)]))
  refine Goes.of (fun t k => X0.ldcInt hx hown (mvT hZ (hw _ (List.mem_of_getElem? (i := 0) rfl))) (g := (mkF m 1 #[.val (.int u0), .val (.int u1), .unset, .unset, .unset, .unset, .unset, .unset] [(.int u0)])) rfl (hb hby at_1) t k) ?_
  show Goes _ _ _ _ _ _ _ (s₁.setTop (mkF m 3 #[.val (.int u0), .val (.int u1), .unset, .unset, .unset, .unset, .unset, .unset] [(.int (2147483647 : Int32)), (.int u0)]))
  refine Goes.of (fun t k => XS.iand X0.here hx rfl (hb hby at_3) rfl k) ?_
  show Goes _ _ _ _ _ _ _ (s₁.setTop (mkF m 4 #[.val (.int u0), .val (.int u1), .unset, .unset, .unset, .unset, .unset, .unset] [(.int (u0 &&& (2147483647 : Int32)))]))
  refine Goes.of (fun t k => XS.istoreN X0.here hx rfl (hb hby at_4) rfl (l' := #[.val (.int u0), .val (.int u1), .val (.int (u0 &&& (2147483647 : Int32))), .unset, .unset, .unset, .unset, .unset]) rfl k) ?_
  show Goes _ _ _ _ _ _ _ (s₁.setTop (mkF m 5 #[.val (.int u0), .val (.int u1), .val (.int (u0 &&& (2147483647 : Int32))), .unset, .unset, .unset, .unset, .unset] []))
  refine Goes.of (fun t k => XS.iloadN X0.here hx rfl (hb hby at_5) rfl k) ?_
  show Goes _ _ _ _ _ _ _ (s₁.setTop (mkF m 6 #[.val (.int u0), .val (.int u1), .val (.int (u0 &&& (2147483647 : Int32))), .unset, .unset, .unset, .unset, .unset] [(.int u1)]))
  refine Goes.of (fun t k => X0.ldcInt hx hown (mvT hZ (hw _ (List.mem_of_getElem? (i := 0) rfl))) (g := (mkF m 6 #[.val (.int u0), .val (.int u1), .val (.int (u0 &&& (2147483647 : Int32))), .unset, .unset, .unset, .unset, .unset] [(.int u1)])) rfl (hb hby at_6) t k) ?_
  show Goes _ _ _ _ _ _ _ (s₁.setTop (mkF m 8 #[.val (.int u0), .val (.int u1), .val (.int (u0 &&& (2147483647 : Int32))), .unset, .unset, .unset, .unset, .unset] [(.int (2147483647 : Int32)), (.int u1)]))
  refine Goes.of (fun t k => XS.iand X0.here hx rfl (hb hby at_8) rfl k) ?_
  show Goes _ _ _ _ _ _ _ (s₁.setTop (mkF m 9 #[.val (.int u0), .val (.int u1), .val (.int (u0 &&& (2147483647 : Int32))), .unset, .unset, .unset, .unset, .unset] [(.int (u1 &&& (2147483647 : Int32)))]))
  refine Goes.of (fun t k => XS.istoreN X0.here hx rfl (hb hby at_9) rfl (l' := #[.val (.int u0), .val (.int u1), .val (.int (u0 &&& (2147483647 : Int32))), .val (.int (u1 &&& (2147483647 : Int32))), .unset, .unset, .unset, .unset]) rfl k) ?_
  show Goes _ _ _ _ _ _ _ (s₁.setTop (mkF m 10 #[.val (.int u0), .val (.int u1), .val (.int (u0 &&& (2147483647 : Int32))), .val (.int (u1 &&& (2147483647 : Int32))), .unset, .unset, .unset, .unset] []))
  refine Goes.of (fun t k => X0.ldc2Long hx hown (mvT hZ (hw _ (List.mem_of_getElem? (i := 1) rfl))) (g := (mkF m 10 #[.val (.int u0), .val (.int u1), .val (.int (u0 &&& (2147483647 : Int32))), .val (.int (u1 &&& (2147483647 : Int32))), .unset, .unset, .unset, .unset] [])) rfl (hb hby at_10) t k) ?_
  show Goes _ _ _ _ _ _ _ (s₁.setTop (mkF m 13 #[.val (.int u0), .val (.int u1), .val (.int (u0 &&& (2147483647 : Int32))), .val (.int (u1 &&& (2147483647 : Int32))), .unset, .unset, .unset, .unset] [(.long (16 : Int64))]))
  refine Goes.of (fun t k => XS.iloadN X0.here hx rfl (hb hby at_13) rfl k) ?_
  show Goes _ _ _ _ _ _ _ (s₁.setTop (mkF m 14 #[.val (.int u0), .val (.int u1), .val (.int (u0 &&& (2147483647 : Int32))), .val (.int (u1 &&& (2147483647 : Int32))), .unset, .unset, .unset, .unset] [(.int (u0 &&& (2147483647 : Int32))), (.long (16 : Int64))]))
  refine Goes.of (fun t k => XS.i2l X0.here hx rfl (hb hby at_14) rfl k) ?_
  show Goes _ _ _ _ _ _ _ (s₁.setTop (mkF m 15 #[.val (.int u0), .val (.int u1), .val (.int (u0 &&& (2147483647 : Int32))), .val (.int (u1 &&& (2147483647 : Int32))), .unset, .unset, .unset, .unset] [(.long ((u0 &&& (2147483647 : Int32)).toInt64)), (.long (16 : Int64))]))
  refine Goes.of (fun t k => XS.iloadN X0.here hx rfl (hb hby at_15) rfl k) ?_
  show Goes _ _ _ _ _ _ _ (s₁.setTop (mkF m 16 #[.val (.int u0), .val (.int u1), .val (.int (u0 &&& (2147483647 : Int32))), .val (.int (u1 &&& (2147483647 : Int32))), .unset, .unset, .unset, .unset] [(.int (u1 &&& (2147483647 : Int32))), (.long ((u0 &&& (2147483647 : Int32)).toInt64)), (.long (16 : Int64))]))
  refine Goes.of (fun t k => XS.i2l X0.here hx rfl (hb hby at_16) rfl k) ?_
  show Goes _ _ _ _ _ _ _ (s₁.setTop (mkF m 17 #[.val (.int u0), .val (.int u1), .val (.int (u0 &&& (2147483647 : Int32))), .val (.int (u1 &&& (2147483647 : Int32))), .unset, .unset, .unset, .unset] [(.long ((u1 &&& (2147483647 : Int32)).toInt64)), (.long ((u0 &&& (2147483647 : Int32)).toInt64)), (.long (16 : Int64))]))
  refine Goes.of (fun t k => XS.lmul X0.here hx rfl (hb hby at_17) rfl k) ?_
  show Goes _ _ _ _ _ _ _ (s₁.setTop (mkF m 18 #[.val (.int u0), .val (.int u1), .val (.int (u0 &&& (2147483647 : Int32))), .val (.int (u1 &&& (2147483647 : Int32))), .unset, .unset, .unset, .unset] [(.long (((u0 &&& (2147483647 : Int32)).toInt64) * ((u1 &&& (2147483647 : Int32)).toInt64))), (.long (16 : Int64))]))
  refine Goes.of (fun t k => XS.ladd X0.here hx rfl (hb hby at_18) rfl k) ?_
  show Goes _ _ _ _ _ _ _ (s₁.setTop (mkF m 19 #[.val (.int u0), .val (.int u1), .val (.int (u0 &&& (2147483647 : Int32))), .val (.int (u1 &&& (2147483647 : Int32))), .unset, .unset, .unset, .unset] [(.long ((16 : Int64) + (((u0 &&& (2147483647 : Int32)).toInt64) * ((u1 &&& (2147483647 : Int32)).toInt64))))]))
  refine Goes.of (fun t k => XS.lstore X0.here hx rfl (hb hby at_19) rfl (l' := #[.val (.int u0), .val (.int u1), .val (.int (u0 &&& (2147483647 : Int32))), .val (.int (u1 &&& (2147483647 : Int32))), .val (.long ((16 : Int64) + (((u0 &&& (2147483647 : Int32)).toInt64) * ((u1 &&& (2147483647 : Int32)).toInt64)))), .second, .unset, .unset]) rfl k) ?_
  show Goes _ _ _ _ _ _ _ (s₁.setTop (mkF m 21 #[.val (.int u0), .val (.int u1), .val (.int (u0 &&& (2147483647 : Int32))), .val (.int (u1 &&& (2147483647 : Int32))), .val (.long ((16 : Int64) + (((u0 &&& (2147483647 : Int32)).toInt64) * ((u1 &&& (2147483647 : Int32)).toInt64)))), .second, .unset, .unset] []))
  refine Goes.of (fun t k => XS.iloadN X0.here hx rfl (hb hby at_21) rfl k) ?_
  show Goes _ _ _ _ _ _ _ (s₁.setTop (mkF m 22 #[.val (.int u0), .val (.int u1), .val (.int (u0 &&& (2147483647 : Int32))), .val (.int (u1 &&& (2147483647 : Int32))), .val (.long ((16 : Int64) + (((u0 &&& (2147483647 : Int32)).toInt64) * ((u1 &&& (2147483647 : Int32)).toInt64)))), .second, .unset, .unset] [(.int (u0 &&& (2147483647 : Int32)))]))
  refine Goes.of (fun t k => XS.iloadN X0.here hx rfl (hb hby at_22) rfl k) ?_
  show Goes _ _ _ _ _ _ _ (s₁.setTop (mkF m 23 #[.val (.int u0), .val (.int u1), .val (.int (u0 &&& (2147483647 : Int32))), .val (.int (u1 &&& (2147483647 : Int32))), .val (.long ((16 : Int64) + (((u0 &&& (2147483647 : Int32)).toInt64) * ((u1 &&& (2147483647 : Int32)).toInt64)))), .second, .unset, .unset] [(.int (u1 &&& (2147483647 : Int32))), (.int (u0 &&& (2147483647 : Int32)))]))
  obtain ⟨_, _, ⟨T5, L5, k5, n5⟩, -, X5, ⟨Lc5, hQ5, l5, y5, z5⟩, st5⟩ := Jvm.LawKit.callS X0 hx (y := (⟨"com/example/verbguard/verbguard/HeapEstimate", "array", "(II)J"⟩ : MethodName)) hown (mvT hZ (hw _ (List.mem_of_getElem? (i := 2) rfl))) (mvT hZ (hw _ (List.mem_of_getElem? (i := 3) rfl))) (mvT hZ (hw _ (List.mem_of_getElem? (i := 4) rfl))) (mvT hZ (hw _ (List.mem_of_getElem? (i := 5) rfl))) (by decide) (backOf (W := 0) (rm1 l Z a0 hw [] (u0 &&& (2147483647 : Int32)) (u1 &&& (2147483647 : Int32)) h0 n0) hZ (hw _ (List.mem_of_getElem? (i := 5) rfl)) (hw _ (List.mem_of_getElem? (i := 4) rfl)) (by decide) (by decide)) (g := (mkF m 23 #[.val (.int u0), .val (.int u1), .val (.int (u0 &&& (2147483647 : Int32))), .val (.int (u1 &&& (2147483647 : Int32))), .val (.long ((16 : Int64) + (((u0 &&& (2147483647 : Int32)).toInt64) * ((u1 &&& (2147483647 : Int32)).toInt64)))), .second, .unset, .unset] [(.int (u1 &&& (2147483647 : Int32))), (.int (u0 &&& (2147483647 : Int32)))])) rfl (by rw [hml]; rfl) (argsL := [(.int (u0 &&& (2147483647 : Int32))), (.int (u1 &&& (2147483647 : Int32)))]) (rest := []) (lenOf pd_1 rfl) rfl (by show 2 * 0 + _ ≤ _; exact Nat.le_of_eq rfl) (hb hby at_23) (fun _ _ => ⟨rfl, e0, (by decide : 0 + 0 ≤ _), (by decide : 0 + 0 ≤ _)⟩)
  dsimp only [Pt.U, Pt.locs, Pt.cells, Pt.slots] at X5 l5 y5 z5 st5 hQ5
  subst l5 y5 z5
  obtain ⟨rfl, N5q, e5⟩ := hQ5
  have N5 := Fr.app N0 N5q
  refine Goes.of st5 ?_
  show Goes _ _ _ _ _ _ _ (T5.setTop (mkF m 26 #[.val (.int u0), .val (.int u1), .val (.int (u0 &&& (2147483647 : Int32))), .val (.int (u1 &&& (2147483647 : Int32))), .val (.long ((16 : Int64) + (((u0 &&& (2147483647 : Int32)).toInt64) * ((u1 &&& (2147483647 : Int32)).toInt64)))), .second, .unset, .unset] [(.long (f1 (u0 &&& (2147483647 : Int32)) (u1 &&& (2147483647 : Int32))))]))
  refine Goes.of (fun t k => XS.lstore X5.here hx rfl (hb hby at_26) rfl (l' := #[.val (.int u0), .val (.int u1), .val (.int (u0 &&& (2147483647 : Int32))), .val (.int (u1 &&& (2147483647 : Int32))), .val (.long ((16 : Int64) + (((u0 &&& (2147483647 : Int32)).toInt64) * ((u1 &&& (2147483647 : Int32)).toInt64)))), .second, .val (.long (f1 (u0 &&& (2147483647 : Int32)) (u1 &&& (2147483647 : Int32)))), .second]) rfl k) ?_
  show Goes _ _ _ _ _ _ _ (T5.setTop (mkF m 28 #[.val (.int u0), .val (.int u1), .val (.int (u0 &&& (2147483647 : Int32))), .val (.int (u1 &&& (2147483647 : Int32))), .val (.long ((16 : Int64) + (((u0 &&& (2147483647 : Int32)).toInt64) * ((u1 &&& (2147483647 : Int32)).toInt64)))), .second, .val (.long (f1 (u0 &&& (2147483647 : Int32)) (u1 &&& (2147483647 : Int32)))), .second] []))
  refine Goes.of (fun t k => XS.lload X5.here hx rfl (hb hby at_28) rfl k) ?_
  show Goes _ _ _ _ _ _ _ (T5.setTop (mkF m 30 #[.val (.int u0), .val (.int u1), .val (.int (u0 &&& (2147483647 : Int32))), .val (.int (u1 &&& (2147483647 : Int32))), .val (.long ((16 : Int64) + (((u0 &&& (2147483647 : Int32)).toInt64) * ((u1 &&& (2147483647 : Int32)).toInt64)))), .second, .val (.long (f1 (u0 &&& (2147483647 : Int32)) (u1 &&& (2147483647 : Int32)))), .second] [(.long (f1 (u0 &&& (2147483647 : Int32)) (u1 &&& (2147483647 : Int32))))]))
  refine Goes.of (fun t k => X5.ldc2Long hx hown (mvT hZ (hw _ (List.mem_of_getElem? (i := 11) rfl))) (g := (mkF m 30 #[.val (.int u0), .val (.int u1), .val (.int (u0 &&& (2147483647 : Int32))), .val (.int (u1 &&& (2147483647 : Int32))), .val (.long ((16 : Int64) + (((u0 &&& (2147483647 : Int32)).toInt64) * ((u1 &&& (2147483647 : Int32)).toInt64)))), .second, .val (.long (f1 (u0 &&& (2147483647 : Int32)) (u1 &&& (2147483647 : Int32)))), .second] [(.long (f1 (u0 &&& (2147483647 : Int32)) (u1 &&& (2147483647 : Int32))))])) rfl (hb hby at_30) t k) ?_
  show Goes _ _ _ _ _ _ _ (T5.setTop (mkF m 33 #[.val (.int u0), .val (.int u1), .val (.int (u0 &&& (2147483647 : Int32))), .val (.int (u1 &&& (2147483647 : Int32))), .val (.long ((16 : Int64) + (((u0 &&& (2147483647 : Int32)).toInt64) * ((u1 &&& (2147483647 : Int32)).toInt64)))), .second, .val (.long (f1 (u0 &&& (2147483647 : Int32)) (u1 &&& (2147483647 : Int32)))), .second] [(.long (8 : Int64)), (.long (f1 (u0 &&& (2147483647 : Int32)) (u1 &&& (2147483647 : Int32))))]))
  refine Goes.of (fun t k => XS.lrem X5.here hx rfl (hb hby at_33) rfl (by decide) k) ?_
  show Goes _ _ _ _ _ _ _ (T5.setTop (mkF m 34 #[.val (.int u0), .val (.int u1), .val (.int (u0 &&& (2147483647 : Int32))), .val (.int (u1 &&& (2147483647 : Int32))), .val (.long ((16 : Int64) + (((u0 &&& (2147483647 : Int32)).toInt64) * ((u1 &&& (2147483647 : Int32)).toInt64)))), .second, .val (.long (f1 (u0 &&& (2147483647 : Int32)) (u1 &&& (2147483647 : Int32)))), .second] [(.long ((f1 (u0 &&& (2147483647 : Int32)) (u1 &&& (2147483647 : Int32))) - (f1 (u0 &&& (2147483647 : Int32)) (u1 &&& (2147483647 : Int32))) / (8 : Int64) * (8 : Int64)))]))
  refine Goes.of (fun t k => XS.lconst X5.here hx rfl (hb hby at_34) k) ?_
  show Goes _ _ _ _ _ _ _ (T5.setTop (mkF m 35 #[.val (.int u0), .val (.int u1), .val (.int (u0 &&& (2147483647 : Int32))), .val (.int (u1 &&& (2147483647 : Int32))), .val (.long ((16 : Int64) + (((u0 &&& (2147483647 : Int32)).toInt64) * ((u1 &&& (2147483647 : Int32)).toInt64)))), .second, .val (.long (f1 (u0 &&& (2147483647 : Int32)) (u1 &&& (2147483647 : Int32)))), .second] [(.long (0 : Int64)), (.long ((f1 (u0 &&& (2147483647 : Int32)) (u1 &&& (2147483647 : Int32))) - (f1 (u0 &&& (2147483647 : Int32)) (u1 &&& (2147483647 : Int32))) / (8 : Int64) * (8 : Int64)))]))
  refine Goes.of (fun t k => XS.lcmp X5.here hx rfl (hb hby at_35) rfl k) ?_
  show Goes _ _ _ _ _ _ _ (T5.setTop (mkF m 36 #[.val (.int u0), .val (.int u1), .val (.int (u0 &&& (2147483647 : Int32))), .val (.int (u1 &&& (2147483647 : Int32))), .val (.long ((16 : Int64) + (((u0 &&& (2147483647 : Int32)).toInt64) * ((u1 &&& (2147483647 : Int32)).toInt64)))), .second, .val (.long (f1 (u0 &&& (2147483647 : Int32)) (u1 &&& (2147483647 : Int32)))), .second] [(.int (lcmpW ((f1 (u0 &&& (2147483647 : Int32)) (u1 &&& (2147483647 : Int32))) - (f1 (u0 &&& (2147483647 : Int32)) (u1 &&& (2147483647 : Int32))) / (8 : Int64) * (8 : Int64)) (0 : Int64)))]))
  by_cases hc6 : ((f1 (u0 &&& (2147483647 : Int32)) (u1 &&& (2147483647 : Int32))) - (f1 (u0 &&& (2147483647 : Int32)) (u1 &&& (2147483647 : Int32))) / (8 : Int64) * (8 : Int64)) = (0 : Int64)
  · refine Goes.of (fun t k => XS.ifNo X5.here hx rfl (hb hby at_36) rfl ((if0 _ _).trans (teq ((lw_eq _ _).mpr hc6)).2) k) ?_
    show Goes _ _ _ _ _ _ _ (T5.setTop (mkF m 39 #[.val (.int u0), .val (.int u1), .val (.int (u0 &&& (2147483647 : Int32))), .val (.int (u1 &&& (2147483647 : Int32))), .val (.long ((16 : Int64) + (((u0 &&& (2147483647 : Int32)).toInt64) * ((u1 &&& (2147483647 : Int32)).toInt64)))), .second, .val (.long (f1 (u0 &&& (2147483647 : Int32)) (u1 &&& (2147483647 : Int32)))), .second] []))
    refine Goes.of (fun t k => XS.lload X5.here hx rfl (hb hby at_39) rfl k) ?_
    show Goes _ _ _ _ _ _ _ (T5.setTop (mkF m 41 #[.val (.int u0), .val (.int u1), .val (.int (u0 &&& (2147483647 : Int32))), .val (.int (u1 &&& (2147483647 : Int32))), .val (.long ((16 : Int64) + (((u0 &&& (2147483647 : Int32)).toInt64) * ((u1 &&& (2147483647 : Int32)).toInt64)))), .second, .val (.long (f1 (u0 &&& (2147483647 : Int32)) (u1 &&& (2147483647 : Int32)))), .second] [(.long (f1 (u0 &&& (2147483647 : Int32)) (u1 &&& (2147483647 : Int32))))]))
    refine Goes.of (fun t k => XS.lload X5.here hx rfl (hb hby at_41) rfl k) ?_
    show Goes _ _ _ _ _ _ _ (T5.setTop (mkF m 43 #[.val (.int u0), .val (.int u1), .val (.int (u0 &&& (2147483647 : Int32))), .val (.int (u1 &&& (2147483647 : Int32))), .val (.long ((16 : Int64) + (((u0 &&& (2147483647 : Int32)).toInt64) * ((u1 &&& (2147483647 : Int32)).toInt64)))), .second, .val (.long (f1 (u0 &&& (2147483647 : Int32)) (u1 &&& (2147483647 : Int32)))), .second] [(.long ((16 : Int64) + (((u0 &&& (2147483647 : Int32)).toInt64) * ((u1 &&& (2147483647 : Int32)).toInt64)))), (.long (f1 (u0 &&& (2147483647 : Int32)) (u1 &&& (2147483647 : Int32))))]))
    refine Goes.of (fun t k => XS.lcmp X5.here hx rfl (hb hby at_43) rfl k) ?_
    show Goes _ _ _ _ _ _ _ (T5.setTop (mkF m 44 #[.val (.int u0), .val (.int u1), .val (.int (u0 &&& (2147483647 : Int32))), .val (.int (u1 &&& (2147483647 : Int32))), .val (.long ((16 : Int64) + (((u0 &&& (2147483647 : Int32)).toInt64) * ((u1 &&& (2147483647 : Int32)).toInt64)))), .second, .val (.long (f1 (u0 &&& (2147483647 : Int32)) (u1 &&& (2147483647 : Int32)))), .second] [(.int (lcmpW (f1 (u0 &&& (2147483647 : Int32)) (u1 &&& (2147483647 : Int32))) ((16 : Int64) + (((u0 &&& (2147483647 : Int32)).toInt64) * ((u1 &&& (2147483647 : Int32)).toInt64)))))]))
    by_cases hc7 : (f1 (u0 &&& (2147483647 : Int32)) (u1 &&& (2147483647 : Int32))) < ((16 : Int64) + (((u0 &&& (2147483647 : Int32)).toInt64) * ((u1 &&& (2147483647 : Int32)).toInt64)))
    · refine Goes.of (fun t k => XS.ifYes X5.here hx rfl (pc0 := 44) (pc' := 63) rfl (hb hby at_44) rfl ((if0 _ _).trans (tlt ((lw_lt _ _).mpr hc7)).1) (by decide) (by decide) k) ?_
      show Goes _ _ _ _ _ _ _ (T5.setTop (mkF m 63 #[.val (.int u0), .val (.int u1), .val (.int (u0 &&& (2147483647 : Int32))), .val (.int (u1 &&& (2147483647 : Int32))), .val (.long ((16 : Int64) + (((u0 &&& (2147483647 : Int32)).toInt64) * ((u1 &&& (2147483647 : Int32)).toInt64)))), .second, .val (.long (f1 (u0 &&& (2147483647 : Int32)) (u1 &&& (2147483647 : Int32)))), .second] []))
      refine Goes.of (fun t k => XS.iconst X5.here hx rfl (hb hby at_63) k) ?_
      show Goes _ _ _ _ _ _ _ (T5.setTop (mkF m 64 #[.val (.int u0), .val (.int u1), .val (.int (u0 &&& (2147483647 : Int32))), .val (.int (u1 &&& (2147483647 : Int32))), .val (.long ((16 : Int64) + (((u0 &&& (2147483647 : Int32)).toInt64) * ((u1 &&& (2147483647 : Int32)).toInt64)))), .second, .val (.long (f1 (u0 &&& (2147483647 : Int32)) (u1 &&& (2147483647 : Int32)))), .second] [(.int (0 : Int32))]))
      exact Goes.fin X5 hlk (v := some (.int (0 : Int32))) (fun h => by rw [Bd.returns] at h; cases h) (fun fs hr => retN X5 hx (t := .boolean) Bd.returns (by simp) (hb hby at_64) hr) ⟨congrArg (fun z => some (Value.int z)) (by rw [f0, if_pos hc6, if_pos hc7] : (0 : Int32) = f0 u0 u1), N5, e5⟩ (by decide) (by decide)
    · refine Goes.of (fun t k => XS.ifNo X5.here hx rfl (hb hby at_44) rfl ((if0 _ _).trans (flt (fun q => hc7 ((lw_lt _ _).mp q))).1) k) ?_
      show Goes _ _ _ _ _ _ _ (T5.setTop (mkF m 47 #[.val (.int u0), .val (.int u1), .val (.int (u0 &&& (2147483647 : Int32))), .val (.int (u1 &&& (2147483647 : Int32))), .val (.long ((16 : Int64) + (((u0 &&& (2147483647 : Int32)).toInt64) * ((u1 &&& (2147483647 : Int32)).toInt64)))), .second, .val (.long (f1 (u0 &&& (2147483647 : Int32)) (u1 &&& (2147483647 : Int32)))), .second] []))
      refine Goes.of (fun t k => XS.lload X5.here hx rfl (hb hby at_47) rfl k) ?_
      show Goes _ _ _ _ _ _ _ (T5.setTop (mkF m 49 #[.val (.int u0), .val (.int u1), .val (.int (u0 &&& (2147483647 : Int32))), .val (.int (u1 &&& (2147483647 : Int32))), .val (.long ((16 : Int64) + (((u0 &&& (2147483647 : Int32)).toInt64) * ((u1 &&& (2147483647 : Int32)).toInt64)))), .second, .val (.long (f1 (u0 &&& (2147483647 : Int32)) (u1 &&& (2147483647 : Int32)))), .second] [(.long (f1 (u0 &&& (2147483647 : Int32)) (u1 &&& (2147483647 : Int32))))]))
      refine Goes.of (fun t k => XS.lload X5.here hx rfl (hb hby at_49) rfl k) ?_
      show Goes _ _ _ _ _ _ _ (T5.setTop (mkF m 51 #[.val (.int u0), .val (.int u1), .val (.int (u0 &&& (2147483647 : Int32))), .val (.int (u1 &&& (2147483647 : Int32))), .val (.long ((16 : Int64) + (((u0 &&& (2147483647 : Int32)).toInt64) * ((u1 &&& (2147483647 : Int32)).toInt64)))), .second, .val (.long (f1 (u0 &&& (2147483647 : Int32)) (u1 &&& (2147483647 : Int32)))), .second] [(.long ((16 : Int64) + (((u0 &&& (2147483647 : Int32)).toInt64) * ((u1 &&& (2147483647 : Int32)).toInt64)))), (.long (f1 (u0 &&& (2147483647 : Int32)) (u1 &&& (2147483647 : Int32))))]))
      refine Goes.of (fun t k => XS.lsub X5.here hx rfl (hb hby at_51) rfl k) ?_
      show Goes _ _ _ _ _ _ _ (T5.setTop (mkF m 52 #[.val (.int u0), .val (.int u1), .val (.int (u0 &&& (2147483647 : Int32))), .val (.int (u1 &&& (2147483647 : Int32))), .val (.long ((16 : Int64) + (((u0 &&& (2147483647 : Int32)).toInt64) * ((u1 &&& (2147483647 : Int32)).toInt64)))), .second, .val (.long (f1 (u0 &&& (2147483647 : Int32)) (u1 &&& (2147483647 : Int32)))), .second] [(.long ((f1 (u0 &&& (2147483647 : Int32)) (u1 &&& (2147483647 : Int32))) - ((16 : Int64) + (((u0 &&& (2147483647 : Int32)).toInt64) * ((u1 &&& (2147483647 : Int32)).toInt64)))))]))
      refine Goes.of (fun t k => X5.ldc2Long hx hown (mvT hZ (hw _ (List.mem_of_getElem? (i := 11) rfl))) (g := (mkF m 52 #[.val (.int u0), .val (.int u1), .val (.int (u0 &&& (2147483647 : Int32))), .val (.int (u1 &&& (2147483647 : Int32))), .val (.long ((16 : Int64) + (((u0 &&& (2147483647 : Int32)).toInt64) * ((u1 &&& (2147483647 : Int32)).toInt64)))), .second, .val (.long (f1 (u0 &&& (2147483647 : Int32)) (u1 &&& (2147483647 : Int32)))), .second] [(.long ((f1 (u0 &&& (2147483647 : Int32)) (u1 &&& (2147483647 : Int32))) - ((16 : Int64) + (((u0 &&& (2147483647 : Int32)).toInt64) * ((u1 &&& (2147483647 : Int32)).toInt64)))))])) rfl (hb hby at_52) t k) ?_
      show Goes _ _ _ _ _ _ _ (T5.setTop (mkF m 55 #[.val (.int u0), .val (.int u1), .val (.int (u0 &&& (2147483647 : Int32))), .val (.int (u1 &&& (2147483647 : Int32))), .val (.long ((16 : Int64) + (((u0 &&& (2147483647 : Int32)).toInt64) * ((u1 &&& (2147483647 : Int32)).toInt64)))), .second, .val (.long (f1 (u0 &&& (2147483647 : Int32)) (u1 &&& (2147483647 : Int32)))), .second] [(.long (8 : Int64)), (.long ((f1 (u0 &&& (2147483647 : Int32)) (u1 &&& (2147483647 : Int32))) - ((16 : Int64) + (((u0 &&& (2147483647 : Int32)).toInt64) * ((u1 &&& (2147483647 : Int32)).toInt64)))))]))
      refine Goes.of (fun t k => XS.lcmp X5.here hx rfl (hb hby at_55) rfl k) ?_
      show Goes _ _ _ _ _ _ _ (T5.setTop (mkF m 56 #[.val (.int u0), .val (.int u1), .val (.int (u0 &&& (2147483647 : Int32))), .val (.int (u1 &&& (2147483647 : Int32))), .val (.long ((16 : Int64) + (((u0 &&& (2147483647 : Int32)).toInt64) * ((u1 &&& (2147483647 : Int32)).toInt64)))), .second, .val (.long (f1 (u0 &&& (2147483647 : Int32)) (u1 &&& (2147483647 : Int32)))), .second] [(.int (lcmpW ((f1 (u0 &&& (2147483647 : Int32)) (u1 &&& (2147483647 : Int32))) - ((16 : Int64) + (((u0 &&& (2147483647 : Int32)).toInt64) * ((u1 &&& (2147483647 : Int32)).toInt64)))) (8 : Int64)))]))
      by_cases hc8 : ((f1 (u0 &&& (2147483647 : Int32)) (u1 &&& (2147483647 : Int32))) - ((16 : Int64) + (((u0 &&& (2147483647 : Int32)).toInt64) * ((u1 &&& (2147483647 : Int32)).toInt64)))) < (8 : Int64)
      · refine Goes.of (fun t k => XS.ifNo X5.here hx rfl (hb hby at_56) rfl ((if0 _ _).trans (tlt ((lw_lt _ _).mpr hc8)).2.1) k) ?_
        show Goes _ _ _ _ _ _ _ (T5.setTop (mkF m 59 #[.val (.int u0), .val (.int u1), .val (.int (u0 &&& (2147483647 : Int32))), .val (.int (u1 &&& (2147483647 : Int32))), .val (.long ((16 : Int64) + (((u0 &&& (2147483647 : Int32)).toInt64) * ((u1 &&& (2147483647 : Int32)).toInt64)))), .second, .val (.long (f1 (u0 &&& (2147483647 : Int32)) (u1 &&& (2147483647 : Int32)))), .second] []))
        refine Goes.of (fun t k => XS.iconst X5.here hx rfl (hb hby at_59) k) ?_
        show Goes _ _ _ _ _ _ _ (T5.setTop (mkF m 60 #[.val (.int u0), .val (.int u1), .val (.int (u0 &&& (2147483647 : Int32))), .val (.int (u1 &&& (2147483647 : Int32))), .val (.long ((16 : Int64) + (((u0 &&& (2147483647 : Int32)).toInt64) * ((u1 &&& (2147483647 : Int32)).toInt64)))), .second, .val (.long (f1 (u0 &&& (2147483647 : Int32)) (u1 &&& (2147483647 : Int32)))), .second] [(.int (1 : Int32))]))
        refine Goes.of (fun t k => XS.goto X5.here hx rfl (pc0 := 60) (pc' := 64) rfl (hb hby at_60) (by decide) (by decide) k) ?_
        show Goes _ _ _ _ _ _ _ (T5.setTop (mkF m 64 #[.val (.int u0), .val (.int u1), .val (.int (u0 &&& (2147483647 : Int32))), .val (.int (u1 &&& (2147483647 : Int32))), .val (.long ((16 : Int64) + (((u0 &&& (2147483647 : Int32)).toInt64) * ((u1 &&& (2147483647 : Int32)).toInt64)))), .second, .val (.long (f1 (u0 &&& (2147483647 : Int32)) (u1 &&& (2147483647 : Int32)))), .second] [(.int (1 : Int32))]))
        exact Goes.fin X5 hlk (v := some (.int (1 : Int32))) (fun h => by rw [Bd.returns] at h; cases h) (fun fs hr => retN X5 hx (t := .boolean) Bd.returns (by simp) (hb hby at_64) hr) ⟨congrArg (fun z => some (Value.int z)) (by rw [f0, if_pos hc6, if_neg hc7, if_pos hc8] : (1 : Int32) = f0 u0 u1), N5, e5⟩ (by decide) (by decide)
      · refine Goes.of (fun t k => XS.ifYes X5.here hx rfl (pc0 := 56) (pc' := 63) rfl (hb hby at_56) rfl ((if0 _ _).trans (flt (fun q => hc8 ((lw_lt _ _).mp q))).2.1) (by decide) (by decide) k) ?_
        show Goes _ _ _ _ _ _ _ (T5.setTop (mkF m 63 #[.val (.int u0), .val (.int u1), .val (.int (u0 &&& (2147483647 : Int32))), .val (.int (u1 &&& (2147483647 : Int32))), .val (.long ((16 : Int64) + (((u0 &&& (2147483647 : Int32)).toInt64) * ((u1 &&& (2147483647 : Int32)).toInt64)))), .second, .val (.long (f1 (u0 &&& (2147483647 : Int32)) (u1 &&& (2147483647 : Int32)))), .second] []))
        refine Goes.of (fun t k => XS.iconst X5.here hx rfl (hb hby at_63) k) ?_
        show Goes _ _ _ _ _ _ _ (T5.setTop (mkF m 64 #[.val (.int u0), .val (.int u1), .val (.int (u0 &&& (2147483647 : Int32))), .val (.int (u1 &&& (2147483647 : Int32))), .val (.long ((16 : Int64) + (((u0 &&& (2147483647 : Int32)).toInt64) * ((u1 &&& (2147483647 : Int32)).toInt64)))), .second, .val (.long (f1 (u0 &&& (2147483647 : Int32)) (u1 &&& (2147483647 : Int32)))), .second] [(.int (0 : Int32))]))
        exact Goes.fin X5 hlk (v := some (.int (0 : Int32))) (fun h => by rw [Bd.returns] at h; cases h) (fun fs hr => retN X5 hx (t := .boolean) Bd.returns (by simp) (hb hby at_64) hr) ⟨congrArg (fun z => some (Value.int z)) (by rw [f0, if_pos hc6, if_neg hc7, if_neg hc8] : (0 : Int32) = f0 u0 u1), N5, e5⟩ (by decide) (by decide)
  · refine Goes.of (fun t k => XS.ifYes X5.here hx rfl (pc0 := 36) (pc' := 63) rfl (hb hby at_36) rfl ((if0 _ _).trans (feq (fun q => hc6 ((lw_eq _ _).mp q))).2) (by decide) (by decide) k) ?_
    show Goes _ _ _ _ _ _ _ (T5.setTop (mkF m 63 #[.val (.int u0), .val (.int u1), .val (.int (u0 &&& (2147483647 : Int32))), .val (.int (u1 &&& (2147483647 : Int32))), .val (.long ((16 : Int64) + (((u0 &&& (2147483647 : Int32)).toInt64) * ((u1 &&& (2147483647 : Int32)).toInt64)))), .second, .val (.long (f1 (u0 &&& (2147483647 : Int32)) (u1 &&& (2147483647 : Int32)))), .second] []))
    refine Goes.of (fun t k => XS.iconst X5.here hx rfl (hb hby at_63) k) ?_
    show Goes _ _ _ _ _ _ _ (T5.setTop (mkF m 64 #[.val (.int u0), .val (.int u1), .val (.int (u0 &&& (2147483647 : Int32))), .val (.int (u1 &&& (2147483647 : Int32))), .val (.long ((16 : Int64) + (((u0 &&& (2147483647 : Int32)).toInt64) * ((u1 &&& (2147483647 : Int32)).toInt64)))), .second, .val (.long (f1 (u0 &&& (2147483647 : Int32)) (u1 &&& (2147483647 : Int32)))), .second] [(.int (0 : Int32))]))
    exact Goes.fin X5 hlk (v := some (.int (0 : Int32))) (fun h => by rw [Bd.returns] at h; cases h) (fun fs hr => retN X5 hx (t := .boolean) Bd.returns (by simp) (hb hby at_64) hr) ⟨congrArg (fun z => some (Value.int z)) (by rw [f0, if_neg hc6] : (0 : Int32) = f0 u0 u1), N5, e5⟩ (by decide) (by decide)
theorem own_k8 : (8 : Int64).toInt = 8 := rfl
theorem own_al (q : Int64) (h0 : 0 ≤ q.toInt) (h1 : q.toInt ≤ 4611686018427387928) : (f2 q).toInt = (q.toInt + 7) / 8 * 8 := by
  unfold f2
  have e1 := c_ladd q 8
  have e2 := c_lsub (q + 8) 1
  have e3 := (c_ldiv (q + 8 - 1) 8 8 rfl (by decide)).1
  have e4 := c_lmul ((q + 8 - 1) / 8) 8
  have r1 := rng64 (q + 8)
  have r2 := rng64 (q + 8 - 1)
  have r3 := rng64 ((q + 8 - 1) / 8 * 8)
  have k1 : (1 : Int64).toInt = 1 := rfl
  rw [own_k8] at e1 e4
  rw [k1] at e2
  omega
theorem own_fin (q : Int64) (h0 : 0 ≤ q.toInt) (h1 : q.toInt ≤ 4611686018427387928) : f2 q - f2 q / 8 * 8 = 0 ∧ ¬ f2 q < q ∧ f2 q - q < 8 := by
  have a := own_al q h0 h1
  have e1 := (c_ldiv (f2 q) 8 8 rfl (by decide)).1
  have e2 := c_lmul (f2 q / 8) 8
  have e3 := c_lsub (f2 q) (f2 q / 8 * 8)
  have e4 := c_lsub (f2 q) q
  have r1 := rng64 (f2 q / 8 * 8)
  have r2 := rng64 (f2 q - f2 q / 8 * 8)
  have r3 := rng64 (f2 q - q)
  have z : (0 : Int64).toInt = 0 := rfl
  rw [own_k8] at e2
  refine ⟨Int64.toInt_inj.mp ?_, ?_, ?_⟩
  · rw [z]; omega
  · rw [Int64.lt_iff_toInt_lt]; omega
  · rw [Int64.lt_iff_toInt_lt, own_k8]; omega
theorem own_mask (u : Int32) : 0 ≤ (u &&& 2147483647).toInt64.toInt ∧ (u &&& 2147483647).toInt64.toInt < 2147483648 := by
  rw [c_i2l]
  have := c_and u 2147483647 (by decide)
  have k : (2147483647 : Int32).toInt = 2147483647 := rfl
  omega
theorem own_law (u0 u1 : Int32) : f0 u0 u1 = 1 := by
  have ha := own_mask u0
  have hb := own_mask u1
  unfold f0 f1
  generalize (u0 &&& 2147483647).toInt64 = a at ha ⊢
  generalize (u1 &&& 2147483647).toInt64 = b at hb ⊢
  have e1 := c_lmul a b
  have e2 := c_ladd 16 (a * b)
  have r1 := rng64 (a * b)
  have r2 := rng64 (16 + a * b)
  have k16 : (16 : Int64).toInt = 16 := rfl
  rw [k16] at e2
  have m1 : 0 ≤ a.toInt * b.toInt := Int.mul_nonneg ha.1 hb.1
  have m2 : a.toInt * b.toInt ≤ 2147483647 * 2147483647 := Int.mul_le_mul (by omega) (by omega) hb.1 (by decide)
  obtain ⟨q1, q2, q3⟩ := own_fin (16 + a * b) (by omega) (by omega)
  rw [if_pos q1, if_neg q2, if_pos q3]
set_option maxRecDepth 65536 in
set_option maxHeartbeats 40000000 in
theorem comes_1 {Post : Tables → Env → Array Value → State → Outcome → State → Prop} (hpost : ∀ tb e args s v u, (limb_1_1.after args s (.returned v) u = true ∧ limb_1_2.after args s (.returned v) u = true ∧ True) → FrameEnd s (.returned v) u (Jvm.fieldLocs frame_1_writes args s ++ Jvm.arrayLocs frame_1_arrays args s ++ Jvm.staticLocs frame_1_statics s) 0 0 → Post tb e args s (.returned v) u) :
    ArmFor flags0 classFile x code maxLocals ret World_1 tables_1 room_1 Calls_1 rest_1 Pre_1 Post := by
  intro l hfl _ _ p e ha hc hk s m args below hf hA hF happ hP
  obtain ⟨hcalls, hrest, hpre⟩ := hP
  obtain ⟨-, -, -, hnamed, -, -, -, hat⟩ := (Spec.applies_iff hf).mp happ
  obtain ⟨hg, hn⟩ := and_e (Cond.before_iff.mp (show (Jvm.Cond.and given_1 narrow_1).before args s = true from hpre))
  obtain ⟨g9, g10⟩ := and_e hg
  obtain ⟨g11, g12⟩ := and_e g10
  obtain ⟨w0, w1, rfl⟩ : ∃ w0 w1 : Value, args = #[w0, w1] := by
    have hs : args.size = 2 := by simpa [Cond.value, given_1] using g9
    obtain ⟨L⟩ := args
    match L, hs with
    | [w0, w1], _ => exact ⟨w0, w1, rfl⟩
  have hw := fun d (hd : d ∈ tables_1) => atoms_spec (ws := Jvm.Cond.code x code maxLocals ret :: tables_1) hat d (List.mem_cons_of_mem _ hd)
  obtain ⟨i0, ei0⟩ := is_v g11
  obtain rfl : w0 = (.int i0) := Option.some.inj ei0
  obtain ⟨i1, ei1⟩ := is_v g12
  obtain rfl : w1 = (.int i1) := Option.some.inj ei1
  obtain ⟨n, o, h1, h2, h3, _, L, rfl, ⟨rfl, N, -⟩, hq⟩ := rm0 l s _ hw tables_1 i0 i1 s.heap s.heap.size p e ha hc hk s m _ below hf ((Spec.applies_iff_loose hf).mp happ).1 ⟨rfl, State.Warmed39.refl s, rfl⟩ trivial
  exact ⟨n, _, h1, h2, h3, hpost _ _ _ _ _ _ ⟨Cond.after_iff.mpr rfl, Cond.after_iff.mpr (eq_i res_at (Term.int_eval (1)) (congrArg Value.int (own_law i0 i1))), trivial⟩ ⟨hq.1, hq.2.1, (hq.2.2.sift fun y hy => Or.inr (N y hy)).mono (by decide) (by decide)⟩⟩
theorem main_1_1 : Claimed_1_1 := comes_1 fun _ _ _ _ _ _ h hF => ⟨h.1, hF⟩
theorem main_1_2 : Claimed_1_2 := comes_1 fun _ _ _ _ _ _ h hF => ⟨h.2.1, hF⟩
end Jvm.Pilot.@@N@@
namespace Jvm.Pilot.@@N@@
open Jvm Jvm.ClassFile Sem Op Lib Jvm.Free Jvm.Stand Jvm.Pilot.@@N@@.Jvm.D
/-! MADE BY PROGRAM (witnessworld.py) out of the Statement's table words and the real class files: 9 classes; the members and pool entries that the words name. The judged class is class 1, her method 1. -/
namespace start1
open Jvm.ClassFile
def u (s : String) : CpInfo := .utf8 (stringToUtf16 s)
/-- a pool by its gaps: so many unusable entries, then the entry; so many at the end -/
def gap : Nat → List CpInfo → List CpInfo
  | 0, r => r
  | n + 1, r => .unusable :: gap n r
def poolList (es : List (Nat × CpInfo)) (last : Nat) : List CpInfo := es.foldr (fun e r => gap e.1 (e.2 :: r)) (gap last [])
def pool (es : List (Nat × CpInfo)) (last : Nat) : Array CpInfo := ⟨poolList es last⟩
def fileOf (pool : Array CpInfo) (this : Nat) (attrs : Array Attribute := #[]) (ms : Array MethodInfo := #[]) (fl : Nat := 33) (sup : Nat := 0) (ifs : Array Nat := #[]) (fds : Array FieldInfo := #[]) : ClassFile where
  minorVersion := 0
  majorVersion := 65
  constantPool := pool
  accessFlags := fl
  thisClass := this
  superClass := sup
  interfaces := ifs
  fields := fds
  methods := ms
  attributes := attrs
def plain (name : String) (sup : Option ClassId) : Class where
  name := name
  kind := .ordinary
  loader := none
  accessFlags := 33
  super := sup
  interfaces := #[]
  cf := none
  fields := #[]
  methods := #[]
  instanceTypes := #[]
  staticTypes := #[]
  resolved := #[]
  callSites := []
  init := .initialized
  statics := none
  mirror := none

def pool0 : Array CpInfo := pool [(5, u "<init>"), (0, u "()V"), (1, .class_ 10), (1, u "java/lang/Object")] 113

def k0m0 : Method := { name := "<init>", desc := "()V", sig := { parameters := [], returnType := none }, accessFlags := 1, code := none }
/-- java/lang/Object -/
def k0 : Class := { plain "java/lang/Object" none with
  accessFlags := 33
  interfaces := #[]
  cf := some (fileOf pool0 8 #[] #[{ accessFlags := 1, nameIndex := 5, descriptorIndex := 6, attributes := #[] }] 33 0 #[] #[])
  fields := #[]
  methods := #[k0m0]
  instanceTypes := #[]
  staticTypes := #[]
  resolved := Array.replicate 124 none
  statics := none }

def pool1 : Array CpInfo := pool [(2, .class_ 4), (1, u "java/lang/Object"), (0, u "<init>"), (0, u "()V"), (0, .integer 2147483647), (0, .long 16), (1, .methodref 11 12), (0, .class_ 13), (0, .nameAndType 14 15), (0, u "com/example/verbguard/verbguard/HeapEstimate"), (0, u "array"), (0, u "(II)J"), (0, .long 8), (1, .class_ 19), (0, u "com/example/verbguard/verbguard/HeapEstimateArrayPinLaw"), (2, u "law"), (0, u "(II)Z")] 3

def k1m0 : Method := { name := "<init>", desc := "()V", sig := { parameters := [], returnType := none }, accessFlags := 2, code := none }
def k1c1 : Code := { maxStack := 6, maxLocals := 8, code := code, exceptionTable := #[], attributes := #[] }
def k1m1 : Method := { name := "law", desc := "(II)Z", sig := { parameters := [.int, .int], returnType := some .boolean }, accessFlags := 9, code := some k1c1 }
/-- com/example/verbguard/verbguard/HeapEstimateArrayPinLaw -/
def k1 : Class := { plain "com/example/verbguard/verbguard/HeapEstimateArrayPinLaw" (some 0) with
  accessFlags := 49
  interfaces := #[]
  cf := some (fileOf pool1 18 #[] #[{ accessFlags := 2, nameIndex := 5, descriptorIndex := 6, attributes := #[] }, { accessFlags := 9, nameIndex := 22, descriptorIndex := 23, attributes := #[] }] 49 2 #[] #[])
  fields := #[]
  methods := #[k1m0, k1m1]
  instanceTypes := #[]
  staticTypes := #[]
  resolved := Array.replicate 27 none
  statics := none }

def pool2 : Array CpInfo := pool [(2, .class_ 4), (1, u "java/lang/Object"), (0, u "<init>"), (0, u "()V"), (0, .class_ 8), (0, u "com/example/verbguard/verbguard/HeapEstimate"), (4, .methodref 7 14), (0, .nameAndType 15 16), (0, u "aligned"), (0, u "(J)J"), (0, .long 16), (13, u "STRING"), (0, u "J"), (2, u "array"), (0, u "(II)J"), (25, .class_ 64), (1, u "com/example/verbguard/verbguard/HeapEstimate$Reading"), (5, u "I"), (2, u "TEXT_SEARCH"), (9, u "CLASS_TABLE"), (7, .long 8), (5, u "REFERENCE"), (2, u "OBJECT_HEADER"), (1, u "ARRAY_HEADER"), (1, u "ALIGNMENT"), (1, u "PATTERN"), (0, u "PATTERN_BYTES_PER_CHARACTER"), (1, u "LEAST_SEARCHED_TEXT"), (0, u "TEXT_ENDS"), (0, u "Ljava/lang/String;"), (2, u "SET_ESCAPES"), (2, u "BRACED_ESCAPES"), (2, u "HEX_DIGITS"), (2, u "OCTAL_DIGITS"), (2, u "FLAG_LETTERS"), (2, u "COMMENTS_MODE_SPACES"), (2, u "LINE_TERMINATORS"), (2, u "LIST_CAPACITY"), (13, .class_ 150), (0, u "com/example/verbguard/verbguard/HeapEstimate$OpenClass"), (0, .class_ 152), (0, u "com/example/verbguard/verbguard/HeapEstimate$GroupStart")] 4

def k2m0 : Method := { name := "<init>", desc := "()V", sig := { parameters := [], returnType := none }, accessFlags := 2, code := none }
def k2c1 : Code := { maxStack := 6, maxLocals := 2, code := prog_10_method_3_code, exceptionTable := #[], attributes := #[] }
def k2m1 : Method := { name := "array", desc := "(II)J", sig := { parameters := [.int, .int], returnType := some .long }, accessFlags := 8, code := some k2c1 }
def k2c2 : Code := { maxStack := 4, maxLocals := 2, code := prog_10_method_7_code, exceptionTable := #[], attributes := #[] }
def k2m2 : Method := { name := "aligned", desc := "(J)J", sig := { parameters := [.long], returnType := some .long }, accessFlags := 10, code := some k2c2 }
/-- com/example/verbguard/verbguard/HeapEstimate -/
def k2 : Class := { plain "com/example/verbguard/verbguard/HeapEstimate" (some 0) with
  accessFlags := 48
  interfaces := #[]
  cf := some (fileOf pool2 7 #[.nestMembers #[149, 151, 62]] #[{ accessFlags := 2, nameIndex := 5, descriptorIndex := 6, attributes := #[] }, { accessFlags := 8, nameIndex := 35, descriptorIndex := 36, attributes := #[] }, { accessFlags := 10, nameIndex := 15, descriptorIndex := 16, attributes := #[] }] 48 2 #[] #[{ accessFlags := 24, nameIndex := 97, descriptorIndex := 70, attributes := #[] }, { accessFlags := 26, nameIndex := 100, descriptorIndex := 70, attributes := #[] }, { accessFlags := 26, nameIndex := 102, descriptorIndex := 70, attributes := #[] }, { accessFlags := 26, nameIndex := 104, descriptorIndex := 70, attributes := #[] }, { accessFlags := 26, nameIndex := 31, descriptorIndex := 32, attributes := #[] }, { accessFlags := 26, nameIndex := 106, descriptorIndex := 32, attributes := #[] }, { accessFlags := 26, nameIndex := 107, descriptorIndex := 70, attributes := #[] }, { accessFlags := 26, nameIndex := 83, descriptorIndex := 32, attributes := #[] }, { accessFlags := 26, nameIndex := 73, descriptorIndex := 32, attributes := #[] }, { accessFlags := 26, nameIndex := 109, descriptorIndex := 70, attributes := #[] }, { accessFlags := 26, nameIndex := 110, descriptorIndex := 111, attributes := #[] }, { accessFlags := 26, nameIndex := 114, descriptorIndex := 111, attributes := #[] }, { accessFlags := 26, nameIndex := 117, descriptorIndex := 111, attributes := #[] }, { accessFlags := 26, nameIndex := 120, descriptorIndex := 111, attributes := #[] }, { accessFlags := 26, nameIndex := 123, descriptorIndex := 111, attributes := #[] }, { accessFlags := 26, nameIndex := 126, descriptorIndex := 111, attributes := #[] }, { accessFlags := 26, nameIndex := 129, descriptorIndex := 111, attributes := #[] }, { accessFlags := 26, nameIndex := 132, descriptorIndex := 111, attributes := #[] }, { accessFlags := 26, nameIndex := 135, descriptorIndex := 70, attributes := #[] }])
  fields := #[{ name := "REFERENCE", type := .int, accessFlags := 24, slot := 0, constantValue := 0 }, { name := "OBJECT_HEADER", type := .int, accessFlags := 26, slot := 1, constantValue := 0 }, { name := "ARRAY_HEADER", type := .int, accessFlags := 26, slot := 2, constantValue := 0 }, { name := "ALIGNMENT", type := .int, accessFlags := 26, slot := 3, constantValue := 0 }, { name := "STRING", type := .long, accessFlags := 26, slot := 4, constantValue := 0 }, { name := "PATTERN", type := .long, accessFlags := 26, slot := 5, constantValue := 0 }, { name := "PATTERN_BYTES_PER_CHARACTER", type := .int, accessFlags := 26, slot := 6, constantValue := 0 }, { name := "CLASS_TABLE", type := .long, accessFlags := 26, slot := 7, constantValue := 0 }, { name := "TEXT_SEARCH", type := .long, accessFlags := 26, slot := 8, constantValue := 0 }, { name := "LEAST_SEARCHED_TEXT", type := .int, accessFlags := 26, slot := 9, constantValue := 0 }, { name := "TEXT_ENDS", type := (.object "java/lang/String"), accessFlags := 26, slot := 10, constantValue := 0 }, { name := "SET_ESCAPES", type := (.object "java/lang/String"), accessFlags := 26, slot := 11, constantValue := 0 }, { name := "BRACED_ESCAPES", type := (.object "java/lang/String"), accessFlags := 26, slot := 12, constantValue := 0 }, { name := "HEX_DIGITS", type := (.object "java/lang/String"), accessFlags := 26, slot := 13, constantValue := 0 }, { name := "OCTAL_DIGITS", type := (.object "java/lang/String"), accessFlags := 26, slot := 14, constantValue := 0 }, { name := "FLAG_LETTERS", type := (.object "java/lang/String"), accessFlags := 26, slot := 15, constantValue := 0 }, { name := "COMMENTS_MODE_SPACES", type := (.object "java/lang/String"), accessFlags := 26, slot := 16, constantValue := 0 }, { name := "LINE_TERMINATORS", type := (.object "java/lang/String"), accessFlags := 26, slot := 17, constantValue := 0 }, { name := "LIST_CAPACITY", type := .int, accessFlags := 26, slot := 18, constantValue := 0 }]
  methods := #[k2m0, k2m1, k2m2]
  instanceTypes := #[]
  staticTypes := #[.int, .int, .int, .int, .long, .long, .int, .long, .long, .int, (.object "java/lang/String"), (.object "java/lang/String"), (.object "java/lang/String"), (.object "java/lang/String"), (.object "java/lang/String"), (.object "java/lang/String"), (.object "java/lang/String"), (.object "java/lang/String"), .int]
  resolved := Array.replicate 157 none
  statics := none }

def pool3 : Array CpInfo := pool [(1, u "java/lang/Cloneable"), (0, .class_ 1), (0, u "java/lang/Object"), (0, .class_ 3)] 3

/-- java/lang/Cloneable -/
def k3 : Class := { plain "java/lang/Cloneable" (some 0) with
  accessFlags := 1537
  interfaces := #[]
  cf := some (fileOf pool3 2 #[] #[] 1537 4 #[] #[])
  fields := #[]
  methods := #[]
  instanceTypes := #[]
  staticTypes := #[]
  resolved := Array.replicate 8 none
  statics := none }

def pool4 : Array CpInfo := pool [(1, u "java/io/Serializable"), (0, .class_ 1), (0, u "java/lang/Object"), (0, .class_ 3)] 3

/-- java/io/Serializable -/
def k4 : Class := { plain "java/io/Serializable" (some 0) with
  accessFlags := 1537
  interfaces := #[]
  cf := some (fileOf pool4 2 #[] #[] 1537 4 #[] #[])
  fields := #[]
  methods := #[]
  instanceTypes := #[]
  staticTypes := #[]
  resolved := Array.replicate 8 none
  statics := none }

/-- the primitive byte -/
def k5 : Class := { plain "byte" none with kind := .primitive 'B', accessFlags := 0x411 }
/-- [B -/
def k6 : Class := { plain "[B" (some 0) with kind := .array 5 .byte, interfaces := #[3, 4], accessFlags := 1041 }

/-- the primitive int -/
def k7 : Class := { plain "int" none with kind := .primitive 'I', accessFlags := 0x411 }
/-- [I -/
def k8 : Class := { plain "[I" (some 0) with kind := .array 7 .int, interfaces := #[3, 4], accessFlags := 1041 }

def heap : Heap := #[]
def classes : Array Class := #[k0, k1, k2, k3, k4, k5, k6, k7, k8]
def interned : List (Array UInt16 × Addr) := []
def slotsUsed : Nat := 0
def theMethod : MethodId := ⟨1, 1⟩
def args0 : Array Value := #[.int 5, .int 7]
def aboutOver (below : List Frame) : State where
  vm := { classes := classes, interned := interned.toArray }
  heap := heap
  slotsUsed := slotsUsed
  threads := #[{ frames := .invoking theMethod args0 :: below }]
def below0 : List Frame := [.native { method := ⟨0, 0⟩, args := #[] }]
def about1 : State := aboutOver below0
def p0 : Program := .bare "" "" ""
def e0 : Env := launch0.env 0 0 0
theorem w_frames : about1.frames = Frame.invoking theMethod args0 :: below0 := rfl
set_option maxRecDepth 65536 in
theorem w_args : argsFit about1.vm theMethod args0 = true := by decide +kernel
set_option maxRecDepth 65536 in
theorem w_heap : heapFits about1 = true := by decide +kernel
set_option maxRecDepth 65536 in
theorem w_runnable : about1.curStatus? = some .runnable := by decide +kernel
set_option maxRecDepth 65536 in
theorem w_alone : about1.alone = true := by decide +kernel
set_option maxRecDepth 65536 in
theorem w_named : about1.methodNamed? x = some theMethod := by decide +kernel
set_option maxRecDepth 65536 in
theorem w_hears : about1.hears theMethod below0 = true := by decide +kernel
set_option maxRecDepth 65536 in
theorem w_ripe : about1.ripe theMethod args0 below0 = true := by decide +kernel
theorem w_running : about1.status = .running := rfl
set_option maxRecDepth 65536 in
theorem w_room : about1.hasRoom e0.platform room_1 = true :=
  launch0.hasRoom_least _ room_1 (by decide +kernel) (by decide +kernel) (by decide +kernel) (by decide +kernel) (by decide +kernel) (by decide +kernel)
theorem allAtoms_all (ts : List Jvm.Cond) (a : Array Jvm.Value) (st : Jvm.State) : (allAtoms ts).before a st = ts.all (fun c => c.before a st) := by
  induction ts with
  | nil => rfl
  | cons c t ih =>
    show (Jvm.Cond.and c (allAtoms t)).before a st = _
    rw [Jvm.Cond.before_and, ih, List.all_cons]
def words1 : List Jvm.Cond := Jvm.Cond.code x code maxLocals ret :: tables_1
/-- a 'code' word, met by the world's own term for the bytes: nothing is compared byte by byte -/
theorem code_word {y : MethodName} {bytes : ByteArray} {mx : Nat} {rt : Option FieldType} {a : Array Value} {s : State} {m : MethodId} {meth : Method} {c : Code} (h1 : s.methodNamed? y = some m) (h2 : s.vm.method? m = some meth) (h3 : meth.code = some c) (h4 : c.code = bytes)
    (h5 : (c.maxLocals == mx && c.exceptionTable.isEmpty && decide (c.maxStack ≤ mostOperands) && decide (meth.sig.returnType = rt) && !meth.locks && decide (parseMethodDescriptor y.desc = some meth.sig)) = true) : (Jvm.Cond.code y bytes mx rt).before a s = true := by
  simp only [Bool.and_eq_true, beq_iff_eq, Bool.not_eq_true', decide_eq_true_eq] at h5
  obtain ⟨⟨⟨⟨⟨g1, g2⟩, g3⟩, g4⟩, g5⟩, g6⟩ := h5
  simp [Cond.before, Cond.holds, Cond.value, h1, h2, h3, h4, g1, g2, g3, g4, g5, g6]
def isCode : Jvm.Cond → Bool
  | .code _ _ _ _ => true
  | _ => false
theorem all_split {L : List Jvm.Cond} {P : Jvm.Cond → Bool} (h1 : L.all (fun c => isCode c || P c) = true) (h2 : ∀ c ∈ L.filter isCode, P c = true) : L.all P = true := by
  refine List.all_eq_true.mpr fun c hc => ?_
  have h := List.all_eq_true.mp h1 c hc
  rcases Bool.eq_false_or_eq_true (isCode c) with hi | hi
  · exact h2 c (List.mem_filter.mpr ⟨hc, hi⟩)
  · simpa [hi] using h
set_option maxRecDepth 65536 in
theorem w_c0 : (Jvm.Cond.code x code maxLocals ret).before args0 about1 = true := code_word (m := ⟨1, 1⟩) (meth := k1m1) (c := k1c1) (by decide +kernel) rfl rfl rfl (by decide +kernel)
set_option maxRecDepth 65536 in
theorem w_c1 : (Jvm.Cond.code ({ cls := "com/example/verbguard/verbguard/HeapEstimate", name := "array", desc := "(II)J" } : Jvm.MethodName) prog_10_method_3_code (2 : Nat) (Option.some Jvm.ClassFile.FieldType.long)).before args0 about1 = true := code_word (m := ⟨2, 1⟩) (meth := k2m1) (c := k2c1) (by decide +kernel) rfl rfl rfl (by decide +kernel)
set_option maxRecDepth 65536 in
theorem w_c2 : (Jvm.Cond.code ({ cls := "com/example/verbguard/verbguard/HeapEstimate", name := "aligned", desc := "(J)J" } : Jvm.MethodName) prog_10_method_7_code (2 : Nat) (Option.some Jvm.ClassFile.FieldType.long)).before args0 about1 = true := code_word (m := ⟨2, 2⟩) (meth := k2m2) (c := k2c2) (by decide +kernel) rfl rfl rfl (by decide +kernel)
def codes1 : List Jvm.Cond := [Jvm.Cond.code x code maxLocals ret, Jvm.Cond.code ({ cls := "com/example/verbguard/verbguard/HeapEstimate", name := "array", desc := "(II)J" } : Jvm.MethodName) prog_10_method_3_code (2 : Nat) (Option.some Jvm.ClassFile.FieldType.long), Jvm.Cond.code ({ cls := "com/example/verbguard/verbguard/HeapEstimate", name := "aligned", desc := "(J)J" } : Jvm.MethodName) prog_10_method_7_code (2 : Nat) (Option.some Jvm.ClassFile.FieldType.long)]
set_option maxRecDepth 65536 in
theorem codes_eq : words1.filter isCode = codes1 := rfl
theorem w_codes : ∀ c ∈ words1.filter isCode, c.before args0 about1 = true := by
  rw [codes_eq]
  intro c hc
  simp only [codes1, List.mem_cons, List.not_mem_nil, or_false] at hc
  rcases hc with rfl | rfl | rfl
  · exact w_c0
  · exact w_c1
  · exact w_c2
set_option maxRecDepth 65536 in
theorem w_t1 : words1.all (fun c => isCode c || c.before args0 about1) = true := by decide +kernel
theorem w_tables : (allAtoms (Jvm.Cond.code x code maxLocals ret :: tables_1)).before args0 about1 = true := by
  rw [allAtoms_all]
  show words1.all (fun c => c.before args0 about1) = true
  refine all_split ?_ w_codes
  rw [w_t1]
set_option maxRecDepth 65536 in
theorem w_case : (Jvm.Cond.and given_1 narrow_1).before args0 about1 = true := by decide +kernel
theorem w_applies : (headSpec (Jvm.Cond.code x code maxLocals ret :: tables_1) room_1).applies x e0.platform about1 = true :=
  (Spec.applies_iff w_frames).mpr ⟨w_running, w_runnable, w_alone, w_named, w_hears, w_ripe, w_room, w_tables⟩
theorem atStart : AtStart classFile x code maxLocals ret World_1 tables_1 room_1 Calls_1 rest_1 Pre_1 launch0 p0 e0 about1 theMethod args0 below0 :=
  ⟨lists_1, trivial, launch0.admits_env _ _ _, launch0.least_env, fairChoices_fair.cas, fairChoices_fair.clock, w_frames, w_args, w_heap, w_applies, trivial, trivial, w_case⟩
end start1
theorem witness_1 : WitnessClaimed_1 := ⟨start1.p0, start1.e0, start1.about1, start1.theMethod, start1.args0, start1.below0, start1.atStart⟩
end Jvm.Pilot.@@N@@
