import JvmDerived
import JvmDerived.Pilot.@@N@@Statement
import JvmDerived.Pilot.@@N@@Code
set_option linter.unusedVariables false
set_option linter.unusedSimpArgs false
namespace Jvm.RoadKit
open Sem ClassFile Op Lib Jvm.Stand Jvm.Free Jvm.LawKit
section New
variable {p : Program} {l : Launch} {e : Env} {R : Room} {s : State} {m : MethodId} {args : Array Value} {below : List Frame} {meth : Method} {c : Code} {T : State} {locs : List Loc} {cells slots : Nat}
theorem retI (X : Stand p l e R s m args below meth c T locs cells slots) (hx : p.tables.exec = Jvm.exec) {pc : Nat} {Ls : Array Slot} {z : Int32} {rest : List Value} (hret : meth.sig.returnType = some .int) (hd : decode c.code pc = .ok (.ireturn, 1)) {fs : List Frame}
    (hl : ∀ (f : JFrame) (acts : List Action), f.method = m → f.locked = none → f.entered = [] → (doReturn e (T.setTop f) acts (some (.int z))).1 = T.setFrames fs) : Steps p.tables e below (T.setTop (mkF m pc Ls (.int z :: rest))) (T.setFrames fs) := by
  have hm' : T.vm.method? m = some meth := X.method'
  have hn : narrow .int (.int z) = .int z := rfl
  show Steps p.tables e below (T.setTop { method := m, pc := pc, locals := Ls, stack := _ :: rest, locked := none }) _
  jvm_step X.here [X.here.top, hx, hd, hm', hret, hn]
  first | (intro acts; rw [hl _ acts rfl rfl rfl]) | rw [hl _ _ rfl rfl rfl]
  exact Steps.refl _
end New
end Jvm.RoadKit
namespace Jvm.Pilot.@@N@@
open Jvm Jvm.ClassFile Sem Op Lib Jvm.Free Jvm.Stand Jvm.LawKit Jvm.RoadKit Bundle Jvm.Pilot.@@N@@.Jvm.D
section OwnKit
variable {p : Program} {l : Launch} {e : Env} {R : Room} {s : State} {m : MethodId} {args : Array Value} {below : List Frame} {meth : Method} {c : Code} {T : State} {locs : List Loc} {cells slots : Nat}
/-- from S the run comes to a return of which F holds -/
def Goes (tb : Tables) (e : Env) (below : List Frame) (s : State) (F : Option Value → Heap → List Loc → Prop) (k n : Nat) (S : State) : Prop :=
  ∃ s₂ o, Steps tb e below S s₂ ∧ s₂.status = .running ∧ Ended s₂ below o ∧ ∃ v L, o = .returned v ∧ F v s₂.heap L ∧ FrameEnd s o s₂ L k n
theorem Goes.of {tb : Tables} {F : Option Value → Heap → List Loc → Prop} {k n : Nat} {S S' : State} (h : ∀ t, Steps tb e below S' t → Steps tb e below S t) (g : Goes tb e below s F k n S') : Goes tb e below s F k n S := by
  obtain ⟨s₂, o, h1, r⟩ := g
  exact ⟨s₂, o, h _ h1, r⟩
theorem Goes.mono {tb : Tables} {F G : Option Value → Heap → List Loc → Prop} {k n : Nat} {S : State} (h : ∀ v h L, F v h L → G v h L) (g : Goes tb e below s F k n S) : Goes tb e below s G k n S := by
  obtain ⟨s₂, o, h1, h2, h3, v, L, h4, h5, h6⟩ := g
  exact ⟨s₂, o, h1, h2, h3, v, L, h4, h _ _ _ h5, h6⟩
theorem Goes.fin (X : Stand p l e R s m args below meth c T locs cells slots) (hlk : meth.locks = false) {v : Option Value} {F : Option Value → Heap → List Loc → Prop} {k n : Nat} {S : State} (hv : meth.sig.returnType = none → v = none)
    (step : ∀ fs, (∀ (f : JFrame) (acts : List Action), f.method = m → f.locked = none → f.entered = [] → (doReturn e (T.setTop f) acts v).1 = T.setFrames fs) → Steps p.tables e below S (T.setFrames fs)) (hF : F v T.heap locs) (hk : cells ≤ k) (hn : slots ≤ n) : Goes p.tables e below s F k n S := by
  obtain ⟨fs, hr, hrun, hended, hW, hsame⟩ := X.leave hv hlk
  exact ⟨_, _, step fs hr, hrun, hended, v, locs, rfl, hF, ⟨_, rfl⟩, hW, hsame.mono hk hn⟩
end OwnKit
theorem d1_0 : decode prog_25_method_3_code 0 = .ok (.lload_n 0, 1) := by decide +kernel
theorem d1_1 : decode prog_25_method_3_code 1 = .ok (.lload_n 0, 1) := by decide +kernel
theorem d1_2 : decode prog_25_method_3_code 2 = .ok (.bipush 30, 2) := by decide +kernel
theorem d1_4 : decode prog_25_method_3_code 4 = .ok (.lushr, 1) := by decide +kernel
theorem d1_5 : decode prog_25_method_3_code 5 = .ok (.lxor, 1) := by decide +kernel
theorem d1_6 : decode prog_25_method_3_code 6 = .ok (.ldc2_w 11, 3) := by decide +kernel
theorem d1_9 : decode prog_25_method_3_code 9 = .ok (.lmul, 1) := by decide +kernel
theorem d1_10 : decode prog_25_method_3_code 10 = .ok (.lstore_n 2, 1) := by decide +kernel
theorem d1_11 : decode prog_25_method_3_code 11 = .ok (.lload_n 2, 1) := by decide +kernel
theorem d1_12 : decode prog_25_method_3_code 12 = .ok (.lload_n 2, 1) := by decide +kernel
theorem d1_13 : decode prog_25_method_3_code 13 = .ok (.bipush 27, 2) := by decide +kernel
theorem d1_15 : decode prog_25_method_3_code 15 = .ok (.lushr, 1) := by decide +kernel
theorem d1_16 : decode prog_25_method_3_code 16 = .ok (.lxor, 1) := by decide +kernel
theorem d1_17 : decode prog_25_method_3_code 17 = .ok (.ldc2_w 13, 3) := by decide +kernel
theorem d1_20 : decode prog_25_method_3_code 20 = .ok (.lmul, 1) := by decide +kernel
theorem d1_21 : decode prog_25_method_3_code 21 = .ok (.lstore_n 2, 1) := by decide +kernel
theorem d1_22 : decode prog_25_method_3_code 22 = .ok (.lload_n 2, 1) := by decide +kernel
theorem d1_23 : decode prog_25_method_3_code 23 = .ok (.lload_n 2, 1) := by decide +kernel
theorem d1_24 : decode prog_25_method_3_code 24 = .ok (.bipush 31, 2) := by decide +kernel
theorem d1_26 : decode prog_25_method_3_code 26 = .ok (.lushr, 1) := by decide +kernel
theorem d1_27 : decode prog_25_method_3_code 27 = .ok (.lxor, 1) := by decide +kernel
theorem d1_28 : decode prog_25_method_3_code 28 = .ok (.lreturn, 1) := by decide +kernel
theorem pn_0 : plainName "com/example/vhost/vhost/util/Hashes" = true := by first | (simp [plainName, overriddenIn]; done) | decide +kernel
theorem ef_1 (m : MethodId) (q1 : Int64) : entryFrame m #[(.long q1)] 4 = mkF m 0 #[.val (.long q1), .second, .unset, .unset] [] := by first | (simp [entryFrame, mkF, argsToLocals, Value.category]; done) | rfl
def f1 (q1 : Int64) : Int64 :=
  (((((q1 ^^^ ((q1.toUInt64 >>> ((30 : Int32) &&& 0x3f).toInt64.toUInt64).toInt64)) * (-4658895280553007687 : Int64)) ^^^ ((((q1 ^^^ ((q1.toUInt64 >>> ((30 : Int32) &&& 0x3f).toInt64.toUInt64).toInt64)) * (-4658895280553007687 : Int64)).toUInt64 >>> ((27 : Int32) &&& 0x3f).toInt64.toUInt64).toInt64)) * (-7723592293110705685 : Int64)) ^^^ ((((((q1 ^^^ ((q1.toUInt64 >>> ((30 : Int32) &&& 0x3f).toInt64.toUInt64).toInt64)) * (-4658895280553007687 : Int64)) ^^^ ((((q1 ^^^ ((q1.toUInt64 >>> ((30 : Int32) &&& 0x3f).toInt64.toUInt64).toInt64)) * (-4658895280553007687 : Int64)).toUInt64 >>> ((27 : Int32) &&& 0x3f).toInt64.toUInt64).toInt64)) * (-7723592293110705685 : Int64)).toUInt64 >>> ((31 : Int32) &&& 0x3f).toInt64.toUInt64).toInt64))
def Q1 (q1 : Int64) (h0 : Heap) (n0 : Nat) (v : Option Value) (h : Heap) (L : List Loc) : Prop := v = some (.long (f1 q1)) ∧ Fr n0 L ∧ h = h0
set_option maxRecDepth 65536 in
set_option maxHeartbeats 40000000 in
theorem rm1 (l : Launch) (Z : State) (a0 : Array Value) (hw : ∀ d ∈ tables_1, d.before a0 Z = true) (ws : List Jvm.Cond) (q1 : Int64) (h0 : Heap) (n0 : Nat) :
    MetFree l (⟨"com/example/vhost/vhost/util/Hashes", "mix", "(J)J"⟩ : MethodName) (head1 (Jvm.Cond.code (⟨"com/example/vhost/vhost/util/Hashes", "mix", "(J)J"⟩ : MethodName) prog_25_method_3_code 4 (some .long) :: ws) ({ frames := 0, cells := 0, slots := 0, locals := 0 } : Room)) (fun a U => a = #[(.long q1)] ∧ Z.Warmed39 U.vm ∧ U.heap = h0) (fun _ _ _ _ _ => True) (fun _ U o U' => ∃ v L, o = .returned v ∧ Q1 q1 h0 n0 v U'.heap L ∧ FrameEnd U o U' L 0 0) := by
  refine MetFree.of_bodySF (plainFor_of_name pn_0) hisR ?_
  intro p e s m args below meth c s₁ Bd hml0 hP hK
  obtain ⟨rfl, hZ, hh⟩ := hP
  have hx := Bd.exec
  have hby := Bd.bytes
  have hlk : meth.locks = false := BodyLoose.notSynchronized Bd
  have hml : c.maxLocals = 4 := hml0
  have hown : s.vm.findClass "com/example/vhost/vhost/util/Hashes" = some m.cls := findClass_of_methodNamed Bd.named
  have X0 : Stand p l e ({ frames := 0, cells := 0, slots := 0, locals := 0 } : Room) s m #[(.long q1)] below meth c s₁ [] 0 0 := Stand.of_body Bd
  have e0 : s₁.heap = h0 := by rw [← hh, Bd.state]; rfl
  have N0 := Fr.nil n0
  show Goes p.tables e below s (Q1 q1 h0 n0) 0 0 (s₁.setTop (entryFrame m #[(.long q1)] 4))
  refine Goes.of (fun t k => castTop (ef_1 m q1) k) ?_
  show Goes _ _ _ _ _ _ _ (s₁.setTop (mkF m 0 #[.val (.long q1), .second, .unset, .unset] []))
  refine Goes.of (fun t k => XS.lloadN X0.here hx rfl (hb hby d1_0) rfl k) ?_
  show Goes _ _ _ _ _ _ _ (s₁.setTop (mkF m 1 #[.val (.long q1), .second, .unset, .unset] [(.long q1)]))
  refine Goes.of (fun t k => XS.lloadN X0.here hx rfl (hb hby d1_1) rfl k) ?_
  show Goes _ _ _ _ _ _ _ (s₁.setTop (mkF m 2 #[.val (.long q1), .second, .unset, .unset] [(.long q1), (.long q1)]))
  refine Goes.of (fun t k => XS.bipush X0.here hx rfl (hb hby d1_2) k) ?_
  show Goes _ _ _ _ _ _ _ (s₁.setTop (mkF m 4 #[.val (.long q1), .second, .unset, .unset] [(.int (30 : Int32)), (.long q1), (.long q1)]))
  refine Goes.of (fun t k => XS.lushr X0.here hx rfl (hb hby d1_4) rfl k) ?_
  show Goes _ _ _ _ _ _ _ (s₁.setTop (mkF m 5 #[.val (.long q1), .second, .unset, .unset] [(.long ((q1.toUInt64 >>> ((30 : Int32) &&& 0x3f).toInt64.toUInt64).toInt64)), (.long q1)]))
  refine Goes.of (fun t k => XS.lxor X0.here hx rfl (hb hby d1_5) rfl k) ?_
  show Goes _ _ _ _ _ _ _ (s₁.setTop (mkF m 6 #[.val (.long q1), .second, .unset, .unset] [(.long (q1 ^^^ ((q1.toUInt64 >>> ((30 : Int32) &&& 0x3f).toInt64.toUInt64).toInt64)))]))
  refine Goes.of (fun t k => X0.ldc2Long hx hown (mvT hZ (hw _ (List.mem_of_getElem? (i := 4) rfl))) (g := (mkF m 6 #[.val (.long q1), .second, .unset, .unset] [(.long (q1 ^^^ ((q1.toUInt64 >>> ((30 : Int32) &&& 0x3f).toInt64.toUInt64).toInt64)))])) rfl (hb hby d1_6) t k) ?_
  show Goes _ _ _ _ _ _ _ (s₁.setTop (mkF m 9 #[.val (.long q1), .second, .unset, .unset] [(.long (-4658895280553007687 : Int64)), (.long (q1 ^^^ ((q1.toUInt64 >>> ((30 : Int32) &&& 0x3f).toInt64.toUInt64).toInt64)))]))
  refine Goes.of (fun t k => XS.lmul X0.here hx rfl (hb hby d1_9) rfl k) ?_
  show Goes _ _ _ _ _ _ _ (s₁.setTop (mkF m 10 #[.val (.long q1), .second, .unset, .unset] [(.long ((q1 ^^^ ((q1.toUInt64 >>> ((30 : Int32) &&& 0x3f).toInt64.toUInt64).toInt64)) * (-4658895280553007687 : Int64)))]))
  refine Goes.of (fun t k => XS.lstoreN X0.here hx rfl (hb hby d1_10) rfl (l' := #[.val (.long q1), .second, .val (.long ((q1 ^^^ ((q1.toUInt64 >>> ((30 : Int32) &&& 0x3f).toInt64.toUInt64).toInt64)) * (-4658895280553007687 : Int64))), .second]) rfl k) ?_
  show Goes _ _ _ _ _ _ _ (s₁.setTop (mkF m 11 #[.val (.long q1), .second, .val (.long ((q1 ^^^ ((q1.toUInt64 >>> ((30 : Int32) &&& 0x3f).toInt64.toUInt64).toInt64)) * (-4658895280553007687 : Int64))), .second] []))
  refine Goes.of (fun t k => XS.lloadN X0.here hx rfl (hb hby d1_11) rfl k) ?_
  show Goes _ _ _ _ _ _ _ (s₁.setTop (mkF m 12 #[.val (.long q1), .second, .val (.long ((q1 ^^^ ((q1.toUInt64 >>> ((30 : Int32) &&& 0x3f).toInt64.toUInt64).toInt64)) * (-4658895280553007687 : Int64))), .second] [(.long ((q1 ^^^ ((q1.toUInt64 >>> ((30 : Int32) &&& 0x3f).toInt64.toUInt64).toInt64)) * (-4658895280553007687 : Int64)))]))
  refine Goes.of (fun t k => XS.lloadN X0.here hx rfl (hb hby d1_12) rfl k) ?_
  show Goes _ _ _ _ _ _ _ (s₁.setTop (mkF m 13 #[.val (.long q1), .second, .val (.long ((q1 ^^^ ((q1.toUInt64 >>> ((30 : Int32) &&& 0x3f).toInt64.toUInt64).toInt64)) * (-4658895280553007687 : Int64))), .second] [(.long ((q1 ^^^ ((q1.toUInt64 >>> ((30 : Int32) &&& 0x3f).toInt64.toUInt64).toInt64)) * (-4658895280553007687 : Int64))), (.long ((q1 ^^^ ((q1.toUInt64 >>> ((30 : Int32) &&& 0x3f).toInt64.toUInt64).toInt64)) * (-4658895280553007687 : Int64)))]))
  refine Goes.of (fun t k => XS.bipush X0.here hx rfl (hb hby d1_13) k) ?_
  show Goes _ _ _ _ _ _ _ (s₁.setTop (mkF m 15 #[.val (.long q1), .second, .val (.long ((q1 ^^^ ((q1.toUInt64 >>> ((30 : Int32) &&& 0x3f).toInt64.toUInt64).toInt64)) * (-4658895280553007687 : Int64))), .second] [(.int (27 : Int32)), (.long ((q1 ^^^ ((q1.toUInt64 >>> ((30 : Int32) &&& 0x3f).toInt64.toUInt64).toInt64)) * (-4658895280553007687 : Int64))), (.long ((q1 ^^^ ((q1.toUInt64 >>> ((30 : Int32) &&& 0x3f).toInt64.toUInt64).toInt64)) * (-4658895280553007687 : Int64)))]))
  refine Goes.of (fun t k => XS.lushr X0.here hx rfl (hb hby d1_15) rfl k) ?_
  show Goes _ _ _ _ _ _ _ (s₁.setTop (mkF m 16 #[.val (.long q1), .second, .val (.long ((q1 ^^^ ((q1.toUInt64 >>> ((30 : Int32) &&& 0x3f).toInt64.toUInt64).toInt64)) * (-4658895280553007687 : Int64))), .second] [(.long ((((q1 ^^^ ((q1.toUInt64 >>> ((30 : Int32) &&& 0x3f).toInt64.toUInt64).toInt64)) * (-4658895280553007687 : Int64)).toUInt64 >>> ((27 : Int32) &&& 0x3f).toInt64.toUInt64).toInt64)), (.long ((q1 ^^^ ((q1.toUInt64 >>> ((30 : Int32) &&& 0x3f).toInt64.toUInt64).toInt64)) * (-4658895280553007687 : Int64)))]))
  refine Goes.of (fun t k => XS.lxor X0.here hx rfl (hb hby d1_16) rfl k) ?_
  show Goes _ _ _ _ _ _ _ (s₁.setTop (mkF m 17 #[.val (.long q1), .second, .val (.long ((q1 ^^^ ((q1.toUInt64 >>> ((30 : Int32) &&& 0x3f).toInt64.toUInt64).toInt64)) * (-4658895280553007687 : Int64))), .second] [(.long (((q1 ^^^ ((q1.toUInt64 >>> ((30 : Int32) &&& 0x3f).toInt64.toUInt64).toInt64)) * (-4658895280553007687 : Int64)) ^^^ ((((q1 ^^^ ((q1.toUInt64 >>> ((30 : Int32) &&& 0x3f).toInt64.toUInt64).toInt64)) * (-4658895280553007687 : Int64)).toUInt64 >>> ((27 : Int32) &&& 0x3f).toInt64.toUInt64).toInt64)))]))
  refine Goes.of (fun t k => X0.ldc2Long hx hown (mvT hZ (hw _ (List.mem_of_getElem? (i := 5) rfl))) (g := (mkF m 17 #[.val (.long q1), .second, .val (.long ((q1 ^^^ ((q1.toUInt64 >>> ((30 : Int32) &&& 0x3f).toInt64.toUInt64).toInt64)) * (-4658895280553007687 : Int64))), .second] [(.long (((q1 ^^^ ((q1.toUInt64 >>> ((30 : Int32) &&& 0x3f).toInt64.toUInt64).toInt64)) * (-4658895280553007687 : Int64)) ^^^ ((((q1 ^^^ ((q1.toUInt64 >>> ((30 : Int32) &&& 0x3f).toInt64.toUInt64).toInt64)) * (-4658895280553007687 : Int64)).toUInt64 >>> ((27 : Int32) &&& 0x3f).toInt64.toUInt64).toInt64)))])) rfl (hb hby d1_17) t k) ?_
  show Goes _ _ _ _ _ _ _ (s₁.setTop (mkF m 20 #[.val (.long q1), .second, .val (.long ((q1 ^^^ ((q1.toUInt64 >>> ((30 : Int32) &&& 0x3f).toInt64.toUInt64).toInt64)) * (-4658895280553007687 : Int64))), .second] [(.long (-7723592293110705685 : Int64)), (.long (((q1 ^^^ ((q1.toUInt64 >>> ((30 : Int32) &&& 0x3f).toInt64.toUInt64).toInt64)) * (-4658895280553007687 : Int64)) ^^^ ((((q1 ^^^ ((q1.toUInt64 >>> ((30 : Int32) &&& 0x3f).toInt64.toUInt64).toInt64)) * (-4658895280553007687 : Int64)).toUInt64 >>> ((27 : Int32) &&& 0x3f).toInt64.toUInt64).toInt64)))]))
  refine Goes.of (fun t k => XS.lmul X0.here hx rfl (hb hby d1_20) rfl k) ?_
  show Goes _ _ _ _ _ _ _ (s₁.setTop (mkF m 21 #[.val (.long q1), .second, .val (.long ((q1 ^^^ ((q1.toUInt64 >>> ((30 : Int32) &&& 0x3f).toInt64.toUInt64).toInt64)) * (-4658895280553007687 : Int64))), .second] [(.long ((((q1 ^^^ ((q1.toUInt64 >>> ((30 : Int32) &&& 0x3f).toInt64.toUInt64).toInt64)) * (-4658895280553007687 : Int64)) ^^^ ((((q1 ^^^ ((q1.toUInt64 >>> ((30 : Int32) &&& 0x3f).toInt64.toUInt64).toInt64)) * (-4658895280553007687 : Int64)).toUInt64 >>> ((27 : Int32) &&& 0x3f).toInt64.toUInt64).toInt64)) * (-7723592293110705685 : Int64)))]))
  refine Goes.of (fun t k => XS.lstoreN X0.here hx rfl (hb hby d1_21) rfl (l' := #[.val (.long q1), .second, .val (.long ((((q1 ^^^ ((q1.toUInt64 >>> ((30 : Int32) &&& 0x3f).toInt64.toUInt64).toInt64)) * (-4658895280553007687 : Int64)) ^^^ ((((q1 ^^^ ((q1.toUInt64 >>> ((30 : Int32) &&& 0x3f).toInt64.toUInt64).toInt64)) * (-4658895280553007687 : Int64)).toUInt64 >>> ((27 : Int32) &&& 0x3f).toInt64.toUInt64).toInt64)) * (-7723592293110705685 : Int64))), .second]) rfl k) ?_
  show Goes _ _ _ _ _ _ _ (s₁.setTop (mkF m 22 #[.val (.long q1), .second, .val (.long ((((q1 ^^^ ((q1.toUInt64 >>> ((30 : Int32) &&& 0x3f).toInt64.toUInt64).toInt64)) * (-4658895280553007687 : Int64)) ^^^ ((((q1 ^^^ ((q1.toUInt64 >>> ((30 : Int32) &&& 0x3f).toInt64.toUInt64).toInt64)) * (-4658895280553007687 : Int64)).toUInt64 >>> ((27 : Int32) &&& 0x3f).toInt64.toUInt64).toInt64)) * (-7723592293110705685 : Int64))), .second] []))
  refine Goes.of (fun t k => XS.lloadN X0.here hx rfl (hb hby d1_22) rfl k) ?_
  show Goes _ _ _ _ _ _ _ (s₁.setTop (mkF m 23 #[.val (.long q1), .second, .val (.long ((((q1 ^^^ ((q1.toUInt64 >>> ((30 : Int32) &&& 0x3f).toInt64.toUInt64).toInt64)) * (-4658895280553007687 : Int64)) ^^^ ((((q1 ^^^ ((q1.toUInt64 >>> ((30 : Int32) &&& 0x3f).toInt64.toUInt64).toInt64)) * (-4658895280553007687 : Int64)).toUInt64 >>> ((27 : Int32) &&& 0x3f).toInt64.toUInt64).toInt64)) * (-7723592293110705685 : Int64))), .second] [(.long ((((q1 ^^^ ((q1.toUInt64 >>> ((30 : Int32) &&& 0x3f).toInt64.toUInt64).toInt64)) * (-4658895280553007687 : Int64)) ^^^ ((((q1 ^^^ ((q1.toUInt64 >>> ((30 : Int32) &&& 0x3f).toInt64.toUInt64).toInt64)) * (-4658895280553007687 : Int64)).toUInt64 >>> ((27 : Int32) &&& 0x3f).toInt64.toUInt64).toInt64)) * (-7723592293110705685 : Int64)))]))
  refine Goes.of (fun t k => XS.lloadN X0.here hx rfl (hb hby d1_23) rfl k) ?_
  show Goes _ _ _ _ _ _ _ (s₁.setTop (mkF m 24 #[.val (.long q1), .second, .val (.long ((((q1 ^^^ ((q1.toUInt64 >>> ((30 : Int32) &&& 0x3f).toInt64.toUInt64).toInt64)) * (-4658895280553007687 : Int64)) ^^^ ((((q1 ^^^ ((q1.toUInt64 >>> ((30 : Int32) &&& 0x3f).toInt64.toUInt64).toInt64)) * (-4658895280553007687 : Int64)).toUInt64 >>> ((27 : Int32) &&& 0x3f).toInt64.toUInt64).toInt64)) * (-7723592293110705685 : Int64))), .second] [(.long ((((q1 ^^^ ((q1.toUInt64 >>> ((30 : Int32) &&& 0x3f).toInt64.toUInt64).toInt64)) * (-4658895280553007687 : Int64)) ^^^ ((((q1 ^^^ ((q1.toUInt64 >>> ((30 : Int32) &&& 0x3f).toInt64.toUInt64).toInt64)) * (-4658895280553007687 : Int64)).toUInt64 >>> ((27 : Int32) &&& 0x3f).toInt64.toUInt64).toInt64)) * (-7723592293110705685 : Int64))), (.long ((((q1 ^^^ ((q1.toUInt64 >>> ((30 : Int32) &&& 0x3f).toInt64.toUInt64).toInt64)) * (-4658895280553007687 : Int64)) ^^^ ((((q1 ^^^ ((q1.toUInt64 >>> ((30 : Int32) &&& 0x3f).toInt64.toUInt64).toInt64)) * (-4658895280553007687 : Int64)).toUInt64 >>> ((27 : Int32) &&& 0x3f).toInt64.toUInt64).toInt64)) * (-7723592293110705685 : Int64)))]))
  refine Goes.of (fun t k => XS.bipush X0.here hx rfl (hb hby d1_24) k) ?_
  show Goes _ _ _ _ _ _ _ (s₁.setTop (mkF m 26 #[.val (.long q1), .second, .val (.long ((((q1 ^^^ ((q1.toUInt64 >>> ((30 : Int32) &&& 0x3f).toInt64.toUInt64).toInt64)) * (-4658895280553007687 : Int64)) ^^^ ((((q1 ^^^ ((q1.toUInt64 >>> ((30 : Int32) &&& 0x3f).toInt64.toUInt64).toInt64)) * (-4658895280553007687 : Int64)).toUInt64 >>> ((27 : Int32) &&& 0x3f).toInt64.toUInt64).toInt64)) * (-7723592293110705685 : Int64))), .second] [(.int (31 : Int32)), (.long ((((q1 ^^^ ((q1.toUInt64 >>> ((30 : Int32) &&& 0x3f).toInt64.toUInt64).toInt64)) * (-4658895280553007687 : Int64)) ^^^ ((((q1 ^^^ ((q1.toUInt64 >>> ((30 : Int32) &&& 0x3f).toInt64.toUInt64).toInt64)) * (-4658895280553007687 : Int64)).toUInt64 >>> ((27 : Int32) &&& 0x3f).toInt64.toUInt64).toInt64)) * (-7723592293110705685 : Int64))), (.long ((((q1 ^^^ ((q1.toUInt64 >>> ((30 : Int32) &&& 0x3f).toInt64.toUInt64).toInt64)) * (-4658895280553007687 : Int64)) ^^^ ((((q1 ^^^ ((q1.toUInt64 >>> ((30 : Int32) &&& 0x3f).toInt64.toUInt64).toInt64)) * (-4658895280553007687 : Int64)).toUInt64 >>> ((27 : Int32) &&& 0x3f).toInt64.toUInt64).toInt64)) * (-7723592293110705685 : Int64)))]))
  refine Goes.of (fun t k => XS.lushr X0.here hx rfl (hb hby d1_26) rfl k) ?_
  show Goes _ _ _ _ _ _ _ (s₁.setTop (mkF m 27 #[.val (.long q1), .second, .val (.long ((((q1 ^^^ ((q1.toUInt64 >>> ((30 : Int32) &&& 0x3f).toInt64.toUInt64).toInt64)) * (-4658895280553007687 : Int64)) ^^^ ((((q1 ^^^ ((q1.toUInt64 >>> ((30 : Int32) &&& 0x3f).toInt64.toUInt64).toInt64)) * (-4658895280553007687 : Int64)).toUInt64 >>> ((27 : Int32) &&& 0x3f).toInt64.toUInt64).toInt64)) * (-7723592293110705685 : Int64))), .second] [(.long ((((((q1 ^^^ ((q1.toUInt64 >>> ((30 : Int32) &&& 0x3f).toInt64.toUInt64).toInt64)) * (-4658895280553007687 : Int64)) ^^^ ((((q1 ^^^ ((q1.toUInt64 >>> ((30 : Int32) &&& 0x3f).toInt64.toUInt64).toInt64)) * (-4658895280553007687 : Int64)).toUInt64 >>> ((27 : Int32) &&& 0x3f).toInt64.toUInt64).toInt64)) * (-7723592293110705685 : Int64)).toUInt64 >>> ((31 : Int32) &&& 0x3f).toInt64.toUInt64).toInt64)), (.long ((((q1 ^^^ ((q1.toUInt64 >>> ((30 : Int32) &&& 0x3f).toInt64.toUInt64).toInt64)) * (-4658895280553007687 : Int64)) ^^^ ((((q1 ^^^ ((q1.toUInt64 >>> ((30 : Int32) &&& 0x3f).toInt64.toUInt64).toInt64)) * (-4658895280553007687 : Int64)).toUInt64 >>> ((27 : Int32) &&& 0x3f).toInt64.toUInt64).toInt64)) * (-7723592293110705685 : Int64)))]))
  refine Goes.of (fun t k => XS.lxor X0.here hx rfl (hb hby d1_27) rfl k) ?_
  show Goes _ _ _ _ _ _ _ (s₁.setTop (mkF m 28 #[.val (.long q1), .second, .val (.long ((((q1 ^^^ ((q1.toUInt64 >>> ((30 : Int32) &&& 0x3f).toInt64.toUInt64).toInt64)) * (-4658895280553007687 : Int64)) ^^^ ((((q1 ^^^ ((q1.toUInt64 >>> ((30 : Int32) &&& 0x3f).toInt64.toUInt64).toInt64)) * (-4658895280553007687 : Int64)).toUInt64 >>> ((27 : Int32) &&& 0x3f).toInt64.toUInt64).toInt64)) * (-7723592293110705685 : Int64))), .second] [(.long (((((q1 ^^^ ((q1.toUInt64 >>> ((30 : Int32) &&& 0x3f).toInt64.toUInt64).toInt64)) * (-4658895280553007687 : Int64)) ^^^ ((((q1 ^^^ ((q1.toUInt64 >>> ((30 : Int32) &&& 0x3f).toInt64.toUInt64).toInt64)) * (-4658895280553007687 : Int64)).toUInt64 >>> ((27 : Int32) &&& 0x3f).toInt64.toUInt64).toInt64)) * (-7723592293110705685 : Int64)) ^^^ ((((((q1 ^^^ ((q1.toUInt64 >>> ((30 : Int32) &&& 0x3f).toInt64.toUInt64).toInt64)) * (-4658895280553007687 : Int64)) ^^^ ((((q1 ^^^ ((q1.toUInt64 >>> ((30 : Int32) &&& 0x3f).toInt64.toUInt64).toInt64)) * (-4658895280553007687 : Int64)).toUInt64 >>> ((27 : Int32) &&& 0x3f).toInt64.toUInt64).toInt64)) * (-7723592293110705685 : Int64)).toUInt64 >>> ((31 : Int32) &&& 0x3f).toInt64.toUInt64).toInt64)))]))
  exact Goes.fin X0 hlk (v := some (.long (((((q1 ^^^ ((q1.toUInt64 >>> ((30 : Int32) &&& 0x3f).toInt64.toUInt64).toInt64)) * (-4658895280553007687 : Int64)) ^^^ ((((q1 ^^^ ((q1.toUInt64 >>> ((30 : Int32) &&& 0x3f).toInt64.toUInt64).toInt64)) * (-4658895280553007687 : Int64)).toUInt64 >>> ((27 : Int32) &&& 0x3f).toInt64.toUInt64).toInt64)) * (-7723592293110705685 : Int64)) ^^^ ((((((q1 ^^^ ((q1.toUInt64 >>> ((30 : Int32) &&& 0x3f).toInt64.toUInt64).toInt64)) * (-4658895280553007687 : Int64)) ^^^ ((((q1 ^^^ ((q1.toUInt64 >>> ((30 : Int32) &&& 0x3f).toInt64.toUInt64).toInt64)) * (-4658895280553007687 : Int64)).toUInt64 >>> ((27 : Int32) &&& 0x3f).toInt64.toUInt64).toInt64)) * (-7723592293110705685 : Int64)).toUInt64 >>> ((31 : Int32) &&& 0x3f).toInt64.toUInt64).toInt64)))) (fun h => by rw [Bd.returns] at h; cases h) (fun fs hr => retOut X0 hx Bd.returns (by rfl) (Or.inr (Or.inl ⟨rfl, rfl, _, rfl⟩)) (hb hby d1_28) hr) ⟨congrArg (fun z => some (Value.long z)) (by rw [f1] : (((((q1 ^^^ ((q1.toUInt64 >>> ((30 : Int32) &&& 0x3f).toInt64.toUInt64).toInt64)) * (-4658895280553007687 : Int64)) ^^^ ((((q1 ^^^ ((q1.toUInt64 >>> ((30 : Int32) &&& 0x3f).toInt64.toUInt64).toInt64)) * (-4658895280553007687 : Int64)).toUInt64 >>> ((27 : Int32) &&& 0x3f).toInt64.toUInt64).toInt64)) * (-7723592293110705685 : Int64)) ^^^ ((((((q1 ^^^ ((q1.toUInt64 >>> ((30 : Int32) &&& 0x3f).toInt64.toUInt64).toInt64)) * (-4658895280553007687 : Int64)) ^^^ ((((q1 ^^^ ((q1.toUInt64 >>> ((30 : Int32) &&& 0x3f).toInt64.toUInt64).toInt64)) * (-4658895280553007687 : Int64)).toUInt64 >>> ((27 : Int32) &&& 0x3f).toInt64.toUInt64).toInt64)) * (-7723592293110705685 : Int64)).toUInt64 >>> ((31 : Int32) &&& 0x3f).toInt64.toUInt64).toInt64)) = f1 q1), N0, e0⟩ (by decide) (by decide)
theorem d2_0 : decode method_3_code 0 = .ok (.lload_n 0, 1) := by decide +kernel
theorem d2_1 : decode method_3_code 1 = .ok (.lload_n 0, 1) := by decide +kernel
theorem d2_2 : decode method_3_code 2 = .ok (.iload_n 2, 1) := by decide +kernel
theorem d2_3 : decode method_3_code 3 = .ok (.lushr, 1) := by decide +kernel
theorem d2_4 : decode method_3_code 4 = .ok (.lxor, 1) := by decide +kernel
theorem d2_5 : decode method_3_code 5 = .ok (.lload_n 0, 1) := by decide +kernel
theorem d2_6 : decode method_3_code 6 = .ok (.iconst 2, 1) := by decide +kernel
theorem d2_7 : decode method_3_code 7 = .ok (.iload_n 2, 1) := by decide +kernel
theorem d2_8 : decode method_3_code 8 = .ok (.imul, 1) := by decide +kernel
theorem d2_9 : decode method_3_code 9 = .ok (.lushr, 1) := by decide +kernel
theorem d2_10 : decode method_3_code 10 = .ok (.lxor, 1) := by decide +kernel
theorem d2_11 : decode method_3_code 11 = .ok (.lreturn, 1) := by decide +kernel
theorem pn_1 : plainName "com/example/vhost/vhost/util/HashesMixPinLaw" = true := by first | (simp [plainName, overriddenIn]; done) | decide +kernel
theorem ef_2 (m : MethodId) (q2 : Int64) (p3 : Int32) : entryFrame m #[(.long q2), (.int p3)] 3 = mkF m 0 #[.val (.long q2), .second, .val (.int p3)] [] := by first | (simp [entryFrame, mkF, argsToLocals, Value.category]; done) | rfl
def f2 (q2 : Int64) (p3 : Int32) : Int64 :=
  ((q2 ^^^ ((q2.toUInt64 >>> (p3 &&& 0x3f).toInt64.toUInt64).toInt64)) ^^^ ((q2.toUInt64 >>> (((2 : Int32) * p3) &&& 0x3f).toInt64.toUInt64).toInt64))
def Q2 (q2 : Int64) (p3 : Int32) (h0 : Heap) (n0 : Nat) (v : Option Value) (h : Heap) (L : List Loc) : Prop := v = some (.long (f2 q2 p3)) ∧ Fr n0 L ∧ h = h0
set_option maxRecDepth 65536 in
set_option maxHeartbeats 40000000 in
theorem rm2 (l : Launch) (Z : State) (a0 : Array Value) (hw : ∀ d ∈ tables_1, d.before a0 Z = true) (ws : List Jvm.Cond) (q2 : Int64) (p3 : Int32) (h0 : Heap) (n0 : Nat) :
    MetFree l (⟨"com/example/vhost/vhost/util/HashesMixPinLaw", "unxs", "(JI)J"⟩ : MethodName) (head1 (Jvm.Cond.code (⟨"com/example/vhost/vhost/util/HashesMixPinLaw", "unxs", "(JI)J"⟩ : MethodName) method_3_code 3 (some .long) :: ws) ({ frames := 0, cells := 0, slots := 0, locals := 0 } : Room)) (fun a U => a = #[(.long q2), (.int p3)] ∧ Z.Warmed39 U.vm ∧ U.heap = h0) (fun _ _ _ _ _ => True) (fun _ U o U' => ∃ v L, o = .returned v ∧ Q2 q2 p3 h0 n0 v U'.heap L ∧ FrameEnd U o U' L 0 0) := by
  refine MetFree.of_bodySF (plainFor_of_name pn_1) hisR ?_
  intro p e s m args below meth c s₁ Bd hml0 hP hK
  obtain ⟨rfl, hZ, hh⟩ := hP
  have hx := Bd.exec
  have hby := Bd.bytes
  have hlk : meth.locks = false := BodyLoose.notSynchronized Bd
  have hml : c.maxLocals = 3 := hml0
  have hown : s.vm.findClass "com/example/vhost/vhost/util/HashesMixPinLaw" = some m.cls := findClass_of_methodNamed Bd.named
  have X0 : Stand p l e ({ frames := 0, cells := 0, slots := 0, locals := 0 } : Room) s m #[(.long q2), (.int p3)] below meth c s₁ [] 0 0 := Stand.of_body Bd
  have e0 : s₁.heap = h0 := by rw [← hh, Bd.state]; rfl
  have N0 := Fr.nil n0
  show Goes p.tables e below s (Q2 q2 p3 h0 n0) 0 0 (s₁.setTop (entryFrame m #[(.long q2), (.int p3)] 3))
  refine Goes.of (fun t k => castTop (ef_2 m q2 p3) k) ?_
  show Goes _ _ _ _ _ _ _ (s₁.setTop (mkF m 0 #[.val (.long q2), .second, .val (.int p3)] []))
  refine Goes.of (fun t k => XS.lloadN X0.here hx rfl (hb hby d2_0) rfl k) ?_
  show Goes _ _ _ _ _ _ _ (s₁.setTop (mkF m 1 #[.val (.long q2), .second, .val (.int p3)] [(.long q2)]))
  refine Goes.of (fun t k => XS.lloadN X0.here hx rfl (hb hby d2_1) rfl k) ?_
  show Goes _ _ _ _ _ _ _ (s₁.setTop (mkF m 2 #[.val (.long q2), .second, .val (.int p3)] [(.long q2), (.long q2)]))
  refine Goes.of (fun t k => XS.iloadN X0.here hx rfl (hb hby d2_2) rfl k) ?_
  show Goes _ _ _ _ _ _ _ (s₁.setTop (mkF m 3 #[.val (.long q2), .second, .val (.int p3)] [(.int p3), (.long q2), (.long q2)]))
  refine Goes.of (fun t k => XS.lushr X0.here hx rfl (hb hby d2_3) rfl k) ?_
  show Goes _ _ _ _ _ _ _ (s₁.setTop (mkF m 4 #[.val (.long q2), .second, .val (.int p3)] [(.long ((q2.toUInt64 >>> (p3 &&& 0x3f).toInt64.toUInt64).toInt64)), (.long q2)]))
  refine Goes.of (fun t k => XS.lxor X0.here hx rfl (hb hby d2_4) rfl k) ?_
  show Goes _ _ _ _ _ _ _ (s₁.setTop (mkF m 5 #[.val (.long q2), .second, .val (.int p3)] [(.long (q2 ^^^ ((q2.toUInt64 >>> (p3 &&& 0x3f).toInt64.toUInt64).toInt64)))]))
  refine Goes.of (fun t k => XS.lloadN X0.here hx rfl (hb hby d2_5) rfl k) ?_
  show Goes _ _ _ _ _ _ _ (s₁.setTop (mkF m 6 #[.val (.long q2), .second, .val (.int p3)] [(.long q2), (.long (q2 ^^^ ((q2.toUInt64 >>> (p3 &&& 0x3f).toInt64.toUInt64).toInt64)))]))
  refine Goes.of (fun t k => XS.iconst X0.here hx rfl (hb hby d2_6) k) ?_
  show Goes _ _ _ _ _ _ _ (s₁.setTop (mkF m 7 #[.val (.long q2), .second, .val (.int p3)] [(.int (2 : Int32)), (.long q2), (.long (q2 ^^^ ((q2.toUInt64 >>> (p3 &&& 0x3f).toInt64.toUInt64).toInt64)))]))
  refine Goes.of (fun t k => XS.iloadN X0.here hx rfl (hb hby d2_7) rfl k) ?_
  show Goes _ _ _ _ _ _ _ (s₁.setTop (mkF m 8 #[.val (.long q2), .second, .val (.int p3)] [(.int p3), (.int (2 : Int32)), (.long q2), (.long (q2 ^^^ ((q2.toUInt64 >>> (p3 &&& 0x3f).toInt64.toUInt64).toInt64)))]))
  refine Goes.of (fun t k => XS.imul X0.here hx rfl (hb hby d2_8) rfl k) ?_
  show Goes _ _ _ _ _ _ _ (s₁.setTop (mkF m 9 #[.val (.long q2), .second, .val (.int p3)] [(.int ((2 : Int32) * p3)), (.long q2), (.long (q2 ^^^ ((q2.toUInt64 >>> (p3 &&& 0x3f).toInt64.toUInt64).toInt64)))]))
  refine Goes.of (fun t k => XS.lushr X0.here hx rfl (hb hby d2_9) rfl k) ?_
  show Goes _ _ _ _ _ _ _ (s₁.setTop (mkF m 10 #[.val (.long q2), .second, .val (.int p3)] [(.long ((q2.toUInt64 >>> (((2 : Int32) * p3) &&& 0x3f).toInt64.toUInt64).toInt64)), (.long (q2 ^^^ ((q2.toUInt64 >>> (p3 &&& 0x3f).toInt64.toUInt64).toInt64)))]))
  refine Goes.of (fun t k => XS.lxor X0.here hx rfl (hb hby d2_10) rfl k) ?_
  show Goes _ _ _ _ _ _ _ (s₁.setTop (mkF m 11 #[.val (.long q2), .second, .val (.int p3)] [(.long ((q2 ^^^ ((q2.toUInt64 >>> (p3 &&& 0x3f).toInt64.toUInt64).toInt64)) ^^^ ((q2.toUInt64 >>> (((2 : Int32) * p3) &&& 0x3f).toInt64.toUInt64).toInt64)))]))
  exact Goes.fin X0 hlk (v := some (.long ((q2 ^^^ ((q2.toUInt64 >>> (p3 &&& 0x3f).toInt64.toUInt64).toInt64)) ^^^ ((q2.toUInt64 >>> (((2 : Int32) * p3) &&& 0x3f).toInt64.toUInt64).toInt64)))) (fun h => by rw [Bd.returns] at h; cases h) (fun fs hr => retOut X0 hx Bd.returns (by rfl) (Or.inr (Or.inl ⟨rfl, rfl, _, rfl⟩)) (hb hby d2_11) hr) ⟨congrArg (fun z => some (Value.long z)) (by rw [f2] : ((q2 ^^^ ((q2.toUInt64 >>> (p3 &&& 0x3f).toInt64.toUInt64).toInt64)) ^^^ ((q2.toUInt64 >>> (((2 : Int32) * p3) &&& 0x3f).toInt64.toUInt64).toInt64)) = f2 q2 p3), N0, e0⟩ (by decide) (by decide)
theorem d3_0 : decode method_2_code 0 = .ok (.lload_n 0, 1) := by decide +kernel
theorem d3_1 : decode method_2_code 1 = .ok (.lstore_n 2, 1) := by decide +kernel
theorem d3_2 : decode method_2_code 2 = .ok (.lload_n 2, 1) := by decide +kernel
theorem d3_3 : decode method_2_code 3 = .ok (.ldc2_w 7, 3) := by decide +kernel
theorem d3_6 : decode method_2_code 6 = .ok (.lload_n 0, 1) := by decide +kernel
theorem d3_7 : decode method_2_code 7 = .ok (.lload_n 2, 1) := by decide +kernel
theorem d3_8 : decode method_2_code 8 = .ok (.lmul, 1) := by decide +kernel
theorem d3_9 : decode method_2_code 9 = .ok (.lsub, 1) := by decide +kernel
theorem d3_10 : decode method_2_code 10 = .ok (.lmul, 1) := by decide +kernel
theorem d3_11 : decode method_2_code 11 = .ok (.lstore_n 2, 1) := by decide +kernel
theorem d3_12 : decode method_2_code 12 = .ok (.lload_n 2, 1) := by decide +kernel
theorem d3_13 : decode method_2_code 13 = .ok (.ldc2_w 7, 3) := by decide +kernel
theorem d3_16 : decode method_2_code 16 = .ok (.lload_n 0, 1) := by decide +kernel
theorem d3_17 : decode method_2_code 17 = .ok (.lload_n 2, 1) := by decide +kernel
theorem d3_18 : decode method_2_code 18 = .ok (.lmul, 1) := by decide +kernel
theorem d3_19 : decode method_2_code 19 = .ok (.lsub, 1) := by decide +kernel
theorem d3_20 : decode method_2_code 20 = .ok (.lmul, 1) := by decide +kernel
theorem d3_21 : decode method_2_code 21 = .ok (.lstore_n 2, 1) := by decide +kernel
theorem d3_22 : decode method_2_code 22 = .ok (.lload_n 2, 1) := by decide +kernel
theorem d3_23 : decode method_2_code 23 = .ok (.ldc2_w 7, 3) := by decide +kernel
theorem d3_26 : decode method_2_code 26 = .ok (.lload_n 0, 1) := by decide +kernel
theorem d3_27 : decode method_2_code 27 = .ok (.lload_n 2, 1) := by decide +kernel
theorem d3_28 : decode method_2_code 28 = .ok (.lmul, 1) := by decide +kernel
theorem d3_29 : decode method_2_code 29 = .ok (.lsub, 1) := by decide +kernel
theorem d3_30 : decode method_2_code 30 = .ok (.lmul, 1) := by decide +kernel
theorem d3_31 : decode method_2_code 31 = .ok (.lstore_n 2, 1) := by decide +kernel
theorem d3_32 : decode method_2_code 32 = .ok (.lload_n 2, 1) := by decide +kernel
theorem d3_33 : decode method_2_code 33 = .ok (.ldc2_w 7, 3) := by decide +kernel
theorem d3_36 : decode method_2_code 36 = .ok (.lload_n 0, 1) := by decide +kernel
theorem d3_37 : decode method_2_code 37 = .ok (.lload_n 2, 1) := by decide +kernel
theorem d3_38 : decode method_2_code 38 = .ok (.lmul, 1) := by decide +kernel
theorem d3_39 : decode method_2_code 39 = .ok (.lsub, 1) := by decide +kernel
theorem d3_40 : decode method_2_code 40 = .ok (.lmul, 1) := by decide +kernel
theorem d3_41 : decode method_2_code 41 = .ok (.lstore_n 2, 1) := by decide +kernel
theorem d3_42 : decode method_2_code 42 = .ok (.lload_n 2, 1) := by decide +kernel
theorem d3_43 : decode method_2_code 43 = .ok (.ldc2_w 7, 3) := by decide +kernel
theorem d3_46 : decode method_2_code 46 = .ok (.lload_n 0, 1) := by decide +kernel
theorem d3_47 : decode method_2_code 47 = .ok (.lload_n 2, 1) := by decide +kernel
theorem d3_48 : decode method_2_code 48 = .ok (.lmul, 1) := by decide +kernel
theorem d3_49 : decode method_2_code 49 = .ok (.lsub, 1) := by decide +kernel
theorem d3_50 : decode method_2_code 50 = .ok (.lmul, 1) := by decide +kernel
theorem d3_51 : decode method_2_code 51 = .ok (.lstore_n 2, 1) := by decide +kernel
theorem d3_52 : decode method_2_code 52 = .ok (.lload_n 2, 1) := by decide +kernel
theorem d3_53 : decode method_2_code 53 = .ok (.lreturn, 1) := by decide +kernel
theorem ef_3 (m : MethodId) (q4 : Int64) : entryFrame m #[(.long q4)] 4 = mkF m 0 #[.val (.long q4), .second, .unset, .unset] [] := by first | (simp [entryFrame, mkF, argsToLocals, Value.category]; done) | rfl
def f3 (q4 : Int64) : Int64 :=
  (((((q4 * ((2 : Int64) - (q4 * q4))) * ((2 : Int64) - (q4 * (q4 * ((2 : Int64) - (q4 * q4)))))) * ((2 : Int64) - (q4 * ((q4 * ((2 : Int64) - (q4 * q4))) * ((2 : Int64) - (q4 * (q4 * ((2 : Int64) - (q4 * q4))))))))) * ((2 : Int64) - (q4 * (((q4 * ((2 : Int64) - (q4 * q4))) * ((2 : Int64) - (q4 * (q4 * ((2 : Int64) - (q4 * q4)))))) * ((2 : Int64) - (q4 * ((q4 * ((2 : Int64) - (q4 * q4))) * ((2 : Int64) - (q4 * (q4 * ((2 : Int64) - (q4 * q4)))))))))))) * ((2 : Int64) - (q4 * ((((q4 * ((2 : Int64) - (q4 * q4))) * ((2 : Int64) - (q4 * (q4 * ((2 : Int64) - (q4 * q4)))))) * ((2 : Int64) - (q4 * ((q4 * ((2 : Int64) - (q4 * q4))) * ((2 : Int64) - (q4 * (q4 * ((2 : Int64) - (q4 * q4))))))))) * ((2 : Int64) - (q4 * (((q4 * ((2 : Int64) - (q4 * q4))) * ((2 : Int64) - (q4 * (q4 * ((2 : Int64) - (q4 * q4)))))) * ((2 : Int64) - (q4 * ((q4 * ((2 : Int64) - (q4 * q4))) * ((2 : Int64) - (q4 * (q4 * ((2 : Int64) - (q4 * q4)))))))))))))))
def Q3 (q4 : Int64) (h0 : Heap) (n0 : Nat) (v : Option Value) (h : Heap) (L : List Loc) : Prop := v = some (.long (f3 q4)) ∧ Fr n0 L ∧ h = h0
set_option maxRecDepth 65536 in
set_option maxHeartbeats 40000000 in
theorem rm3 (l : Launch) (Z : State) (a0 : Array Value) (hw : ∀ d ∈ tables_1, d.before a0 Z = true) (ws : List Jvm.Cond) (q4 : Int64) (h0 : Heap) (n0 : Nat) :
    MetFree l (⟨"com/example/vhost/vhost/util/HashesMixPinLaw", "inv", "(J)J"⟩ : MethodName) (head1 (Jvm.Cond.code (⟨"com/example/vhost/vhost/util/HashesMixPinLaw", "inv", "(J)J"⟩ : MethodName) method_2_code 4 (some .long) :: ws) ({ frames := 0, cells := 0, slots := 0, locals := 0 } : Room)) (fun a U => a = #[(.long q4)] ∧ Z.Warmed39 U.vm ∧ U.heap = h0) (fun _ _ _ _ _ => True) (fun _ U o U' => ∃ v L, o = .returned v ∧ Q3 q4 h0 n0 v U'.heap L ∧ FrameEnd U o U' L 0 0) := by
  refine MetFree.of_bodySF (plainFor_of_name pn_1) hisR ?_
  intro p e s m args below meth c s₁ Bd hml0 hP hK
  obtain ⟨rfl, hZ, hh⟩ := hP
  have hx := Bd.exec
  have hby := Bd.bytes
  have hlk : meth.locks = false := BodyLoose.notSynchronized Bd
  have hml : c.maxLocals = 4 := hml0
  have hown : s.vm.findClass "com/example/vhost/vhost/util/HashesMixPinLaw" = some m.cls := findClass_of_methodNamed Bd.named
  have X0 : Stand p l e ({ frames := 0, cells := 0, slots := 0, locals := 0 } : Room) s m #[(.long q4)] below meth c s₁ [] 0 0 := Stand.of_body Bd
  have e0 : s₁.heap = h0 := by rw [← hh, Bd.state]; rfl
  have N0 := Fr.nil n0
  show Goes p.tables e below s (Q3 q4 h0 n0) 0 0 (s₁.setTop (entryFrame m #[(.long q4)] 4))
  refine Goes.of (fun t k => castTop (ef_3 m q4) k) ?_
  show Goes _ _ _ _ _ _ _ (s₁.setTop (mkF m 0 #[.val (.long q4), .second, .unset, .unset] []))
  refine Goes.of (fun t k => XS.lloadN X0.here hx rfl (hb hby d3_0) rfl k) ?_
  show Goes _ _ _ _ _ _ _ (s₁.setTop (mkF m 1 #[.val (.long q4), .second, .unset, .unset] [(.long q4)]))
  refine Goes.of (fun t k => XS.lstoreN X0.here hx rfl (hb hby d3_1) rfl (l' := #[.val (.long q4), .second, .val (.long q4), .second]) rfl k) ?_
  show Goes _ _ _ _ _ _ _ (s₁.setTop (mkF m 2 #[.val (.long q4), .second, .val (.long q4), .second] []))
  refine Goes.of (fun t k => XS.lloadN X0.here hx rfl (hb hby d3_2) rfl k) ?_
  show Goes _ _ _ _ _ _ _ (s₁.setTop (mkF m 3 #[.val (.long q4), .second, .val (.long q4), .second] [(.long q4)]))
  refine Goes.of (fun t k => X0.ldc2Long hx hown (mvT hZ (hw _ (List.mem_of_getElem? (i := 14) rfl))) (g := (mkF m 3 #[.val (.long q4), .second, .val (.long q4), .second] [(.long q4)])) rfl (hb hby d3_3) t k) ?_
  show Goes _ _ _ _ _ _ _ (s₁.setTop (mkF m 6 #[.val (.long q4), .second, .val (.long q4), .second] [(.long (2 : Int64)), (.long q4)]))
  refine Goes.of (fun t k => XS.lloadN X0.here hx rfl (hb hby d3_6) rfl k) ?_
  show Goes _ _ _ _ _ _ _ (s₁.setTop (mkF m 7 #[.val (.long q4), .second, .val (.long q4), .second] [(.long q4), (.long (2 : Int64)), (.long q4)]))
  refine Goes.of (fun t k => XS.lloadN X0.here hx rfl (hb hby d3_7) rfl k) ?_
  show Goes _ _ _ _ _ _ _ (s₁.setTop (mkF m 8 #[.val (.long q4), .second, .val (.long q4), .second] [(.long q4), (.long q4), (.long (2 : Int64)), (.long q4)]))
  refine Goes.of (fun t k => XS.lmul X0.here hx rfl (hb hby d3_8) rfl k) ?_
  show Goes _ _ _ _ _ _ _ (s₁.setTop (mkF m 9 #[.val (.long q4), .second, .val (.long q4), .second] [(.long (q4 * q4)), (.long (2 : Int64)), (.long q4)]))
  refine Goes.of (fun t k => XS.lsub X0.here hx rfl (hb hby d3_9) rfl k) ?_
  show Goes _ _ _ _ _ _ _ (s₁.setTop (mkF m 10 #[.val (.long q4), .second, .val (.long q4), .second] [(.long ((2 : Int64) - (q4 * q4))), (.long q4)]))
  refine Goes.of (fun t k => XS.lmul X0.here hx rfl (hb hby d3_10) rfl k) ?_
  show Goes _ _ _ _ _ _ _ (s₁.setTop (mkF m 11 #[.val (.long q4), .second, .val (.long q4), .second] [(.long (q4 * ((2 : Int64) - (q4 * q4))))]))
  refine Goes.of (fun t k => XS.lstoreN X0.here hx rfl (hb hby d3_11) rfl (l' := #[.val (.long q4), .second, .val (.long (q4 * ((2 : Int64) - (q4 * q4)))), .second]) rfl k) ?_
  show Goes _ _ _ _ _ _ _ (s₁.setTop (mkF m 12 #[.val (.long q4), .second, .val (.long (q4 * ((2 : Int64) - (q4 * q4)))), .second] []))
  refine Goes.of (fun t k => XS.lloadN X0.here hx rfl (hb hby d3_12) rfl k) ?_
  show Goes _ _ _ _ _ _ _ (s₁.setTop (mkF m 13 #[.val (.long q4), .second, .val (.long (q4 * ((2 : Int64) - (q4 * q4)))), .second] [(.long (q4 * ((2 : Int64) - (q4 * q4))))]))
  refine Goes.of (fun t k => X0.ldc2Long hx hown (mvT hZ (hw _ (List.mem_of_getElem? (i := 14) rfl))) (g := (mkF m 13 #[.val (.long q4), .second, .val (.long (q4 * ((2 : Int64) - (q4 * q4)))), .second] [(.long (q4 * ((2 : Int64) - (q4 * q4))))])) rfl (hb hby d3_13) t k) ?_
  show Goes _ _ _ _ _ _ _ (s₁.setTop (mkF m 16 #[.val (.long q4), .second, .val (.long (q4 * ((2 : Int64) - (q4 * q4)))), .second] [(.long (2 : Int64)), (.long (q4 * ((2 : Int64) - (q4 * q4))))]))
  refine Goes.of (fun t k => XS.lloadN X0.here hx rfl (hb hby d3_16) rfl k) ?_
  show Goes _ _ _ _ _ _ _ (s₁.setTop (mkF m 17 #[.val (.long q4), .second, .val (.long (q4 * ((2 : Int64) - (q4 * q4)))), .second] [(.long q4), (.long (2 : Int64)), (.long (q4 * ((2 : Int64) - (q4 * q4))))]))
  refine Goes.of (fun t k => XS.lloadN X0.here hx rfl (hb hby d3_17) rfl k) ?_
  show Goes _ _ _ _ _ _ _ (s₁.setTop (mkF m 18 #[.val (.long q4), .second, .val (.long (q4 * ((2 : Int64) - (q4 * q4)))), .second] [(.long (q4 * ((2 : Int64) - (q4 * q4)))), (.long q4), (.long (2 : Int64)), (.long (q4 * ((2 : Int64) - (q4 * q4))))]))
  refine Goes.of (fun t k => XS.lmul X0.here hx rfl (hb hby d3_18) rfl k) ?_
  show Goes _ _ _ _ _ _ _ (s₁.setTop (mkF m 19 #[.val (.long q4), .second, .val (.long (q4 * ((2 : Int64) - (q4 * q4)))), .second] [(.long (q4 * (q4 * ((2 : Int64) - (q4 * q4))))), (.long (2 : Int64)), (.long (q4 * ((2 : Int64) - (q4 * q4))))]))
  refine Goes.of (fun t k => XS.lsub X0.here hx rfl (hb hby d3_19) rfl k) ?_
  show Goes _ _ _ _ _ _ _ (s₁.setTop (mkF m 20 #[.val (.long q4), .second, .val (.long (q4 * ((2 : Int64) - (q4 * q4)))), .second] [(.long ((2 : Int64) - (q4 * (q4 * ((2 : Int64) - (q4 * q4)))))), (.long (q4 * ((2 : Int64) - (q4 * q4))))]))
  refine Goes.of (fun t k => XS.lmul X0.here hx rfl (hb hby d3_20) rfl k) ?_
  show Goes _ _ _ _ _ _ _ (s₁.setTop (mkF m 21 #[.val (.long q4), .second, .val (.long (q4 * ((2 : Int64) - (q4 * q4)))), .second] [(.long ((q4 * ((2 : Int64) - (q4 * q4))) * ((2 : Int64) - (q4 * (q4 * ((2 : Int64) - (q4 * q4)))))))]))
  refine Goes.of (fun t k => XS.lstoreN X0.here hx rfl (hb hby d3_21) rfl (l' := #[.val (.long q4), .second, .val (.long ((q4 * ((2 : Int64) - (q4 * q4))) * ((2 : Int64) - (q4 * (q4 * ((2 : Int64) - (q4 * q4))))))), .second]) rfl k) ?_
  show Goes _ _ _ _ _ _ _ (s₁.setTop (mkF m 22 #[.val (.long q4), .second, .val (.long ((q4 * ((2 : Int64) - (q4 * q4))) * ((2 : Int64) - (q4 * (q4 * ((2 : Int64) - (q4 * q4))))))), .second] []))
  refine Goes.of (fun t k => XS.lloadN X0.here hx rfl (hb hby d3_22) rfl k) ?_
  show Goes _ _ _ _ _ _ _ (s₁.setTop (mkF m 23 #[.val (.long q4), .second, .val (.long ((q4 * ((2 : Int64) - (q4 * q4))) * ((2 : Int64) - (q4 * (q4 * ((2 : Int64) - (q4 * q4))))))), .second] [(.long ((q4 * ((2 : Int64) - (q4 * q4))) * ((2 : Int64) - (q4 * (q4 * ((2 : Int64) - (q4 * q4)))))))]))
  refine Goes.of (fun t k => X0.ldc2Long hx hown (mvT hZ (hw _ (List.mem_of_getElem? (i := 14) rfl))) (g := (mkF m 23 #[.val (.long q4), .second, .val (.long ((q4 * ((2 : Int64) - (q4 * q4))) * ((2 : Int64) - (q4 * (q4 * ((2 : Int64) - (q4 * q4))))))), .second] [(.long ((q4 * ((2 : Int64) - (q4 * q4))) * ((2 : Int64) - (q4 * (q4 * ((2 : Int64) - (q4 * q4)))))))])) rfl (hb hby d3_23) t k) ?_
  show Goes _ _ _ _ _ _ _ (s₁.setTop (mkF m 26 #[.val (.long q4), .second, .val (.long ((q4 * ((2 : Int64) - (q4 * q4))) * ((2 : Int64) - (q4 * (q4 * ((2 : Int64) - (q4 * q4))))))), .second] [(.long (2 : Int64)), (.long ((q4 * ((2 : Int64) - (q4 * q4))) * ((2 : Int64) - (q4 * (q4 * ((2 : Int64) - (q4 * q4)))))))]))
  refine Goes.of (fun t k => XS.lloadN X0.here hx rfl (hb hby d3_26) rfl k) ?_
  show Goes _ _ _ _ _ _ _ (s₁.setTop (mkF m 27 #[.val (.long q4), .second, .val (.long ((q4 * ((2 : Int64) - (q4 * q4))) * ((2 : Int64) - (q4 * (q4 * ((2 : Int64) - (q4 * q4))))))), .second] [(.long q4), (.long (2 : Int64)), (.long ((q4 * ((2 : Int64) - (q4 * q4))) * ((2 : Int64) - (q4 * (q4 * ((2 : Int64) - (q4 * q4)))))))]))
  refine Goes.of (fun t k => XS.lloadN X0.here hx rfl (hb hby d3_27) rfl k) ?_
  show Goes _ _ _ _ _ _ _ (s₁.setTop (mkF m 28 #[.val (.long q4), .second, .val (.long ((q4 * ((2 : Int64) - (q4 * q4))) * ((2 : Int64) - (q4 * (q4 * ((2 : Int64) - (q4 * q4))))))), .second] [(.long ((q4 * ((2 : Int64) - (q4 * q4))) * ((2 : Int64) - (q4 * (q4 * ((2 : Int64) - (q4 * q4))))))), (.long q4), (.long (2 : Int64)), (.long ((q4 * ((2 : Int64) - (q4 * q4))) * ((2 : Int64) - (q4 * (q4 * ((2 : Int64) - (q4 * q4)))))))]))
  refine Goes.of (fun t k => XS.lmul X0.here hx rfl (hb hby d3_28) rfl k) ?_
  show Goes _ _ _ _ _ _ _ (s₁.setTop (mkF m 29 #[.val (.long q4), .second, .val (.long ((q4 * ((2 : Int64) - (q4 * q4))) * ((2 : Int64) - (q4 * (q4 * ((2 : Int64) - (q4 * q4))))))), .second] [(.long (q4 * ((q4 * ((2 : Int64) - (q4 * q4))) * ((2 : Int64) - (q4 * (q4 * ((2 : Int64) - (q4 * q4)))))))), (.long (2 : Int64)), (.long ((q4 * ((2 : Int64) - (q4 * q4))) * ((2 : Int64) - (q4 * (q4 * ((2 : Int64) - (q4 * q4)))))))]))
  refine Goes.of (fun t k => XS.lsub X0.here hx rfl (hb hby d3_29) rfl k) ?_
  show Goes _ _ _ _ _ _ _ (s₁.setTop (mkF m 30 #[.val (.long q4), .second, .val (.long ((q4 * ((2 : Int64) - (q4 * q4))) * ((2 : Int64) - (q4 * (q4 * ((2 : Int64) - (q4 * q4))))))), .second] [(.long ((2 : Int64) - (q4 * ((q4 * ((2 : Int64) - (q4 * q4))) * ((2 : Int64) - (q4 * (q4 * ((2 : Int64) - (q4 * q4))))))))), (.long ((q4 * ((2 : Int64) - (q4 * q4))) * ((2 : Int64) - (q4 * (q4 * ((2 : Int64) - (q4 * q4)))))))]))
  refine Goes.of (fun t k => XS.lmul X0.here hx rfl (hb hby d3_30) rfl k) ?_
  show Goes _ _ _ _ _ _ _ (s₁.setTop (mkF m 31 #[.val (.long q4), .second, .val (.long ((q4 * ((2 : Int64) - (q4 * q4))) * ((2 : Int64) - (q4 * (q4 * ((2 : Int64) - (q4 * q4))))))), .second] [(.long (((q4 * ((2 : Int64) - (q4 * q4))) * ((2 : Int64) - (q4 * (q4 * ((2 : Int64) - (q4 * q4)))))) * ((2 : Int64) - (q4 * ((q4 * ((2 : Int64) - (q4 * q4))) * ((2 : Int64) - (q4 * (q4 * ((2 : Int64) - (q4 * q4))))))))))]))
  refine Goes.of (fun t k => XS.lstoreN X0.here hx rfl (hb hby d3_31) rfl (l' := #[.val (.long q4), .second, .val (.long (((q4 * ((2 : Int64) - (q4 * q4))) * ((2 : Int64) - (q4 * (q4 * ((2 : Int64) - (q4 * q4)))))) * ((2 : Int64) - (q4 * ((q4 * ((2 : Int64) - (q4 * q4))) * ((2 : Int64) - (q4 * (q4 * ((2 : Int64) - (q4 * q4)))))))))), .second]) rfl k) ?_
  show Goes _ _ _ _ _ _ _ (s₁.setTop (mkF m 32 #[.val (.long q4), .second, .val (.long (((q4 * ((2 : Int64) - (q4 * q4))) * ((2 : Int64) - (q4 * (q4 * ((2 : Int64) - (q4 * q4)))))) * ((2 : Int64) - (q4 * ((q4 * ((2 : Int64) - (q4 * q4))) * ((2 : Int64) - (q4 * (q4 * ((2 : Int64) - (q4 * q4)))))))))), .second] []))
  refine Goes.of (fun t k => XS.lloadN X0.here hx rfl (hb hby d3_32) rfl k) ?_
  show Goes _ _ _ _ _ _ _ (s₁.setTop (mkF m 33 #[.val (.long q4), .second, .val (.long (((q4 * ((2 : Int64) - (q4 * q4))) * ((2 : Int64) - (q4 * (q4 * ((2 : Int64) - (q4 * q4)))))) * ((2 : Int64) - (q4 * ((q4 * ((2 : Int64) - (q4 * q4))) * ((2 : Int64) - (q4 * (q4 * ((2 : Int64) - (q4 * q4)))))))))), .second] [(.long (((q4 * ((2 : Int64) - (q4 * q4))) * ((2 : Int64) - (q4 * (q4 * ((2 : Int64) - (q4 * q4)))))) * ((2 : Int64) - (q4 * ((q4 * ((2 : Int64) - (q4 * q4))) * ((2 : Int64) - (q4 * (q4 * ((2 : Int64) - (q4 * q4))))))))))]))
  refine Goes.of (fun t k => X0.ldc2Long hx hown (mvT hZ (hw _ (List.mem_of_getElem? (i := 14) rfl))) (g := (mkF m 33 #[.val (.long q4), .second, .val (.long (((q4 * ((2 : Int64) - (q4 * q4))) * ((2 : Int64) - (q4 * (q4 * ((2 : Int64) - (q4 * q4)))))) * ((2 : Int64) - (q4 * ((q4 * ((2 : Int64) - (q4 * q4))) * ((2 : Int64) - (q4 * (q4 * ((2 : Int64) - (q4 * q4)))))))))), .second] [(.long (((q4 * ((2 : Int64) - (q4 * q4))) * ((2 : Int64) - (q4 * (q4 * ((2 : Int64) - (q4 * q4)))))) * ((2 : Int64) - (q4 * ((q4 * ((2 : Int64) - (q4 * q4))) * ((2 : Int64) - (q4 * (q4 * ((2 : Int64) - (q4 * q4))))))))))])) rfl (hb hby d3_33) t k) ?_
  show Goes _ _ _ _ _ _ _ (s₁.setTop (mkF m 36 #[.val (.long q4), .second, .val (.long (((q4 * ((2 : Int64) - (q4 * q4))) * ((2 : Int64) - (q4 * (q4 * ((2 : Int64) - (q4 * q4)))))) * ((2 : Int64) - (q4 * ((q4 * ((2 : Int64) - (q4 * q4))) * ((2 : Int64) - (q4 * (q4 * ((2 : Int64) - (q4 * q4)))))))))), .second] [(.long (2 : Int64)), (.long (((q4 * ((2 : Int64) - (q4 * q4))) * ((2 : Int64) - (q4 * (q4 * ((2 : Int64) - (q4 * q4)))))) * ((2 : Int64) - (q4 * ((q4 * ((2 : Int64) - (q4 * q4))) * ((2 : Int64) - (q4 * (q4 * ((2 : Int64) - (q4 * q4))))))))))]))
  refine Goes.of (fun t k => XS.lloadN X0.here hx rfl (hb hby d3_36) rfl k) ?_
  show Goes _ _ _ _ _ _ _ (s₁.setTop (mkF m 37 #[.val (.long q4), .second, .val (.long (((q4 * ((2 : Int64) - (q4 * q4))) * ((2 : Int64) - (q4 * (q4 * ((2 : Int64) - (q4 * q4)))))) * ((2 : Int64) - (q4 * ((q4 * ((2 : Int64) - (q4 * q4))) * ((2 : Int64) - (q4 * (q4 * ((2 : Int64) - (q4 * q4)))))))))), .second] [(.long q4), (.long (2 : Int64)), (.long (((q4 * ((2 : Int64) - (q4 * q4))) * ((2 : Int64) - (q4 * (q4 * ((2 : Int64) - (q4 * q4)))))) * ((2 : Int64) - (q4 * ((q4 * ((2 : Int64) - (q4 * q4))) * ((2 : Int64) - (q4 * (q4 * ((2 : Int64) - (q4 * q4))))))))))]))
  refine Goes.of (fun t k => XS.lloadN X0.here hx rfl (hb hby d3_37) rfl k) ?_
  show Goes _ _ _ _ _ _ _ (s₁.setTop (mkF m 38 #[.val (.long q4), .second, .val (.long (((q4 * ((2 : Int64) - (q4 * q4))) * ((2 : Int64) - (q4 * (q4 * ((2 : Int64) - (q4 * q4)))))) * ((2 : Int64) - (q4 * ((q4 * ((2 : Int64) - (q4 * q4))) * ((2 : Int64) - (q4 * (q4 * ((2 : Int64) - (q4 * q4)))))))))), .second] [(.long (((q4 * ((2 : Int64) - (q4 * q4))) * ((2 : Int64) - (q4 * (q4 * ((2 : Int64) - (q4 * q4)))))) * ((2 : Int64) - (q4 * ((q4 * ((2 : Int64) - (q4 * q4))) * ((2 : Int64) - (q4 * (q4 * ((2 : Int64) - (q4 * q4)))))))))), (.long q4), (.long (2 : Int64)), (.long (((q4 * ((2 : Int64) - (q4 * q4))) * ((2 : Int64) - (q4 * (q4 * ((2 : Int64) - (q4 * q4)))))) * ((2 : Int64) - (q4 * ((q4 * ((2 : Int64) - (q4 * q4))) * ((2 : Int64) - (q4 * (q4 * ((2 : Int64) - (q4 * q4))))))))))]))
  refine Goes.of (fun t k => XS.lmul X0.here hx rfl (hb hby d3_38) rfl k) ?_
  show Goes _ _ _ _ _ _ _ (s₁.setTop (mkF m 39 #[.val (.long q4), .second, .val (.long (((q4 * ((2 : Int64) - (q4 * q4))) * ((2 : Int64) - (q4 * (q4 * ((2 : Int64) - (q4 * q4)))))) * ((2 : Int64) - (q4 * ((q4 * ((2 : Int64) - (q4 * q4))) * ((2 : Int64) - (q4 * (q4 * ((2 : Int64) - (q4 * q4)))))))))), .second] [(.long (q4 * (((q4 * ((2 : Int64) - (q4 * q4))) * ((2 : Int64) - (q4 * (q4 * ((2 : Int64) - (q4 * q4)))))) * ((2 : Int64) - (q4 * ((q4 * ((2 : Int64) - (q4 * q4))) * ((2 : Int64) - (q4 * (q4 * ((2 : Int64) - (q4 * q4))))))))))), (.long (2 : Int64)), (.long (((q4 * ((2 : Int64) - (q4 * q4))) * ((2 : Int64) - (q4 * (q4 * ((2 : Int64) - (q4 * q4)))))) * ((2 : Int64) - (q4 * ((q4 * ((2 : Int64) - (q4 * q4))) * ((2 : Int64) - (q4 * (q4 * ((2 : Int64) - (q4 * q4))))))))))]))
  refine Goes.of (fun t k => XS.lsub X0.here hx rfl (hb hby d3_39) rfl k) ?_
  show Goes _ _ _ _ _ _ _ (s₁.setTop (mkF m 40 #[.val (.long q4), .second, .val (.long (((q4 * ((2 : Int64) - (q4 * q4))) * ((2 : Int64) - (q4 * (q4 * ((2 : Int64) - (q4 * q4)))))) * ((2 : Int64) - (q4 * ((q4 * ((2 : Int64) - (q4 * q4))) * ((2 : Int64) - (q4 * (q4 * ((2 : Int64) - (q4 * q4)))))))))), .second] [(.long ((2 : Int64) - (q4 * (((q4 * ((2 : Int64) - (q4 * q4))) * ((2 : Int64) - (q4 * (q4 * ((2 : Int64) - (q4 * q4)))))) * ((2 : Int64) - (q4 * ((q4 * ((2 : Int64) - (q4 * q4))) * ((2 : Int64) - (q4 * (q4 * ((2 : Int64) - (q4 * q4)))))))))))), (.long (((q4 * ((2 : Int64) - (q4 * q4))) * ((2 : Int64) - (q4 * (q4 * ((2 : Int64) - (q4 * q4)))))) * ((2 : Int64) - (q4 * ((q4 * ((2 : Int64) - (q4 * q4))) * ((2 : Int64) - (q4 * (q4 * ((2 : Int64) - (q4 * q4))))))))))]))
  refine Goes.of (fun t k => XS.lmul X0.here hx rfl (hb hby d3_40) rfl k) ?_
  show Goes _ _ _ _ _ _ _ (s₁.setTop (mkF m 41 #[.val (.long q4), .second, .val (.long (((q4 * ((2 : Int64) - (q4 * q4))) * ((2 : Int64) - (q4 * (q4 * ((2 : Int64) - (q4 * q4)))))) * ((2 : Int64) - (q4 * ((q4 * ((2 : Int64) - (q4 * q4))) * ((2 : Int64) - (q4 * (q4 * ((2 : Int64) - (q4 * q4)))))))))), .second] [(.long ((((q4 * ((2 : Int64) - (q4 * q4))) * ((2 : Int64) - (q4 * (q4 * ((2 : Int64) - (q4 * q4)))))) * ((2 : Int64) - (q4 * ((q4 * ((2 : Int64) - (q4 * q4))) * ((2 : Int64) - (q4 * (q4 * ((2 : Int64) - (q4 * q4))))))))) * ((2 : Int64) - (q4 * (((q4 * ((2 : Int64) - (q4 * q4))) * ((2 : Int64) - (q4 * (q4 * ((2 : Int64) - (q4 * q4)))))) * ((2 : Int64) - (q4 * ((q4 * ((2 : Int64) - (q4 * q4))) * ((2 : Int64) - (q4 * (q4 * ((2 : Int64) - (q4 * q4)))))))))))))]))
  refine Goes.of (fun t k => XS.lstoreN X0.here hx rfl (hb hby d3_41) rfl (l' := #[.val (.long q4), .second, .val (.long ((((q4 * ((2 : Int64) - (q4 * q4))) * ((2 : Int64) - (q4 * (q4 * ((2 : Int64) - (q4 * q4)))))) * ((2 : Int64) - (q4 * ((q4 * ((2 : Int64) - (q4 * q4))) * ((2 : Int64) - (q4 * (q4 * ((2 : Int64) - (q4 * q4))))))))) * ((2 : Int64) - (q4 * (((q4 * ((2 : Int64) - (q4 * q4))) * ((2 : Int64) - (q4 * (q4 * ((2 : Int64) - (q4 * q4)))))) * ((2 : Int64) - (q4 * ((q4 * ((2 : Int64) - (q4 * q4))) * ((2 : Int64) - (q4 * (q4 * ((2 : Int64) - (q4 * q4))))))))))))), .second]) rfl k) ?_
  show Goes _ _ _ _ _ _ _ (s₁.setTop (mkF m 42 #[.val (.long q4), .second, .val (.long ((((q4 * ((2 : Int64) - (q4 * q4))) * ((2 : Int64) - (q4 * (q4 * ((2 : Int64) - (q4 * q4)))))) * ((2 : Int64) - (q4 * ((q4 * ((2 : Int64) - (q4 * q4))) * ((2 : Int64) - (q4 * (q4 * ((2 : Int64) - (q4 * q4))))))))) * ((2 : Int64) - (q4 * (((q4 * ((2 : Int64) - (q4 * q4))) * ((2 : Int64) - (q4 * (q4 * ((2 : Int64) - (q4 * q4)))))) * ((2 : Int64) - (q4 * ((q4 * ((2 : Int64) - (q4 * q4))) * ((2 : Int64) - (q4 * (q4 * ((2 : Int64) - (q4 * q4))))))))))))), .second] []))
  refine Goes.of (fun t k => XS.lloadN X0.here hx rfl (hb hby d3_42) rfl k) ?_
  show Goes _ _ _ _ _ _ _ (s₁.setTop (mkF m 43 #[.val (.long q4), .second, .val (.long ((((q4 * ((2 : Int64) - (q4 * q4))) * ((2 : Int64) - (q4 * (q4 * ((2 : Int64) - (q4 * q4)))))) * ((2 : Int64) - (q4 * ((q4 * ((2 : Int64) - (q4 * q4))) * ((2 : Int64) - (q4 * (q4 * ((2 : Int64) - (q4 * q4))))))))) * ((2 : Int64) - (q4 * (((q4 * ((2 : Int64) - (q4 * q4))) * ((2 : Int64) - (q4 * (q4 * ((2 : Int64) - (q4 * q4)))))) * ((2 : Int64) - (q4 * ((q4 * ((2 : Int64) - (q4 * q4))) * ((2 : Int64) - (q4 * (q4 * ((2 : Int64) - (q4 * q4))))))))))))), .second] [(.long ((((q4 * ((2 : Int64) - (q4 * q4))) * ((2 : Int64) - (q4 * (q4 * ((2 : Int64) - (q4 * q4)))))) * ((2 : Int64) - (q4 * ((q4 * ((2 : Int64) - (q4 * q4))) * ((2 : Int64) - (q4 * (q4 * ((2 : Int64) - (q4 * q4))))))))) * ((2 : Int64) - (q4 * (((q4 * ((2 : Int64) - (q4 * q4))) * ((2 : Int64) - (q4 * (q4 * ((2 : Int64) - (q4 * q4)))))) * ((2 : Int64) - (q4 * ((q4 * ((2 : Int64) - (q4 * q4))) * ((2 : Int64) - (q4 * (q4 * ((2 : Int64) - (q4 * q4)))))))))))))]))
  refine Goes.of (fun t k => X0.ldc2Long hx hown (mvT hZ (hw _ (List.mem_of_getElem? (i := 14) rfl))) (g := (mkF m 43 #[.val (.long q4), .second, .val (.long ((((q4 * ((2 : Int64) - (q4 * q4))) * ((2 : Int64) - (q4 * (q4 * ((2 : Int64) - (q4 * q4)))))) * ((2 : Int64) - (q4 * ((q4 * ((2 : Int64) - (q4 * q4))) * ((2 : Int64) - (q4 * (q4 * ((2 : Int64) - (q4 * q4))))))))) * ((2 : Int64) - (q4 * (((q4 * ((2 : Int64) - (q4 * q4))) * ((2 : Int64) - (q4 * (q4 * ((2 : Int64) - (q4 * q4)))))) * ((2 : Int64) - (q4 * ((q4 * ((2 : Int64) - (q4 * q4))) * ((2 : Int64) - (q4 * (q4 * ((2 : Int64) - (q4 * q4))))))))))))), .second] [(.long ((((q4 * ((2 : Int64) - (q4 * q4))) * ((2 : Int64) - (q4 * (q4 * ((2 : Int64) - (q4 * q4)))))) * ((2 : Int64) - (q4 * ((q4 * ((2 : Int64) - (q4 * q4))) * ((2 : Int64) - (q4 * (q4 * ((2 : Int64) - (q4 * q4))))))))) * ((2 : Int64) - (q4 * (((q4 * ((2 : Int64) - (q4 * q4))) * ((2 : Int64) - (q4 * (q4 * ((2 : Int64) - (q4 * q4)))))) * ((2 : Int64) - (q4 * ((q4 * ((2 : Int64) - (q4 * q4))) * ((2 : Int64) - (q4 * (q4 * ((2 : Int64) - (q4 * q4)))))))))))))])) rfl (hb hby d3_43) t k) ?_
  show Goes _ _ _ _ _ _ _ (s₁.setTop (mkF m 46 #[.val (.long q4), .second, .val (.long ((((q4 * ((2 : Int64) - (q4 * q4))) * ((2 : Int64) - (q4 * (q4 * ((2 : Int64) - (q4 * q4)))))) * ((2 : Int64) - (q4 * ((q4 * ((2 : Int64) - (q4 * q4))) * ((2 : Int64) - (q4 * (q4 * ((2 : Int64) - (q4 * q4))))))))) * ((2 : Int64) - (q4 * (((q4 * ((2 : Int64) - (q4 * q4))) * ((2 : Int64) - (q4 * (q4 * ((2 : Int64) - (q4 * q4)))))) * ((2 : Int64) - (q4 * ((q4 * ((2 : Int64) - (q4 * q4))) * ((2 : Int64) - (q4 * (q4 * ((2 : Int64) - (q4 * q4))))))))))))), .second] [(.long (2 : Int64)), (.long ((((q4 * ((2 : Int64) - (q4 * q4))) * ((2 : Int64) - (q4 * (q4 * ((2 : Int64) - (q4 * q4)))))) * ((2 : Int64) - (q4 * ((q4 * ((2 : Int64) - (q4 * q4))) * ((2 : Int64) - (q4 * (q4 * ((2 : Int64) - (q4 * q4))))))))) * ((2 : Int64) - (q4 * (((q4 * ((2 : Int64) - (q4 * q4))) * ((2 : Int64) - (q4 * (q4 * ((2 : Int64) - (q4 * q4)))))) * ((2 : Int64) - (q4 * ((q4 * ((2 : Int64) - (q4 * q4))) * ((2 : Int64) - (q4 * (q4 * ((2 : Int64) - (q4 * q4)))))))))))))]))
  refine Goes.of (fun t k => XS.lloadN X0.here hx rfl (hb hby d3_46) rfl k) ?_
  show Goes _ _ _ _ _ _ _ (s₁.setTop (mkF m 47 #[.val (.long q4), .second, .val (.long ((((q4 * ((2 : Int64) - (q4 * q4))) * ((2 : Int64) - (q4 * (q4 * ((2 : Int64) - (q4 * q4)))))) * ((2 : Int64) - (q4 * ((q4 * ((2 : Int64) - (q4 * q4))) * ((2 : Int64) - (q4 * (q4 * ((2 : Int64) - (q4 * q4))))))))) * ((2 : Int64) - (q4 * (((q4 * ((2 : Int64) - (q4 * q4))) * ((2 : Int64) - (q4 * (q4 * ((2 : Int64) - (q4 * q4)))))) * ((2 : Int64) - (q4 * ((q4 * ((2 : Int64) - (q4 * q4))) * ((2 : Int64) - (q4 * (q4 * ((2 : Int64) - (q4 * q4))))))))))))), .second] [(.long q4), (.long (2 : Int64)), (.long ((((q4 * ((2 : Int64) - (q4 * q4))) * ((2 : Int64) - (q4 * (q4 * ((2 : Int64) - (q4 * q4)))))) * ((2 : Int64) - (q4 * ((q4 * ((2 : Int64) - (q4 * q4))) * ((2 : Int64) - (q4 * (q4 * ((2 : Int64) - (q4 * q4))))))))) * ((2 : Int64) - (q4 * (((q4 * ((2 : Int64) - (q4 * q4))) * ((2 : Int64) - (q4 * (q4 * ((2 : Int64) - (q4 * q4)))))) * ((2 : Int64) - (q4 * ((q4 * ((2 : Int64) - (q4 * q4))) * ((2 : Int64) - (q4 * (q4 * ((2 : Int64) - (q4 * q4)))))))))))))]))
  refine Goes.of (fun t k => XS.lloadN X0.here hx rfl (hb hby d3_47) rfl k) ?_
  show Goes _ _ _ _ _ _ _ (s₁.setTop (mkF m 48 #[.val (.long q4), .second, .val (.long ((((q4 * ((2 : Int64) - (q4 * q4))) * ((2 : Int64) - (q4 * (q4 * ((2 : Int64) - (q4 * q4)))))) * ((2 : Int64) - (q4 * ((q4 * ((2 : Int64) - (q4 * q4))) * ((2 : Int64) - (q4 * (q4 * ((2 : Int64) - (q4 * q4))))))))) * ((2 : Int64) - (q4 * (((q4 * ((2 : Int64) - (q4 * q4))) * ((2 : Int64) - (q4 * (q4 * ((2 : Int64) - (q4 * q4)))))) * ((2 : Int64) - (q4 * ((q4 * ((2 : Int64) - (q4 * q4))) * ((2 : Int64) - (q4 * (q4 * ((2 : Int64) - (q4 * q4))))))))))))), .second] [(.long ((((q4 * ((2 : Int64) - (q4 * q4))) * ((2 : Int64) - (q4 * (q4 * ((2 : Int64) - (q4 * q4)))))) * ((2 : Int64) - (q4 * ((q4 * ((2 : Int64) - (q4 * q4))) * ((2 : Int64) - (q4 * (q4 * ((2 : Int64) - (q4 * q4))))))))) * ((2 : Int64) - (q4 * (((q4 * ((2 : Int64) - (q4 * q4))) * ((2 : Int64) - (q4 * (q4 * ((2 : Int64) - (q4 * q4)))))) * ((2 : Int64) - (q4 * ((q4 * ((2 : Int64) - (q4 * q4))) * ((2 : Int64) - (q4 * (q4 * ((2 : Int64) - (q4 * q4))))))))))))), (.long q4), (.long (2 : Int64)), (.long ((((q4 * ((2 : Int64) - (q4 * q4))) * ((2 : Int64) - (q4 * (q4 * ((2 : Int64) - (q4 * q4)))))) * ((2 : Int64) - (q4 * ((q4 * ((2 : Int64) - (q4 * q4))) * ((2 : Int64) - (q4 * (q4 * ((2 : Int64) - (q4 * q4))))))))) * ((2 : Int64) - (q4 * (((q4 * ((2 : Int64) - (q4 * q4))) * ((2 : Int64) - (q4 * (q4 * ((2 : Int64) - (q4 * q4)))))) * ((2 : Int64) - (q4 * ((q4 * ((2 : Int64) - (q4 * q4))) * ((2 : Int64) - (q4 * (q4 * ((2 : Int64) - (q4 * q4)))))))))))))]))
  refine Goes.of (fun t k => XS.lmul X0.here hx rfl (hb hby d3_48) rfl k) ?_
  show Goes _ _ _ _ _ _ _ (s₁.setTop (mkF m 49 #[.val (.long q4), .second, .val (.long ((((q4 * ((2 : Int64) - (q4 * q4))) * ((2 : Int64) - (q4 * (q4 * ((2 : Int64) - (q4 * q4)))))) * ((2 : Int64) - (q4 * ((q4 * ((2 : Int64) - (q4 * q4))) * ((2 : Int64) - (q4 * (q4 * ((2 : Int64) - (q4 * q4))))))))) * ((2 : Int64) - (q4 * (((q4 * ((2 : Int64) - (q4 * q4))) * ((2 : Int64) - (q4 * (q4 * ((2 : Int64) - (q4 * q4)))))) * ((2 : Int64) - (q4 * ((q4 * ((2 : Int64) - (q4 * q4))) * ((2 : Int64) - (q4 * (q4 * ((2 : Int64) - (q4 * q4))))))))))))), .second] [(.long (q4 * ((((q4 * ((2 : Int64) - (q4 * q4))) * ((2 : Int64) - (q4 * (q4 * ((2 : Int64) - (q4 * q4)))))) * ((2 : Int64) - (q4 * ((q4 * ((2 : Int64) - (q4 * q4))) * ((2 : Int64) - (q4 * (q4 * ((2 : Int64) - (q4 * q4))))))))) * ((2 : Int64) - (q4 * (((q4 * ((2 : Int64) - (q4 * q4))) * ((2 : Int64) - (q4 * (q4 * ((2 : Int64) - (q4 * q4)))))) * ((2 : Int64) - (q4 * ((q4 * ((2 : Int64) - (q4 * q4))) * ((2 : Int64) - (q4 * (q4 * ((2 : Int64) - (q4 * q4)))))))))))))), (.long (2 : Int64)), (.long ((((q4 * ((2 : Int64) - (q4 * q4))) * ((2 : Int64) - (q4 * (q4 * ((2 : Int64) - (q4 * q4)))))) * ((2 : Int64) - (q4 * ((q4 * ((2 : Int64) - (q4 * q4))) * ((2 : Int64) - (q4 * (q4 * ((2 : Int64) - (q4 * q4))))))))) * ((2 : Int64) - (q4 * (((q4 * ((2 : Int64) - (q4 * q4))) * ((2 : Int64) - (q4 * (q4 * ((2 : Int64) - (q4 * q4)))))) * ((2 : Int64) - (q4 * ((q4 * ((2 : Int64) - (q4 * q4))) * ((2 : Int64) - (q4 * (q4 * ((2 : Int64) - (q4 * q4)))))))))))))]))
  refine Goes.of (fun t k => XS.lsub X0.here hx rfl (hb hby d3_49) rfl k) ?_
  show Goes _ _ _ _ _ _ _ (s₁.setTop (mkF m 50 #[.val (.long q4), .second, .val (.long ((((q4 * ((2 : Int64) - (q4 * q4))) * ((2 : Int64) - (q4 * (q4 * ((2 : Int64) - (q4 * q4)))))) * ((2 : Int64) - (q4 * ((q4 * ((2 : Int64) - (q4 * q4))) * ((2 : Int64) - (q4 * (q4 * ((2 : Int64) - (q4 * q4))))))))) * ((2 : Int64) - (q4 * (((q4 * ((2 : Int64) - (q4 * q4))) * ((2 : Int64) - (q4 * (q4 * ((2 : Int64) - (q4 * q4)))))) * ((2 : Int64) - (q4 * ((q4 * ((2 : Int64) - (q4 * q4))) * ((2 : Int64) - (q4 * (q4 * ((2 : Int64) - (q4 * q4))))))))))))), .second] [(.long ((2 : Int64) - (q4 * ((((q4 * ((2 : Int64) - (q4 * q4))) * ((2 : Int64) - (q4 * (q4 * ((2 : Int64) - (q4 * q4)))))) * ((2 : Int64) - (q4 * ((q4 * ((2 : Int64) - (q4 * q4))) * ((2 : Int64) - (q4 * (q4 * ((2 : Int64) - (q4 * q4))))))))) * ((2 : Int64) - (q4 * (((q4 * ((2 : Int64) - (q4 * q4))) * ((2 : Int64) - (q4 * (q4 * ((2 : Int64) - (q4 * q4)))))) * ((2 : Int64) - (q4 * ((q4 * ((2 : Int64) - (q4 * q4))) * ((2 : Int64) - (q4 * (q4 * ((2 : Int64) - (q4 * q4))))))))))))))), (.long ((((q4 * ((2 : Int64) - (q4 * q4))) * ((2 : Int64) - (q4 * (q4 * ((2 : Int64) - (q4 * q4)))))) * ((2 : Int64) - (q4 * ((q4 * ((2 : Int64) - (q4 * q4))) * ((2 : Int64) - (q4 * (q4 * ((2 : Int64) - (q4 * q4))))))))) * ((2 : Int64) - (q4 * (((q4 * ((2 : Int64) - (q4 * q4))) * ((2 : Int64) - (q4 * (q4 * ((2 : Int64) - (q4 * q4)))))) * ((2 : Int64) - (q4 * ((q4 * ((2 : Int64) - (q4 * q4))) * ((2 : Int64) - (q4 * (q4 * ((2 : Int64) - (q4 * q4)))))))))))))]))
  refine Goes.of (fun t k => XS.lmul X0.here hx rfl (hb hby d3_50) rfl k) ?_
  show Goes _ _ _ _ _ _ _ (s₁.setTop (mkF m 51 #[.val (.long q4), .second, .val (.long ((((q4 * ((2 : Int64) - (q4 * q4))) * ((2 : Int64) - (q4 * (q4 * ((2 : Int64) - (q4 * q4)))))) * ((2 : Int64) - (q4 * ((q4 * ((2 : Int64) - (q4 * q4))) * ((2 : Int64) - (q4 * (q4 * ((2 : Int64) - (q4 * q4))))))))) * ((2 : Int64) - (q4 * (((q4 * ((2 : Int64) - (q4 * q4))) * ((2 : Int64) - (q4 * (q4 * ((2 : Int64) - (q4 * q4)))))) * ((2 : Int64) - (q4 * ((q4 * ((2 : Int64) - (q4 * q4))) * ((2 : Int64) - (q4 * (q4 * ((2 : Int64) - (q4 * q4))))))))))))), .second] [(.long (((((q4 * ((2 : Int64) - (q4 * q4))) * ((2 : Int64) - (q4 * (q4 * ((2 : Int64) - (q4 * q4)))))) * ((2 : Int64) - (q4 * ((q4 * ((2 : Int64) - (q4 * q4))) * ((2 : Int64) - (q4 * (q4 * ((2 : Int64) - (q4 * q4))))))))) * ((2 : Int64) - (q4 * (((q4 * ((2 : Int64) - (q4 * q4))) * ((2 : Int64) - (q4 * (q4 * ((2 : Int64) - (q4 * q4)))))) * ((2 : Int64) - (q4 * ((q4 * ((2 : Int64) - (q4 * q4))) * ((2 : Int64) - (q4 * (q4 * ((2 : Int64) - (q4 * q4)))))))))))) * ((2 : Int64) - (q4 * ((((q4 * ((2 : Int64) - (q4 * q4))) * ((2 : Int64) - (q4 * (q4 * ((2 : Int64) - (q4 * q4)))))) * ((2 : Int64) - (q4 * ((q4 * ((2 : Int64) - (q4 * q4))) * ((2 : Int64) - (q4 * (q4 * ((2 : Int64) - (q4 * q4))))))))) * ((2 : Int64) - (q4 * (((q4 * ((2 : Int64) - (q4 * q4))) * ((2 : Int64) - (q4 * (q4 * ((2 : Int64) - (q4 * q4)))))) * ((2 : Int64) - (q4 * ((q4 * ((2 : Int64) - (q4 * q4))) * ((2 : Int64) - (q4 * (q4 * ((2 : Int64) - (q4 * q4))))))))))))))))]))
  refine Goes.of (fun t k => XS.lstoreN X0.here hx rfl (hb hby d3_51) rfl (l' := #[.val (.long q4), .second, .val (.long (((((q4 * ((2 : Int64) - (q4 * q4))) * ((2 : Int64) - (q4 * (q4 * ((2 : Int64) - (q4 * q4)))))) * ((2 : Int64) - (q4 * ((q4 * ((2 : Int64) - (q4 * q4))) * ((2 : Int64) - (q4 * (q4 * ((2 : Int64) - (q4 * q4))))))))) * ((2 : Int64) - (q4 * (((q4 * ((2 : Int64) - (q4 * q4))) * ((2 : Int64) - (q4 * (q4 * ((2 : Int64) - (q4 * q4)))))) * ((2 : Int64) - (q4 * ((q4 * ((2 : Int64) - (q4 * q4))) * ((2 : Int64) - (q4 * (q4 * ((2 : Int64) - (q4 * q4)))))))))))) * ((2 : Int64) - (q4 * ((((q4 * ((2 : Int64) - (q4 * q4))) * ((2 : Int64) - (q4 * (q4 * ((2 : Int64) - (q4 * q4)))))) * ((2 : Int64) - (q4 * ((q4 * ((2 : Int64) - (q4 * q4))) * ((2 : Int64) - (q4 * (q4 * ((2 : Int64) - (q4 * q4))))))))) * ((2 : Int64) - (q4 * (((q4 * ((2 : Int64) - (q4 * q4))) * ((2 : Int64) - (q4 * (q4 * ((2 : Int64) - (q4 * q4)))))) * ((2 : Int64) - (q4 * ((q4 * ((2 : Int64) - (q4 * q4))) * ((2 : Int64) - (q4 * (q4 * ((2 : Int64) - (q4 * q4)))))))))))))))), .second]) rfl k) ?_
  show Goes _ _ _ _ _ _ _ (s₁.setTop (mkF m 52 #[.val (.long q4), .second, .val (.long (((((q4 * ((2 : Int64) - (q4 * q4))) * ((2 : Int64) - (q4 * (q4 * ((2 : Int64) - (q4 * q4)))))) * ((2 : Int64) - (q4 * ((q4 * ((2 : Int64) - (q4 * q4))) * ((2 : Int64) - (q4 * (q4 * ((2 : Int64) - (q4 * q4))))))))) * ((2 : Int64) - (q4 * (((q4 * ((2 : Int64) - (q4 * q4))) * ((2 : Int64) - (q4 * (q4 * ((2 : Int64) - (q4 * q4)))))) * ((2 : Int64) - (q4 * ((q4 * ((2 : Int64) - (q4 * q4))) * ((2 : Int64) - (q4 * (q4 * ((2 : Int64) - (q4 * q4)))))))))))) * ((2 : Int64) - (q4 * ((((q4 * ((2 : Int64) - (q4 * q4))) * ((2 : Int64) - (q4 * (q4 * ((2 : Int64) - (q4 * q4)))))) * ((2 : Int64) - (q4 * ((q4 * ((2 : Int64) - (q4 * q4))) * ((2 : Int64) - (q4 * (q4 * ((2 : Int64) - (q4 * q4))))))))) * ((2 : Int64) - (q4 * (((q4 * ((2 : Int64) - (q4 * q4))) * ((2 : Int64) - (q4 * (q4 * ((2 : Int64) - (q4 * q4)))))) * ((2 : Int64) - (q4 * ((q4 * ((2 : Int64) - (q4 * q4))) * ((2 : Int64) - (q4 * (q4 * ((2 : Int64) - (q4 * q4)))))))))))))))), .second] []))
  refine Goes.of (fun t k => XS.lloadN X0.here hx rfl (hb hby d3_52) rfl k) ?_
  show Goes _ _ _ _ _ _ _ (s₁.setTop (mkF m 53 #[.val (.long q4), .second, .val (.long (((((q4 * ((2 : Int64) - (q4 * q4))) * ((2 : Int64) - (q4 * (q4 * ((2 : Int64) - (q4 * q4)))))) * ((2 : Int64) - (q4 * ((q4 * ((2 : Int64) - (q4 * q4))) * ((2 : Int64) - (q4 * (q4 * ((2 : Int64) - (q4 * q4))))))))) * ((2 : Int64) - (q4 * (((q4 * ((2 : Int64) - (q4 * q4))) * ((2 : Int64) - (q4 * (q4 * ((2 : Int64) - (q4 * q4)))))) * ((2 : Int64) - (q4 * ((q4 * ((2 : Int64) - (q4 * q4))) * ((2 : Int64) - (q4 * (q4 * ((2 : Int64) - (q4 * q4)))))))))))) * ((2 : Int64) - (q4 * ((((q4 * ((2 : Int64) - (q4 * q4))) * ((2 : Int64) - (q4 * (q4 * ((2 : Int64) - (q4 * q4)))))) * ((2 : Int64) - (q4 * ((q4 * ((2 : Int64) - (q4 * q4))) * ((2 : Int64) - (q4 * (q4 * ((2 : Int64) - (q4 * q4))))))))) * ((2 : Int64) - (q4 * (((q4 * ((2 : Int64) - (q4 * q4))) * ((2 : Int64) - (q4 * (q4 * ((2 : Int64) - (q4 * q4)))))) * ((2 : Int64) - (q4 * ((q4 * ((2 : Int64) - (q4 * q4))) * ((2 : Int64) - (q4 * (q4 * ((2 : Int64) - (q4 * q4)))))))))))))))), .second] [(.long (((((q4 * ((2 : Int64) - (q4 * q4))) * ((2 : Int64) - (q4 * (q4 * ((2 : Int64) - (q4 * q4)))))) * ((2 : Int64) - (q4 * ((q4 * ((2 : Int64) - (q4 * q4))) * ((2 : Int64) - (q4 * (q4 * ((2 : Int64) - (q4 * q4))))))))) * ((2 : Int64) - (q4 * (((q4 * ((2 : Int64) - (q4 * q4))) * ((2 : Int64) - (q4 * (q4 * ((2 : Int64) - (q4 * q4)))))) * ((2 : Int64) - (q4 * ((q4 * ((2 : Int64) - (q4 * q4))) * ((2 : Int64) - (q4 * (q4 * ((2 : Int64) - (q4 * q4)))))))))))) * ((2 : Int64) - (q4 * ((((q4 * ((2 : Int64) - (q4 * q4))) * ((2 : Int64) - (q4 * (q4 * ((2 : Int64) - (q4 * q4)))))) * ((2 : Int64) - (q4 * ((q4 * ((2 : Int64) - (q4 * q4))) * ((2 : Int64) - (q4 * (q4 * ((2 : Int64) - (q4 * q4))))))))) * ((2 : Int64) - (q4 * (((q4 * ((2 : Int64) - (q4 * q4))) * ((2 : Int64) - (q4 * (q4 * ((2 : Int64) - (q4 * q4)))))) * ((2 : Int64) - (q4 * ((q4 * ((2 : Int64) - (q4 * q4))) * ((2 : Int64) - (q4 * (q4 * ((2 : Int64) - (q4 * q4))))))))))))))))]))
  exact Goes.fin X0 hlk (v := some (.long (((((q4 * ((2 : Int64) - (q4 * q4))) * ((2 : Int64) - (q4 * (q4 * ((2 : Int64) - (q4 * q4)))))) * ((2 : Int64) - (q4 * ((q4 * ((2 : Int64) - (q4 * q4))) * ((2 : Int64) - (q4 * (q4 * ((2 : Int64) - (q4 * q4))))))))) * ((2 : Int64) - (q4 * (((q4 * ((2 : Int64) - (q4 * q4))) * ((2 : Int64) - (q4 * (q4 * ((2 : Int64) - (q4 * q4)))))) * ((2 : Int64) - (q4 * ((q4 * ((2 : Int64) - (q4 * q4))) * ((2 : Int64) - (q4 * (q4 * ((2 : Int64) - (q4 * q4)))))))))))) * ((2 : Int64) - (q4 * ((((q4 * ((2 : Int64) - (q4 * q4))) * ((2 : Int64) - (q4 * (q4 * ((2 : Int64) - (q4 * q4)))))) * ((2 : Int64) - (q4 * ((q4 * ((2 : Int64) - (q4 * q4))) * ((2 : Int64) - (q4 * (q4 * ((2 : Int64) - (q4 * q4))))))))) * ((2 : Int64) - (q4 * (((q4 * ((2 : Int64) - (q4 * q4))) * ((2 : Int64) - (q4 * (q4 * ((2 : Int64) - (q4 * q4)))))) * ((2 : Int64) - (q4 * ((q4 * ((2 : Int64) - (q4 * q4))) * ((2 : Int64) - (q4 * (q4 * ((2 : Int64) - (q4 * q4))))))))))))))))) (fun h => by rw [Bd.returns] at h; cases h) (fun fs hr => retOut X0 hx Bd.returns (by rfl) (Or.inr (Or.inl ⟨rfl, rfl, _, rfl⟩)) (hb hby d3_53) hr) ⟨congrArg (fun z => some (Value.long z)) (by rw [f3] : (((((q4 * ((2 : Int64) - (q4 * q4))) * ((2 : Int64) - (q4 * (q4 * ((2 : Int64) - (q4 * q4)))))) * ((2 : Int64) - (q4 * ((q4 * ((2 : Int64) - (q4 * q4))) * ((2 : Int64) - (q4 * (q4 * ((2 : Int64) - (q4 * q4))))))))) * ((2 : Int64) - (q4 * (((q4 * ((2 : Int64) - (q4 * q4))) * ((2 : Int64) - (q4 * (q4 * ((2 : Int64) - (q4 * q4)))))) * ((2 : Int64) - (q4 * ((q4 * ((2 : Int64) - (q4 * q4))) * ((2 : Int64) - (q4 * (q4 * ((2 : Int64) - (q4 * q4)))))))))))) * ((2 : Int64) - (q4 * ((((q4 * ((2 : Int64) - (q4 * q4))) * ((2 : Int64) - (q4 * (q4 * ((2 : Int64) - (q4 * q4)))))) * ((2 : Int64) - (q4 * ((q4 * ((2 : Int64) - (q4 * q4))) * ((2 : Int64) - (q4 * (q4 * ((2 : Int64) - (q4 * q4))))))))) * ((2 : Int64) - (q4 * (((q4 * ((2 : Int64) - (q4 * q4))) * ((2 : Int64) - (q4 * (q4 * ((2 : Int64) - (q4 * q4)))))) * ((2 : Int64) - (q4 * ((q4 * ((2 : Int64) - (q4 * q4))) * ((2 : Int64) - (q4 * (q4 * ((2 : Int64) - (q4 * q4))))))))))))))) = f3 q4), N0, e0⟩ (by decide) (by decide)
theorem pd_0 : parseMethodDescriptor "(J)J" = some ⟨[.long], some .long⟩ := by decide +kernel
theorem pd_1 : parseMethodDescriptor "(JI)J" = some ⟨[.long, .int], some .long⟩ := by decide +kernel
theorem ef_0 (m : MethodId) (u0 : Int64) : entryFrame m #[(.long u0)] maxLocals = mkF m 0 #[.val (.long u0), .second, .unset, .unset] [] := by first | (simp [entryFrame, mkF, argsToLocals, Value.category, maxLocals]; done) | rfl
def f0 (u0 : Int64) : Int32 :=
  (if (f2 ((f2 ((f2 (f1 u0) (31 : Int32)) * (f3 (-7723592293110705685 : Int64))) (27 : Int32)) * (f3 (-4658895280553007687 : Int64))) (30 : Int32)) = u0 then (1 : Int32)
  else (0 : Int32))
def Q0 (u0 : Int64) (h0 : Heap) (n0 : Nat) (v : Option Value) (h : Heap) (L : List Loc) : Prop := v = some (.int (f0 u0)) ∧ Fr n0 L ∧ h = h0
set_option maxRecDepth 65536 in
set_option maxHeartbeats 40000000 in
theorem rm0 (l : Launch) (Z : State) (a0 : Array Value) (hw : ∀ d ∈ tables_1, d.before a0 Z = true) (ws : List Jvm.Cond) (u0 : Int64) (h0 : Heap) (n0 : Nat) :
    MetFree l x (head1 (Jvm.Cond.code x code maxLocals ret :: ws) room_1) (fun a U => a = #[(.long u0)] ∧ Z.Warmed39 U.vm ∧ U.heap = h0) (fun _ _ _ _ _ => True) (fun _ U o U' => ∃ v L, o = .returned v ∧ Q0 u0 h0 n0 v U'.heap L ∧ FrameEnd U o U' L room_1.cells room_1.slots) := by
  refine MetFree.of_bodySF (plainFor_of_name pn_1) hisR ?_
  intro p e s m args below meth c s₁ Bd hml0 hP hK
  obtain ⟨rfl, hZ, hh⟩ := hP
  have hx := Bd.exec
  have hby := Bd.bytes
  have hlk : meth.locks = false := BodyLoose.notSynchronized Bd
  have hml : c.maxLocals = 4 := hml0
  have hown : s.vm.findClass "com/example/vhost/vhost/util/HashesMixPinLaw" = some m.cls := findClass_of_methodNamed Bd.named
  have X0 : Stand p l e room_1 s m #[(.long u0)] below meth c s₁ [] 0 0 := Stand.of_body Bd
  have e0 : s₁.heap = h0 := by rw [← hh, Bd.state]; rfl
  have N0 := Fr.nil n0
  show Goes p.tables e below s (Q0 u0 h0 n0) room_1.cells room_1.slots (s₁.setTop (entryFrame m #[(.long u0)] maxLocals))
  refine Goes.of (fun t k => castTop (ef_0 m u0) k) ?_
  show Goes _ _ _ _ _ _ _ (s₁.setTop (mkF m 0 #[.val (.long u0), .second, .unset, .unset] []))
  refine Goes.of (fun t k => XS.lloadN X0.here hx rfl (hb hby at_0) rfl k) ?_
  show Goes _ _ _ _ _ _ _ (s₁.setTop (mkF m 1 #[.val (.long u0), .second, .unset, .unset] [(.long u0)]))
  obtain ⟨_, _, ⟨T5, L5, k5, n5⟩, -, X5, ⟨Lc5, hQ5, l5, y5, z5⟩, st5⟩ := Jvm.LawKit.callS X0 hx (y := (⟨"com/example/vhost/vhost/util/Hashes", "mix", "(J)J"⟩ : MethodName)) hown (mvT hZ (hw _ (List.mem_of_getElem? (i := 0) rfl))) (mvT hZ (hw _ (List.mem_of_getElem? (i := 1) rfl))) (mvT hZ (hw _ (List.mem_of_getElem? (i := 2) rfl))) (mvT hZ (hw _ (List.mem_of_getElem? (i := 3) rfl))) (by decide) (backOf (W := 0) (rm1 l Z a0 hw [] u0 h0 n0) hZ (hw _ (List.mem_of_getElem? (i := 3) rfl)) (hw _ (List.mem_of_getElem? (i := 2) rfl)) (by decide) (by decide)) (g := (mkF m 1 #[.val (.long u0), .second, .unset, .unset] [(.long u0)])) rfl (by rw [hml]; rfl) (argsL := [(.long u0)]) (rest := []) (lenOf pd_0 rfl) rfl (by show 2 * 0 + _ ≤ _; exact Nat.le_of_eq rfl) (hb hby at_1) (fun _ _ => ⟨rfl, e0, (by decide : 0 + 0 ≤ _), (by decide : 0 + 0 ≤ _)⟩)
  dsimp only [Pt.U, Pt.locs, Pt.cells, Pt.slots] at X5 l5 y5 z5 st5 hQ5
  subst l5 y5 z5
  obtain ⟨rfl, N5q, e5⟩ := hQ5
  have N5 := Fr.app N0 N5q
  refine Goes.of st5 ?_
  show Goes _ _ _ _ _ _ _ (T5.setTop (mkF m 4 #[.val (.long u0), .second, .unset, .unset] [(.long (f1 u0))]))
  refine Goes.of (fun t k => XS.lstoreN X5.here hx rfl (hb hby at_4) rfl (l' := #[.val (.long u0), .second, .val (.long (f1 u0)), .second]) rfl k) ?_
  show Goes _ _ _ _ _ _ _ (T5.setTop (mkF m 5 #[.val (.long u0), .second, .val (.long (f1 u0)), .second] []))
  refine Goes.of (fun t k => XS.lloadN X5.here hx rfl (hb hby at_5) rfl k) ?_
  show Goes _ _ _ _ _ _ _ (T5.setTop (mkF m 6 #[.val (.long u0), .second, .val (.long (f1 u0)), .second] [(.long (f1 u0))]))
  refine Goes.of (fun t k => XS.bipush X5.here hx rfl (hb hby at_6) k) ?_
  show Goes _ _ _ _ _ _ _ (T5.setTop (mkF m 8 #[.val (.long u0), .second, .val (.long (f1 u0)), .second] [(.int (31 : Int32)), (.long (f1 u0))]))
  obtain ⟨_, _, ⟨T6, L6, k6, n6⟩, -, X6, ⟨Lc6, hQ6, l6, y6, z6⟩, st6⟩ := Jvm.LawKit.callS X5 hx (y := (⟨"com/example/vhost/vhost/util/HashesMixPinLaw", "unxs", "(JI)J"⟩ : MethodName)) hown (mvT hZ (hw _ (List.mem_of_getElem? (i := 6) rfl))) (mvT hZ (hw _ (List.mem_of_getElem? (i := 7) rfl))) (mvT hZ (hw _ (List.mem_of_getElem? (i := 8) rfl))) (mvT hZ (hw _ (List.mem_of_getElem? (i := 9) rfl))) (by decide) (backOf (W := 0) (rm2 l Z a0 hw [] (f1 u0) (31 : Int32) h0 n0) hZ (hw _ (List.mem_of_getElem? (i := 9) rfl)) (hw _ (List.mem_of_getElem? (i := 8) rfl)) (by decide) (by decide)) (g := (mkF m 8 #[.val (.long u0), .second, .val (.long (f1 u0)), .second] [(.int (31 : Int32)), (.long (f1 u0))])) rfl (by rw [hml]; rfl) (argsL := [(.long (f1 u0)), (.int (31 : Int32))]) (rest := []) (lenOf pd_1 rfl) rfl (by show 2 * 0 + _ ≤ _; exact Nat.le_of_eq rfl) (hb hby at_8) (fun _ _ => ⟨rfl, e5, (by decide : 0 + 0 ≤ _), (by decide : 0 + 0 ≤ _)⟩)
  dsimp only [Pt.U, Pt.locs, Pt.cells, Pt.slots] at X6 l6 y6 z6 st6 hQ6
  subst l6 y6 z6
  obtain ⟨rfl, N6q, e6⟩ := hQ6
  have N6 := Fr.app N5 N6q
  refine Goes.of st6 ?_
  show Goes _ _ _ _ _ _ _ (T6.setTop (mkF m 11 #[.val (.long u0), .second, .val (.long (f1 u0)), .second] [(.long (f2 (f1 u0) (31 : Int32)))]))
  refine Goes.of (fun t k => X6.ldc2Long hx hown (mvT hZ (hw _ (List.mem_of_getElem? (i := 10) rfl))) (g := (mkF m 11 #[.val (.long u0), .second, .val (.long (f1 u0)), .second] [(.long (f2 (f1 u0) (31 : Int32)))])) rfl (hb hby at_11) t k) ?_
  show Goes _ _ _ _ _ _ _ (T6.setTop (mkF m 14 #[.val (.long u0), .second, .val (.long (f1 u0)), .second] [(.long (-7723592293110705685 : Int64)), (.long (f2 (f1 u0) (31 : Int32)))]))
  obtain ⟨_, _, ⟨T7, L7, k7, n7⟩, -, X7, ⟨Lc7, hQ7, l7, y7, z7⟩, st7⟩ := Jvm.LawKit.callS X6 hx (y := (⟨"com/example/vhost/vhost/util/HashesMixPinLaw", "inv", "(J)J"⟩ : MethodName)) hown (mvT hZ (hw _ (List.mem_of_getElem? (i := 11) rfl))) (mvT hZ (hw _ (List.mem_of_getElem? (i := 12) rfl))) (mvT hZ (hw _ (List.mem_of_getElem? (i := 8) rfl))) (mvT hZ (hw _ (List.mem_of_getElem? (i := 13) rfl))) (by decide) (backOf (W := 2) (rm3 l Z a0 hw [] (-7723592293110705685 : Int64) h0 n0) hZ (hw _ (List.mem_of_getElem? (i := 13) rfl)) (hw _ (List.mem_of_getElem? (i := 8) rfl)) (by decide) (by decide)) (g := (mkF m 14 #[.val (.long u0), .second, .val (.long (f1 u0)), .second] [(.long (-7723592293110705685 : Int64)), (.long (f2 (f1 u0) (31 : Int32)))])) rfl (by rw [hml]; rfl) (argsL := [(.long (-7723592293110705685 : Int64))]) (rest := [(.long (f2 (f1 u0) (31 : Int32)))]) (lenOf pd_0 rfl) rfl (by show 2 * 0 + _ ≤ _; exact Nat.le_of_eq rfl) (hb hby at_14) (fun _ _ => ⟨rfl, e6, (by decide : 0 + 0 ≤ _), (by decide : 0 + 0 ≤ _)⟩)
  dsimp only [Pt.U, Pt.locs, Pt.cells, Pt.slots] at X7 l7 y7 z7 st7 hQ7
  subst l7 y7 z7
  obtain ⟨rfl, N7q, e7⟩ := hQ7
  have N7 := Fr.app N6 N7q
  refine Goes.of st7 ?_
  show Goes _ _ _ _ _ _ _ (T7.setTop (mkF m 17 #[.val (.long u0), .second, .val (.long (f1 u0)), .second] [(.long (f3 (-7723592293110705685 : Int64))), (.long (f2 (f1 u0) (31 : Int32)))]))
  refine Goes.of (fun t k => XS.lmul X7.here hx rfl (hb hby at_17) rfl k) ?_
  show Goes _ _ _ _ _ _ _ (T7.setTop (mkF m 18 #[.val (.long u0), .second, .val (.long (f1 u0)), .second] [(.long ((f2 (f1 u0) (31 : Int32)) * (f3 (-7723592293110705685 : Int64))))]))
  refine Goes.of (fun t k => XS.lstoreN X7.here hx rfl (hb hby at_18) rfl (l' := #[.val (.long u0), .second, .val (.long ((f2 (f1 u0) (31 : Int32)) * (f3 (-7723592293110705685 : Int64)))), .second]) rfl k) ?_
  show Goes _ _ _ _ _ _ _ (T7.setTop (mkF m 19 #[.val (.long u0), .second, .val (.long ((f2 (f1 u0) (31 : Int32)) * (f3 (-7723592293110705685 : Int64)))), .second] []))
  refine Goes.of (fun t k => XS.lloadN X7.here hx rfl (hb hby at_19) rfl k) ?_
  show Goes _ _ _ _ _ _ _ (T7.setTop (mkF m 20 #[.val (.long u0), .second, .val (.long ((f2 (f1 u0) (31 : Int32)) * (f3 (-7723592293110705685 : Int64)))), .second] [(.long ((f2 (f1 u0) (31 : Int32)) * (f3 (-7723592293110705685 : Int64))))]))
  refine Goes.of (fun t k => XS.bipush X7.here hx rfl (hb hby at_20) k) ?_
  show Goes _ _ _ _ _ _ _ (T7.setTop (mkF m 22 #[.val (.long u0), .second, .val (.long ((f2 (f1 u0) (31 : Int32)) * (f3 (-7723592293110705685 : Int64)))), .second] [(.int (27 : Int32)), (.long ((f2 (f1 u0) (31 : Int32)) * (f3 (-7723592293110705685 : Int64))))]))
  obtain ⟨_, _, ⟨T8, L8, k8, n8⟩, -, X8, ⟨Lc8, hQ8, l8, y8, z8⟩, st8⟩ := Jvm.LawKit.callS X7 hx (y := (⟨"com/example/vhost/vhost/util/HashesMixPinLaw", "unxs", "(JI)J"⟩ : MethodName)) hown (mvT hZ (hw _ (List.mem_of_getElem? (i := 6) rfl))) (mvT hZ (hw _ (List.mem_of_getElem? (i := 7) rfl))) (mvT hZ (hw _ (List.mem_of_getElem? (i := 8) rfl))) (mvT hZ (hw _ (List.mem_of_getElem? (i := 9) rfl))) (by decide) (backOf (W := 0) (rm2 l Z a0 hw [] ((f2 (f1 u0) (31 : Int32)) * (f3 (-7723592293110705685 : Int64))) (27 : Int32) h0 n0) hZ (hw _ (List.mem_of_getElem? (i := 9) rfl)) (hw _ (List.mem_of_getElem? (i := 8) rfl)) (by decide) (by decide)) (g := (mkF m 22 #[.val (.long u0), .second, .val (.long ((f2 (f1 u0) (31 : Int32)) * (f3 (-7723592293110705685 : Int64)))), .second] [(.int (27 : Int32)), (.long ((f2 (f1 u0) (31 : Int32)) * (f3 (-7723592293110705685 : Int64))))])) rfl (by rw [hml]; rfl) (argsL := [(.long ((f2 (f1 u0) (31 : Int32)) * (f3 (-7723592293110705685 : Int64)))), (.int (27 : Int32))]) (rest := []) (lenOf pd_1 rfl) rfl (by show 2 * 0 + _ ≤ _; exact Nat.le_of_eq rfl) (hb hby at_22) (fun _ _ => ⟨rfl, e7, (by decide : 0 + 0 ≤ _), (by decide : 0 + 0 ≤ _)⟩)
  dsimp only [Pt.U, Pt.locs, Pt.cells, Pt.slots] at X8 l8 y8 z8 st8 hQ8
  subst l8 y8 z8
  obtain ⟨rfl, N8q, e8⟩ := hQ8
  have N8 := Fr.app N7 N8q
  refine Goes.of st8 ?_
  show Goes _ _ _ _ _ _ _ (T8.setTop (mkF m 25 #[.val (.long u0), .second, .val (.long ((f2 (f1 u0) (31 : Int32)) * (f3 (-7723592293110705685 : Int64)))), .second] [(.long (f2 ((f2 (f1 u0) (31 : Int32)) * (f3 (-7723592293110705685 : Int64))) (27 : Int32)))]))
  refine Goes.of (fun t k => X8.ldc2Long hx hown (mvT hZ (hw _ (List.mem_of_getElem? (i := 15) rfl))) (g := (mkF m 25 #[.val (.long u0), .second, .val (.long ((f2 (f1 u0) (31 : Int32)) * (f3 (-7723592293110705685 : Int64)))), .second] [(.long (f2 ((f2 (f1 u0) (31 : Int32)) * (f3 (-7723592293110705685 : Int64))) (27 : Int32)))])) rfl (hb hby at_25) t k) ?_
  show Goes _ _ _ _ _ _ _ (T8.setTop (mkF m 28 #[.val (.long u0), .second, .val (.long ((f2 (f1 u0) (31 : Int32)) * (f3 (-7723592293110705685 : Int64)))), .second] [(.long (-4658895280553007687 : Int64)), (.long (f2 ((f2 (f1 u0) (31 : Int32)) * (f3 (-7723592293110705685 : Int64))) (27 : Int32)))]))
  obtain ⟨_, _, ⟨T9, L9, k9, n9⟩, -, X9, ⟨Lc9, hQ9, l9, y9, z9⟩, st9⟩ := Jvm.LawKit.callS X8 hx (y := (⟨"com/example/vhost/vhost/util/HashesMixPinLaw", "inv", "(J)J"⟩ : MethodName)) hown (mvT hZ (hw _ (List.mem_of_getElem? (i := 11) rfl))) (mvT hZ (hw _ (List.mem_of_getElem? (i := 12) rfl))) (mvT hZ (hw _ (List.mem_of_getElem? (i := 8) rfl))) (mvT hZ (hw _ (List.mem_of_getElem? (i := 13) rfl))) (by decide) (backOf (W := 2) (rm3 l Z a0 hw [] (-4658895280553007687 : Int64) h0 n0) hZ (hw _ (List.mem_of_getElem? (i := 13) rfl)) (hw _ (List.mem_of_getElem? (i := 8) rfl)) (by decide) (by decide)) (g := (mkF m 28 #[.val (.long u0), .second, .val (.long ((f2 (f1 u0) (31 : Int32)) * (f3 (-7723592293110705685 : Int64)))), .second] [(.long (-4658895280553007687 : Int64)), (.long (f2 ((f2 (f1 u0) (31 : Int32)) * (f3 (-7723592293110705685 : Int64))) (27 : Int32)))])) rfl (by rw [hml]; rfl) (argsL := [(.long (-4658895280553007687 : Int64))]) (rest := [(.long (f2 ((f2 (f1 u0) (31 : Int32)) * (f3 (-7723592293110705685 : Int64))) (27 : Int32)))]) (lenOf pd_0 rfl) rfl (by show 2 * 0 + _ ≤ _; exact Nat.le_of_eq rfl) (hb hby at_28) (fun _ _ => ⟨rfl, e8, (by decide : 0 + 0 ≤ _), (by decide : 0 + 0 ≤ _)⟩)
  dsimp only [Pt.U, Pt.locs, Pt.cells, Pt.slots] at X9 l9 y9 z9 st9 hQ9
  subst l9 y9 z9
  obtain ⟨rfl, N9q, e9⟩ := hQ9
  have N9 := Fr.app N8 N9q
  refine Goes.of st9 ?_
  show Goes _ _ _ _ _ _ _ (T9.setTop (mkF m 31 #[.val (.long u0), .second, .val (.long ((f2 (f1 u0) (31 : Int32)) * (f3 (-7723592293110705685 : Int64)))), .second] [(.long (f3 (-4658895280553007687 : Int64))), (.long (f2 ((f2 (f1 u0) (31 : Int32)) * (f3 (-7723592293110705685 : Int64))) (27 : Int32)))]))
  refine Goes.of (fun t k => XS.lmul X9.here hx rfl (hb hby at_31) rfl k) ?_
  show Goes _ _ _ _ _ _ _ (T9.setTop (mkF m 32 #[.val (.long u0), .second, .val (.long ((f2 (f1 u0) (31 : Int32)) * (f3 (-7723592293110705685 : Int64)))), .second] [(.long ((f2 ((f2 (f1 u0) (31 : Int32)) * (f3 (-7723592293110705685 : Int64))) (27 : Int32)) * (f3 (-4658895280553007687 : Int64))))]))
  refine Goes.of (fun t k => XS.lstoreN X9.here hx rfl (hb hby at_32) rfl (l' := #[.val (.long u0), .second, .val (.long ((f2 ((f2 (f1 u0) (31 : Int32)) * (f3 (-7723592293110705685 : Int64))) (27 : Int32)) * (f3 (-4658895280553007687 : Int64)))), .second]) rfl k) ?_
  show Goes _ _ _ _ _ _ _ (T9.setTop (mkF m 33 #[.val (.long u0), .second, .val (.long ((f2 ((f2 (f1 u0) (31 : Int32)) * (f3 (-7723592293110705685 : Int64))) (27 : Int32)) * (f3 (-4658895280553007687 : Int64)))), .second] []))
  refine Goes.of (fun t k => XS.lloadN X9.here hx rfl (hb hby at_33) rfl k) ?_
  show Goes _ _ _ _ _ _ _ (T9.setTop (mkF m 34 #[.val (.long u0), .second, .val (.long ((f2 ((f2 (f1 u0) (31 : Int32)) * (f3 (-7723592293110705685 : Int64))) (27 : Int32)) * (f3 (-4658895280553007687 : Int64)))), .second] [(.long ((f2 ((f2 (f1 u0) (31 : Int32)) * (f3 (-7723592293110705685 : Int64))) (27 : Int32)) * (f3 (-4658895280553007687 : Int64))))]))
  refine Goes.of (fun t k => XS.bipush X9.here hx rfl (hb hby at_34) k) ?_
  show Goes _ _ _ _ _ _ _ (T9.setTop (mkF m 36 #[.val (.long u0), .second, .val (.long ((f2 ((f2 (f1 u0) (31 : Int32)) * (f3 (-7723592293110705685 : Int64))) (27 : Int32)) * (f3 (-4658895280553007687 : Int64)))), .second] [(.int (30 : Int32)), (.long ((f2 ((f2 (f1 u0) (31 : Int32)) * (f3 (-7723592293110705685 : Int64))) (27 : Int32)) * (f3 (-4658895280553007687 : Int64))))]))
  obtain ⟨_, _, ⟨T10, L10, k10, n10⟩, -, X10, ⟨Lc10, hQ10, l10, y10, z10⟩, st10⟩ := Jvm.LawKit.callS X9 hx (y := (⟨"com/example/vhost/vhost/util/HashesMixPinLaw", "unxs", "(JI)J"⟩ : MethodName)) hown (mvT hZ (hw _ (List.mem_of_getElem? (i := 6) rfl))) (mvT hZ (hw _ (List.mem_of_getElem? (i := 7) rfl))) (mvT hZ (hw _ (List.mem_of_getElem? (i := 8) rfl))) (mvT hZ (hw _ (List.mem_of_getElem? (i := 9) rfl))) (by decide) (backOf (W := 0) (rm2 l Z a0 hw [] ((f2 ((f2 (f1 u0) (31 : Int32)) * (f3 (-7723592293110705685 : Int64))) (27 : Int32)) * (f3 (-4658895280553007687 : Int64))) (30 : Int32) h0 n0) hZ (hw _ (List.mem_of_getElem? (i := 9) rfl)) (hw _ (List.mem_of_getElem? (i := 8) rfl)) (by decide) (by decide)) (g := (mkF m 36 #[.val (.long u0), .second, .val (.long ((f2 ((f2 (f1 u0) (31 : Int32)) * (f3 (-7723592293110705685 : Int64))) (27 : Int32)) * (f3 (-4658895280553007687 : Int64)))), .second] [(.int (30 : Int32)), (.long ((f2 ((f2 (f1 u0) (31 : Int32)) * (f3 (-7723592293110705685 : Int64))) (27 : Int32)) * (f3 (-4658895280553007687 : Int64))))])) rfl (by rw [hml]; rfl) (argsL := [(.long ((f2 ((f2 (f1 u0) (31 : Int32)) * (f3 (-7723592293110705685 : Int64))) (27 : Int32)) * (f3 (-4658895280553007687 : Int64)))), (.int (30 : Int32))]) (rest := []) (lenOf pd_1 rfl) rfl (by show 2 * 0 + _ ≤ _; exact Nat.le_of_eq rfl) (hb hby at_36) (fun _ _ => ⟨rfl, e9, (by decide : 0 + 0 ≤ _), (by decide : 0 + 0 ≤ _)⟩)
  dsimp only [Pt.U, Pt.locs, Pt.cells, Pt.slots] at X10 l10 y10 z10 st10 hQ10
  subst l10 y10 z10
  obtain ⟨rfl, N10q, e10⟩ := hQ10
  have N10 := Fr.app N9 N10q
  refine Goes.of st10 ?_
  show Goes _ _ _ _ _ _ _ (T10.setTop (mkF m 39 #[.val (.long u0), .second, .val (.long ((f2 ((f2 (f1 u0) (31 : Int32)) * (f3 (-7723592293110705685 : Int64))) (27 : Int32)) * (f3 (-4658895280553007687 : Int64)))), .second] [(.long (f2 ((f2 ((f2 (f1 u0) (31 : Int32)) * (f3 (-7723592293110705685 : Int64))) (27 : Int32)) * (f3 (-4658895280553007687 : Int64))) (30 : Int32)))]))
  refine Goes.of (fun t k => XS.lstoreN X10.here hx rfl (hb hby at_39) rfl (l' := #[.val (.long u0), .second, .val (.long (f2 ((f2 ((f2 (f1 u0) (31 : Int32)) * (f3 (-7723592293110705685 : Int64))) (27 : Int32)) * (f3 (-4658895280553007687 : Int64))) (30 : Int32))), .second]) rfl k) ?_
  show Goes _ _ _ _ _ _ _ (T10.setTop (mkF m 40 #[.val (.long u0), .second, .val (.long (f2 ((f2 ((f2 (f1 u0) (31 : Int32)) * (f3 (-7723592293110705685 : Int64))) (27 : Int32)) * (f3 (-4658895280553007687 : Int64))) (30 : Int32))), .second] []))
  refine Goes.of (fun t k => XS.lloadN X10.here hx rfl (hb hby at_40) rfl k) ?_
  show Goes _ _ _ _ _ _ _ (T10.setTop (mkF m 41 #[.val (.long u0), .second, .val (.long (f2 ((f2 ((f2 (f1 u0) (31 : Int32)) * (f3 (-7723592293110705685 : Int64))) (27 : Int32)) * (f3 (-4658895280553007687 : Int64))) (30 : Int32))), .second] [(.long (f2 ((f2 ((f2 (f1 u0) (31 : Int32)) * (f3 (-7723592293110705685 : Int64))) (27 : Int32)) * (f3 (-4658895280553007687 : Int64))) (30 : Int32)))]))
  refine Goes.of (fun t k => XS.lloadN X10.here hx rfl (hb hby at_41) rfl k) ?_
  show Goes _ _ _ _ _ _ _ (T10.setTop (mkF m 42 #[.val (.long u0), .second, .val (.long (f2 ((f2 ((f2 (f1 u0) (31 : Int32)) * (f3 (-7723592293110705685 : Int64))) (27 : Int32)) * (f3 (-4658895280553007687 : Int64))) (30 : Int32))), .second] [(.long u0), (.long (f2 ((f2 ((f2 (f1 u0) (31 : Int32)) * (f3 (-7723592293110705685 : Int64))) (27 : Int32)) * (f3 (-4658895280553007687 : Int64))) (30 : Int32)))]))
  refine Goes.of (fun t k => XS.lcmp X10.here hx rfl (hb hby at_42) rfl k) ?_
  show Goes _ _ _ _ _ _ _ (T10.setTop (mkF m 43 #[.val (.long u0), .second, .val (.long (f2 ((f2 ((f2 (f1 u0) (31 : Int32)) * (f3 (-7723592293110705685 : Int64))) (27 : Int32)) * (f3 (-4658895280553007687 : Int64))) (30 : Int32))), .second] [(.int (lcmpW (f2 ((f2 ((f2 (f1 u0) (31 : Int32)) * (f3 (-7723592293110705685 : Int64))) (27 : Int32)) * (f3 (-4658895280553007687 : Int64))) (30 : Int32)) u0))]))
  by_cases hc11 : (f2 ((f2 ((f2 (f1 u0) (31 : Int32)) * (f3 (-7723592293110705685 : Int64))) (27 : Int32)) * (f3 (-4658895280553007687 : Int64))) (30 : Int32)) = u0
  · refine Goes.of (fun t k => XS.ifNo X10.here hx rfl (hb hby at_43) rfl ((if0 _ _).trans (teq ((lw_eq _ _).mpr hc11)).2) k) ?_
    show Goes _ _ _ _ _ _ _ (T10.setTop (mkF m 46 #[.val (.long u0), .second, .val (.long (f2 ((f2 ((f2 (f1 u0) (31 : Int32)) * (f3 (-7723592293110705685 : Int64))) (27 : Int32)) * (f3 (-4658895280553007687 : Int64))) (30 : Int32))), .second] []))
    refine Goes.of (fun t k => XS.iconst X10.here hx rfl (hb hby at_46) k) ?_
    show Goes _ _ _ _ _ _ _ (T10.setTop (mkF m 47 #[.val (.long u0), .second, .val (.long (f2 ((f2 ((f2 (f1 u0) (31 : Int32)) * (f3 (-7723592293110705685 : Int64))) (27 : Int32)) * (f3 (-4658895280553007687 : Int64))) (30 : Int32))), .second] [(.int (1 : Int32))]))
    refine Goes.of (fun t k => XS.goto X10.here hx rfl (pc0 := 47) (pc' := 51) rfl (hb hby at_47) (by decide) (by decide) k) ?_
    show Goes _ _ _ _ _ _ _ (T10.setTop (mkF m 51 #[.val (.long u0), .second, .val (.long (f2 ((f2 ((f2 (f1 u0) (31 : Int32)) * (f3 (-7723592293110705685 : Int64))) (27 : Int32)) * (f3 (-4658895280553007687 : Int64))) (30 : Int32))), .second] [(.int (1 : Int32))]))
    exact Goes.fin X10 hlk (v := some (.int (1 : Int32))) (fun h => by rw [Bd.returns] at h; cases h) (fun fs hr => retN X10 hx (t := .boolean) Bd.returns (by simp) (hb hby at_51) hr) ⟨congrArg (fun z => some (Value.int z)) (by rw [f0, if_pos hc11] : (1 : Int32) = f0 u0), N10, e10⟩ (by decide) (by decide)
  · refine Goes.of (fun t k => XS.ifYes X10.here hx rfl (pc0 := 43) (pc' := 50) rfl (hb hby at_43) rfl ((if0 _ _).trans (feq (fun q => hc11 ((lw_eq _ _).mp q))).2) (by decide) (by decide) k) ?_
    show Goes _ _ _ _ _ _ _ (T10.setTop (mkF m 50 #[.val (.long u0), .second, .val (.long (f2 ((f2 ((f2 (f1 u0) (31 : Int32)) * (f3 (-7723592293110705685 : Int64))) (27 : Int32)) * (f3 (-4658895280553007687 : Int64))) (30 : Int32))), .second] []))
    refine Goes.of (fun t k => XS.iconst X10.here hx rfl (hb hby at_50) k) ?_
    show Goes _ _ _ _ _ _ _ (T10.setTop (mkF m 51 #[.val (.long u0), .second, .val (.long (f2 ((f2 ((f2 (f1 u0) (31 : Int32)) * (f3 (-7723592293110705685 : Int64))) (27 : Int32)) * (f3 (-4658895280553007687 : Int64))) (30 : Int32))), .second] [(.int (0 : Int32))]))
    exact Goes.fin X10 hlk (v := some (.int (0 : Int32))) (fun h => by rw [Bd.returns] at h; cases h) (fun fs hr => retN X10 hx (t := .boolean) Bd.returns (by simp) (hb hby at_51) hr) ⟨congrArg (fun z => some (Value.int z)) (by rw [f0, if_neg hc11] : (0 : Int32) = f0 u0), N10, e10⟩ (by decide) (by decide)
theorem own_sh (z : Int64) (k : Int32) (n : Nat) (h : (k &&& 0x3f).toInt64.toUInt64.toBitVec % 64 = BitVec.ofNat 64 n) (hn : n < 64) : ((z.toUInt64 >>> (k &&& 0x3f).toInt64.toUInt64).toInt64).toBitVec = z.toBitVec >>> n := by
  have e : ((z.toUInt64 >>> (k &&& 0x3f).toInt64.toUInt64).toInt64).toBitVec = z.toBitVec >>> ((k &&& 0x3f).toInt64.toUInt64.toBitVec % 64) := rfl
  rw [e, h, BitVec.ushiftRight_eq', BitVec.toNat_ofNat, Nat.mod_eq_of_lt (by omega)]
theorem own_bv (b : BitVec 64) (k : Nat) (h1 : 64 ≤ 3 * k) : ((b ^^^ b >>> k) ^^^ (b ^^^ b >>> k) >>> k) ^^^ (b ^^^ b >>> k) >>> (2 * k) = b := by
  apply BitVec.eq_of_getLsbD_eq
  intro i hi
  simp only [BitVec.getLsbD_xor, BitVec.getLsbD_ushiftRight]
  rw [show k + (k + i) = 2 * k + i by omega, BitVec.getLsbD_of_ge b (k + (2 * k + i)) (by omega)]
  cases b.getLsbD i <;> cases b.getLsbD (k + i) <;> cases b.getLsbD (2 * k + i) <;> rfl
theorem own_un (z : Int64) (k : Int32) (n : Nat) (h1 : (k &&& 0x3f).toInt64.toUInt64.toBitVec % 64 = BitVec.ofNat 64 n) (h2 : (((2 : Int32) * k) &&& 0x3f).toInt64.toUInt64.toBitVec % 64 = BitVec.ofNat 64 (2 * n)) (hn : 2 * n < 64) (h3 : 64 ≤ 3 * n) :
    f2 (z ^^^ ((z.toUInt64 >>> (k &&& 0x3f).toInt64.toUInt64).toInt64)) k = z := by
  unfold f2
  apply Int64.toBitVec_inj.mp
  rw [Int64.toBitVec_xor, Int64.toBitVec_xor, own_sh _ k n h1 (by omega), own_sh _ ((2 : Int32) * k) (2 * n) h2 hn, Int64.toBitVec_xor, own_sh _ k n h1 (by omega)]
  exact own_bv _ _ h3
theorem own_inv1 : (-4658895280553007687 : Int64) * f3 (-4658895280553007687 : Int64) = 1 := by decide +kernel
theorem own_inv2 : (-7723592293110705685 : Int64) * f3 (-7723592293110705685 : Int64) = 1 := by decide +kernel
theorem own_law (u0 : Int64) : f0 u0 = 1 := by
  have e : f2 ((f2 ((f2 (f1 u0) (31 : Int32)) * (f3 (-7723592293110705685 : Int64))) (27 : Int32)) * (f3 (-4658895280553007687 : Int64))) (30 : Int32) = u0 := by
    unfold f1
    rw [own_un _ 31 31 (by decide) (by decide) (by decide) (by decide), Int64.mul_assoc, own_inv2, Int64.mul_one, own_un _ 27 27 (by decide) (by decide) (by decide) (by decide), Int64.mul_assoc, own_inv1, Int64.mul_one, own_un _ 30 30 (by decide) (by decide) (by decide) (by decide)]
  unfold f0
  rw [if_pos e]
set_option maxRecDepth 65536 in
set_option maxHeartbeats 40000000 in
theorem comes_1 {Post : Tables → Env → Array Value → State → Outcome → State → Prop} (hpost : ∀ tb e args s v u, (limb_1_1.after args s (.returned v) u = true ∧ limb_1_2.after args s (.returned v) u = true ∧ True) → FrameEnd s (.returned v) u (Jvm.fieldLocs frame_1_writes args s ++ Jvm.arrayLocs frame_1_arrays args s ++ Jvm.staticLocs frame_1_statics s) 0 0 → Post tb e args s (.returned v) u) :
    ArmFor flags0 classFile x code maxLocals ret World_1 tables_1 room_1 Calls_1 rest_1 Pre_1 Post := by
  intro l hfl _ _ p e ha hc hk s m args below hf hA hF happ hP
  obtain ⟨hcalls, hrest, hpre⟩ := hP
  obtain ⟨-, -, -, hnamed, -, -, -, hat⟩ := (Spec.applies_iff hf).mp happ
  obtain ⟨hg, hn⟩ := and_e (Cond.before_iff.mp (show (Jvm.Cond.and given_1 narrow_1).before args s = true from hpre))
  obtain ⟨g12, g13⟩ := and_e hg
  obtain ⟨w0, rfl⟩ : ∃ w0 : Value, args = #[w0] := by
    have hs : args.size = 1 := by simpa [Cond.value, given_1] using g12
    obtain ⟨L⟩ := args
    match L, hs with
    | [w0], _ => exact ⟨w0, rfl⟩
  have hw := fun d (hd : d ∈ tables_1) => atoms_spec (ws := Jvm.Cond.code x code maxLocals ret :: tables_1) hat d (List.mem_cons_of_mem _ hd)
  obtain ⟨i0, ei0⟩ := isL_v g13
  obtain rfl : w0 = (.long i0) := Option.some.inj ei0
  obtain ⟨n, o, h1, h2, h3, _, L, rfl, ⟨rfl, N, -⟩, hq⟩ := rm0 l s _ hw tables_1 i0 s.heap s.heap.size p e ha hc hk s m _ below hf ((Spec.applies_iff_loose hf).mp happ).1 ⟨rfl, State.Warmed39.refl s, rfl⟩ trivial
  exact ⟨n, _, h1, h2, h3, hpost _ _ _ _ _ _ ⟨Cond.after_iff.mpr rfl, Cond.after_iff.mpr (eq_i res_at (Term.int_eval (1)) (congrArg Value.int (own_law i0))), trivial⟩ ⟨hq.1, hq.2.1, (hq.2.2.sift fun y hy => Or.inr (N y hy)).mono (by decide) (by decide)⟩⟩
theorem main_1_1 : Claimed_1_1 := comes_1 fun _ _ _ _ _ _ h hF => ⟨h.1, hF⟩
theorem main_1_2 : Claimed_1_2 := comes_1 fun _ _ _ _ _ _ h hF => ⟨h.2.1, hF⟩
end Jvm.Pilot.@@N@@
namespace Jvm.Pilot.@@N@@
open Jvm Jvm.ClassFile Sem Op Lib Jvm.Free Jvm.Stand Jvm.Pilot.@@N@@.Jvm.D
/-! MADE BY PROGRAM (witnessworld.py) out of the Statement's table words and the real class files: 9 classes; the members and pool entries that the words name. The judged class is class 1, her method 3. -/
namespace start1
open Jvm.ClassFile
def u (s : String) : CpInfo := .utf8 (stringToUtf16 s)
/-- a pool by its gaps: so many unusable entries, then the entry; so many at the end -/
def gap : Nat → List CpInfo → List CpInfo
  | 0, r => r
  | n + 1, r => .unusable :: gap n r
def poolList (es : List (Nat × CpInfo)) (last : Nat) : List CpInfo := es.foldr (fun e r => gap e.1 (e.2 :: r)) (gap last [])
def pool (es : List (Nat × CpInfo)) (last : Nat) : Array CpInfo := ⟨poolList es last⟩
def fileOf (pool : Array CpInfo) (this : Nat) (attrs : Array Attribute := #[]) (ms : Array MethodInfo := #[]) (fl : Nat := 33) (sup : Nat := 0) (ifs : Array Nat := #[]) (fds : Array FieldInfo := #[]) : ClassFile where
  minorVersion := 0
  majorVersion := 65
  constantPool := pool
  accessFlags := fl
  thisClass := this
  superClass := sup
  interfaces := ifs
  fields := fds
  methods := ms
  attributes := attrs
def plain (name : String) (sup : Option ClassId) : Class where
  name := name
  kind := .ordinary
  loader := none
  accessFlags := 33
  super := sup
  interfaces := #[]
  cf := none
  fields := #[]
  methods := #[]
  instanceTypes := #[]
  staticTypes := #[]
  resolved := #[]
  callSites := []
  init := .initialized
  statics := none
  mirror := none

def pool0 : Array CpInfo := pool [(5, u "<init>"), (0, u "()V"), (1, .class_ 10), (1, u "java/lang/Object")] 113

def k0m0 : Method := { name := "<init>", desc := "()V", sig := { parameters := [], returnType := none }, accessFlags := 1, code := none }
/-- java/lang/Object -/
def k0 : Class := { plain "java/lang/Object" none with
  accessFlags := 33
  interfaces := #[]
  cf := some (fileOf pool0 8 #[] #[{ accessFlags := 1, nameIndex := 5, descriptorIndex := 6, attributes := #[] }] 33 0 #[] #[])
  fields := #[]
  methods := #[k0m0]
  instanceTypes := #[]
  staticTypes := #[]
  resolved := Array.replicate 124 none
  statics := none }

def pool1 : Array CpInfo := pool [(2, .class_ 4), (1, u "java/lang/Object"), (0, u "<init>"), (0, u "()V"), (0, .long 2), (1, .methodref 10 11), (0, .class_ 12), (0, .nameAndType 13 14), (0, u "com/example/vhost/vhost/util/Hashes"), (0, u "mix"), (0, u "(J)J"), (0, .methodref 16 17), (0, .class_ 18), (0, .nameAndType 19 20), (0, u "com/example/vhost/vhost/util/HashesMixPinLaw"), (0, u "unxs"), (0, u "(JI)J"), (0, .long 10723151780598845931), (1, .methodref 16 24), (0, .nameAndType 25 14), (0, u "inv"), (0, .long 13787848793156543929), (3, u "law"), (0, u "(J)Z")] 3

def k1m0 : Method := { name := "<init>", desc := "()V", sig := { parameters := [], returnType := none }, accessFlags := 2, code := none }
def k1c1 : Code := { maxStack := 8, maxLocals := 4, code := method_2_code, exceptionTable := #[], attributes := #[] }
def k1m1 : Method := { name := "inv", desc := "(J)J", sig := { parameters := [.long], returnType := some .long }, accessFlags := 10, code := some k1c1 }
def k1c2 : Code := { maxStack := 6, maxLocals := 3, code := method_3_code, exceptionTable := #[], attributes := #[] }
def k1m2 : Method := { name := "unxs", desc := "(JI)J", sig := { parameters := [.long, .int], returnType := some .long }, accessFlags := 10, code := some k1c2 }
def k1c3 : Code := { maxStack := 4, maxLocals := 4, code := code, exceptionTable := #[], attributes := #[] }
def k1m3 : Method := { name := "law", desc := "(J)Z", sig := { parameters := [.long], returnType := some .boolean }, accessFlags := 9, code := some k1c3 }
/-- com/example/vhost/vhost/util/HashesMixPinLaw -/
def k1 : Class := { plain "com/example/vhost/vhost/util/HashesMixPinLaw" (some 0) with
  accessFlags := 49
  interfaces := #[]
  cf := some (fileOf pool1 16 #[] #[{ accessFlags := 2, nameIndex := 5, descriptorIndex := 6, attributes := #[] }, { accessFlags := 10, nameIndex := 25, descriptorIndex := 14, attributes := #[] }, { accessFlags := 10, nameIndex := 19, descriptorIndex := 20, attributes := #[] }, { accessFlags := 9, nameIndex := 30, descriptorIndex := 31, attributes := #[] }] 49 2 #[] #[])
  fields := #[]
  methods := #[k1m0, k1m1, k1m2, k1m3]
  instanceTypes := #[]
  staticTypes := #[]
  resolved := Array.replicate 35 none
  statics := none }

def pool2 : Array CpInfo := pool [(2, .class_ 4), (1, u "java/lang/Object"), (0, u "<init>"), (0, u "()V"), (4, .long 13787848793156543929), (1, .long 10723151780598845931), (1, .class_ 16), (0, u "com/example/vhost/vhost/util/Hashes"), (7, u "mix"), (0, u "(J)J")] 2

def k2m0 : Method := { name := "<init>", desc := "()V", sig := { parameters := [], returnType := none }, accessFlags := 2, code := none }
def k2c1 : Code := { maxStack := 5, maxLocals := 4, code := prog_25_method_3_code, exceptionTable := #[], attributes := #[] }
def k2m1 : Method := { name := "mix", desc := "(J)J", sig := { parameters := [.long], returnType := some .long }, accessFlags := 9, code := some k2c1 }
/-- com/example/vhost/vhost/util/Hashes -/
def k2 : Class := { plain "com/example/vhost/vhost/util/Hashes" (some 0) with
  accessFlags := 33
  interfaces := #[]
  cf := some (fileOf pool2 15 #[] #[{ accessFlags := 2, nameIndex := 5, descriptorIndex := 6, attributes := #[] }, { accessFlags := 9, nameIndex := 24, descriptorIndex := 25, attributes := #[] }] 33 2 #[] #[])
  fields := #[]
  methods := #[k2m0, k2m1]
  instanceTypes := #[]
  staticTypes := #[]
  resolved := Array.replicate 28 none
  statics := none }

def pool3 : Array CpInfo := pool [(1, u "java/lang/Cloneable"), (0, .class_ 1), (0, u "java/lang/Object"), (0, .class_ 3)] 3

/-- java/lang/Cloneable -/
def k3 : Class := { plain "java/lang/Cloneable" (some 0) with
  accessFlags := 1537
  interfaces := #[]
  cf := some (fileOf pool3 2 #[] #[] 1537 4 #[] #[])
  fields := #[]
  methods := #[]
  instanceTypes := #[]
  staticTypes := #[]
  resolved := Array.replicate 8 none
  statics := none }

def pool4 : Array CpInfo := pool [(1, u "java/io/Serializable"), (0, .class_ 1), (0, u "java/lang/Object"), (0, .class_ 3)] 3

/-- java/io/Serializable -/
def k4 : Class := { plain "java/io/Serializable" (some 0) with
  accessFlags := 1537
  interfaces := #[]
  cf := some (fileOf pool4 2 #[] #[] 1537 4 #[] #[])
  fields := #[]
  methods := #[]
  instanceTypes := #[]
  staticTypes := #[]
  resolved := Array.replicate 8 none
  statics := none }

/-- the primitive byte -/
def k5 : Class := { plain "byte" none with kind := .primitive 'B', accessFlags := 0x411 }
/-- [B -/
def k6 : Class := { plain "[B" (some 0) with kind := .array 5 .byte, interfaces := #[3, 4], accessFlags := 1041 }

/-- the primitive int -/
def k7 : Class := { plain "int" none with kind := .primitive 'I', accessFlags := 0x411 }
/-- [I -/
def k8 : Class := { plain "[I" (some 0) with kind := .array 7 .int, interfaces := #[3, 4], accessFlags := 1041 }

def heap : Heap := #[]
def classes : Array Class := #[k0, k1, k2, k3, k4, k5, k6, k7, k8]
def interned : List (Array UInt16 × Addr) := []
def slotsUsed : Nat := 0
def theMethod : MethodId := ⟨1, 3⟩
def args0 : Array Value := #[.long 5]
def aboutOver (below : List Frame) : State where
  vm := { classes := classes, interned := interned.toArray }
  heap := heap
  slotsUsed := slotsUsed
  threads := #[{ frames := .invoking theMethod args0 :: below }]
def below0 : List Frame := [.native { method := ⟨0, 0⟩, args := #[] }]
def about1 : State := aboutOver below0
def p0 : Program := .bare "" "" ""
def e0 : Env := launch0.env 0 0 0
theorem w_frames : about1.frames = Frame.invoking theMethod args0 :: below0 := rfl
set_option maxRecDepth 65536 in
theorem w_args : argsFit about1.vm theMethod args0 = true := by decide +kernel
set_option maxRecDepth 65536 in
theorem w_heap : heapFits about1 = true := by decide +kernel
set_option maxRecDepth 65536 in
theorem w_runnable : about1.curStatus? = some .runnable := by decide +kernel
set_option maxRecDepth 65536 in
theorem w_alone : about1.alone = true := by decide +kernel
set_option maxRecDepth 65536 in
theorem w_named : about1.methodNamed? x = some theMethod := by decide +kernel
set_option maxRecDepth 65536 in
theorem w_hears : about1.hears theMethod below0 = true := by decide +kernel
set_option maxRecDepth 65536 in
theorem w_ripe : about1.ripe theMethod args0 below0 = true := by decide +kernel
theorem w_running : about1.status = .running := rfl
set_option maxRecDepth 65536 in
theorem w_room : about1.hasRoom e0.platform room_1 = true :=
  launch0.hasRoom_least _ room_1 (by decide +kernel) (by decide +kernel) (by decide +kernel) (by decide +kernel) (by decide +kernel) (by decide +kernel)
theorem allAtoms_all (ts : List Jvm.Cond) (a : Array Jvm.Value) (st : Jvm.State) : (allAtoms ts).before a st = ts.all (fun c => c.before a st) := by
  induction ts with
  | nil => rfl
  | cons c t ih =>
    show (Jvm.Cond.and c (allAtoms t)).before a st = _
    rw [Jvm.Cond.before_and, ih, List.all_cons]
def words1 : List Jvm.Cond := Jvm.Cond.code x code maxLocals ret :: tables_1
/-- a 'code' word, met by the world's own term for the bytes: nothing is compared byte by byte -/
theorem code_word {y : MethodName} {bytes : ByteArray} {mx : Nat} {rt : Option FieldType} {a : Array Value} {s : State} {m : MethodId} {meth : Method} {c : Code} (h1 : s.methodNamed? y = some m) (h2 : s.vm.method? m = some meth) (h3 : meth.code = some c) (h4 : c.code = bytes)
    (h5 : (c.maxLocals == mx && c.exceptionTable.isEmpty && decide (c.maxStack ≤ mostOperands) && decide (meth.sig.returnType = rt) && !meth.locks && decide (parseMethodDescriptor y.desc = some meth.sig)) = true) : (Jvm.Cond.code y bytes mx rt).before a s = true := by
  simp only [Bool.and_eq_true, beq_iff_eq, Bool.not_eq_true', decide_eq_true_eq] at h5
  obtain ⟨⟨⟨⟨⟨g1, g2⟩, g3⟩, g4⟩, g5⟩, g6⟩ := h5
  simp [Cond.before, Cond.holds, Cond.value, h1, h2, h3, h4, g1, g2, g3, g4, g5, g6]
def isCode : Jvm.Cond → Bool
  | .code _ _ _ _ => true
  | _ => false
theorem all_split {L : List Jvm.Cond} {P : Jvm.Cond → Bool} (h1 : L.all (fun c => isCode c || P c) = true) (h2 : ∀ c ∈ L.filter isCode, P c = true) : L.all P = true := by
  refine List.all_eq_true.mpr fun c hc => ?_
  have h := List.all_eq_true.mp h1 c hc
  rcases Bool.eq_false_or_eq_true (isCode c) with hi | hi
  · exact h2 c (List.mem_filter.mpr ⟨hc, hi⟩)
  · simpa [hi] using h
set_option maxRecDepth 65536 in
theorem w_c0 : (Jvm.Cond.code x code maxLocals ret).before args0 about1 = true := code_word (m := ⟨1, 3⟩) (meth := k1m3) (c := k1c3) (by decide +kernel) rfl rfl rfl (by decide +kernel)
set_option maxRecDepth 65536 in
theorem w_c1 : (Jvm.Cond.code ({ cls := "com/example/vhost/vhost/util/Hashes", name := "mix", desc := "(J)J" } : Jvm.MethodName) prog_25_method_3_code (4 : Nat) (Option.some Jvm.ClassFile.FieldType.long)).before args0 about1 = true := code_word (m := ⟨2, 1⟩) (meth := k2m1) (c := k2c1) (by decide +kernel) rfl rfl rfl (by decide +kernel)
set_option maxRecDepth 65536 in
theorem w_c2 : (Jvm.Cond.code ({ cls := "com/example/vhost/vhost/util/HashesMixPinLaw", name := "unxs", desc := "(JI)J" } : Jvm.MethodName) method_3_code (3 : Nat) (Option.some Jvm.ClassFile.FieldType.long)).before args0 about1 = true := code_word (m := ⟨1, 2⟩) (meth := k1m2) (c := k1c2) (by decide +kernel) rfl rfl rfl (by decide +kernel)
set_option maxRecDepth 65536 in
theorem w_c3 : (Jvm.Cond.code ({ cls := "com/example/vhost/vhost/util/HashesMixPinLaw", name := "inv", desc := "(J)J" } : Jvm.MethodName) method_2_code (4 : Nat) (Option.some Jvm.ClassFile.FieldType.long)).before args0 about1 = true := code_word (m := ⟨1, 1⟩) (meth := k1m1) (c := k1c1) (by decide +kernel) rfl rfl rfl (by decide +kernel)
def codes1 : List Jvm.Cond := [Jvm.Cond.code x code maxLocals ret, Jvm.Cond.code ({ cls := "com/example/vhost/vhost/util/Hashes", name := "mix", desc := "(J)J" } : Jvm.MethodName) prog_25_method_3_code (4 : Nat) (Option.some Jvm.ClassFile.FieldType.long), Jvm.Cond.code ({ cls := "com/example/vhost/vhost/util/HashesMixPinLaw", name := "unxs", desc := "(JI)J" } : Jvm.MethodName) method_3_code (3 : Nat) (Option.some Jvm.ClassFile.FieldType.long), Jvm.Cond.code ({ cls := "com/example/vhost/vhost/util/HashesMixPinLaw", name := "inv", desc := "(J)J" } : Jvm.MethodName) method_2_code (4 : Nat) (Option.some Jvm.ClassFile.FieldType.long)]
set_option maxRecDepth 65536 in
theorem codes_eq : words1.filter isCode = codes1 := rfl
theorem w_codes : ∀ c ∈ words1.filter isCode, c.before args0 about1 = true := by
  rw [codes_eq]
  intro c hc
  simp only [codes1, List.mem_cons, List.not_mem_nil, or_false] at hc
  rcases hc with rfl | rfl | rfl | rfl
  · exact w_c0
  · exact w_c1
  · exact w_c2
  · exact w_c3
set_option maxRecDepth 65536 in
theorem w_t1 : words1.all (fun c => isCode c || c.before args0 about1) = true := by decide +kernel
theorem w_tables : (allAtoms (Jvm.Cond.code x code maxLocals ret :: tables_1)).before args0 about1 = true := by
  rw [allAtoms_all]
  show words1.all (fun c => c.before args0 about1) = true
  refine all_split ?_ w_codes
  rw [w_t1]
set_option maxRecDepth 65536 in
theorem w_case : (Jvm.Cond.and given_1 narrow_1).before args0 about1 = true := by decide +kernel
theorem w_applies : (headSpec (Jvm.Cond.code x code maxLocals ret :: tables_1) room_1).applies x e0.platform about1 = true :=
  (Spec.applies_iff w_frames).mpr ⟨w_running, w_runnable, w_alone, w_named, w_hears, w_ripe, w_room, w_tables⟩
theorem atStart : AtStart classFile x code maxLocals ret World_1 tables_1 room_1 Calls_1 rest_1 Pre_1 launch0 p0 e0 about1 theMethod args0 below0 :=
  ⟨lists_1, trivial, launch0.admits_env _ _ _, launch0.least_env, fairChoices_fair.cas, fairChoices_fair.clock, w_frames, w_args, w_heap, w_applies, trivial, trivial, w_case⟩
end start1
theorem witness_1 : WitnessClaimed_1 := ⟨start1.p0, start1.e0, start1.about1, start1.theMethod, start1.args0, start1.below0, start1.atStart⟩
end Jvm.Pilot.@@N@@
