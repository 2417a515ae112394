import JvmDerived
import JvmDerived.Pilot.@@N@@Statement
import JvmDerived.Pilot.@@N@@Code
set_option linter.unusedVariables false
set_option linter.unusedSimpArgs false
namespace Jvm.RoadKit
open Sem ClassFile Op Lib Jvm.Stand Jvm.Free Jvm.LawKit
section New
variable {p : Program} {l : Launch} {e : Env} {R : Room} {s : State} {m : MethodId} {args : Array Value} {below : List Frame} {meth : Method} {c : Code} {T : State} {locs : List Loc} {cells slots : Nat}
theorem retI (X : Stand p l e R s m args below meth c T locs cells slots) (hx : p.tables.exec = Jvm.exec) {pc : Nat} {Ls : Array Slot} {z : Int32} {rest : List Value} (hret : meth.sig.returnType = some .int) (hd : decode c.code pc = .ok (.ireturn, 1)) {fs : List Frame}
    (hl : ∀ (f : JFrame) (acts : List Action), f.method = m → f.locked = none → f.entered = [] → (doReturn e (T.setTop f) acts (some (.int z))).1 = T.setFrames fs) : Steps p.tables e below (T.setTop (mkF m pc Ls (.int z :: rest))) (T.setFrames fs) := by
  have hm' : T.vm.method? m = some meth := X.method'
  have hn : narrow .int (.int z) = .int z := rfl
  show Steps p.tables e below (T.setTop { method := m, pc := pc, locals := Ls, stack := _ :: rest, locked := none }) _
  jvm_step X.here [X.here.top, hx, hd, hm', hret, hn]
  first | (intro acts; rw [hl _ acts rfl rfl rfl]) | rw [hl _ _ rfl rfl rfl]
  exact Steps.refl _
end New
end Jvm.RoadKit
namespace Jvm.Pilot.@@N@@
open Jvm Jvm.ClassFile Sem Op Lib Jvm.Free Jvm.Stand Jvm.LawKit Jvm.RoadKit Bundle Jvm.Pilot.@@N@@.Jvm.D
section OwnKit
variable {p : Program} {l : Launch} {e : Env} {R : Room} {s : State} {m : MethodId} {args : Array Value} {below : List Frame} {meth : Method} {c : Code} {T : State} {locs : List Loc} {cells slots : Nat}
/-- from S the run comes to a return of which F holds -/
def Goes (tb : Tables) (e : Env) (below : List Frame) (s : State) (F : Option Value → Heap → List Loc → Prop) (k n : Nat) (S : State) : Prop :=
  ∃ s₂ o, Steps tb e below S s₂ ∧ s₂.status = .running ∧ Ended s₂ below o ∧ ∃ v L, o = .returned v ∧ F v s₂.heap L ∧ FrameEnd s o s₂ L k n
theorem Goes.of {tb : Tables} {F : Option Value → Heap → List Loc → Prop} {k n : Nat} {S S' : State} (h : ∀ t, Steps tb e below S' t → Steps tb e below S t) (g : Goes tb e below s F k n S') : Goes tb e below s F k n S := by
  obtain ⟨s₂, o, h1, r⟩ := g
  exact ⟨s₂, o, h _ h1, r⟩
theorem Goes.mono {tb : Tables} {F G : Option Value → Heap → List Loc → Prop} {k n : Nat} {S : State} (h : ∀ v h L, F v h L → G v h L) (g : Goes tb e below s F k n S) : Goes tb e below s G k n S := by
  obtain ⟨s₂, o, h1, h2, h3, v, L, h4, h5, h6⟩ := g
  exact ⟨s₂, o, h1, h2, h3, v, L, h4, h _ _ _ h5, h6⟩
theorem Goes.fin (X : Stand p l e R s m args below meth c T locs cells slots) (hlk : meth.locks = false) {v : Option Value} {F : Option Value → Heap → List Loc → Prop} {k n : Nat} {S : State} (hv : meth.sig.returnType = none → v = none)
    (step : ∀ fs, (∀ (f : JFrame) (acts : List Action), f.method = m → f.locked = none → f.entered = [] → (doReturn e (T.setTop f) acts v).1 = T.setFrames fs) → Steps p.tables e below S (T.setFrames fs)) (hF : F v T.heap locs) (hk : cells ≤ k) (hn : slots ≤ n) : Goes p.tables e below s F k n S := by
  obtain ⟨fs, hr, hrun, hended, hW, hsame⟩ := X.leave hv hlk
  exact ⟨_, _, step fs hr, hrun, hended, v, locs, rfl, hF, ⟨_, rfl⟩, hW, hsame.mono hk hn⟩
end OwnKit
theorem d1_0 : decode prog_126_method_2_code 0 = .ok (.iload_n 0, 1) := by decide +kernel
theorem d1_1 : decode prog_126_method_2_code 1 = .ok (.sipush 128, 3) := by decide +kernel
theorem d1_4 : decode prog_126_method_2_code 4 = .ok (.if_icmp .lt 15, 3) := by decide +kernel
theorem d1_7 : decode prog_126_method_2_code 7 = .ok (.iload_n 0, 1) := by decide +kernel
theorem d1_8 : decode prog_126_method_2_code 8 = .ok (.ldc 17, 2) := by decide +kernel
theorem d1_10 : decode prog_126_method_2_code 10 = .ok (.if_icmp .le 14, 3) := by decide +kernel
theorem d1_13 : decode prog_126_method_2_code 13 = .ok (.iload_n 0, 1) := by decide +kernel
theorem d1_14 : decode prog_126_method_2_code 14 = .ok (.ldc 18, 2) := by decide +kernel
theorem d1_16 : decode prog_126_method_2_code 16 = .ok (.if_icmp .gt 8, 3) := by decide +kernel
theorem d1_19 : decode prog_126_method_2_code 19 = .ok (.iconst 1, 1) := by decide +kernel
theorem d1_20 : decode prog_126_method_2_code 20 = .ok (.istore_n 1, 1) := by decide +kernel
theorem d1_21 : decode prog_126_method_2_code 21 = .ok (.goto 28, 3) := by decide +kernel
theorem d1_24 : decode prog_126_method_2_code 24 = .ok (.iload_n 0, 1) := by decide +kernel
theorem d1_25 : decode prog_126_method_2_code 25 = .ok (.sipush 2048, 3) := by decide +kernel
theorem d1_28 : decode prog_126_method_2_code 28 = .ok (.if_icmp .ge 8, 3) := by decide +kernel
theorem d1_31 : decode prog_126_method_2_code 31 = .ok (.iconst 2, 1) := by decide +kernel
theorem d1_32 : decode prog_126_method_2_code 32 = .ok (.istore_n 1, 1) := by decide +kernel
theorem d1_33 : decode prog_126_method_2_code 33 = .ok (.goto 16, 3) := by decide +kernel
theorem d1_36 : decode prog_126_method_2_code 36 = .ok (.iload_n 0, 1) := by decide +kernel
theorem d1_37 : decode prog_126_method_2_code 37 = .ok (.ldc 21, 2) := by decide +kernel
theorem d1_39 : decode prog_126_method_2_code 39 = .ok (.if_icmp .ge 8, 3) := by decide +kernel
theorem d1_42 : decode prog_126_method_2_code 42 = .ok (.iconst 3, 1) := by decide +kernel
theorem d1_43 : decode prog_126_method_2_code 43 = .ok (.istore_n 1, 1) := by decide +kernel
theorem d1_44 : decode prog_126_method_2_code 44 = .ok (.goto 5, 3) := by decide +kernel
theorem d1_47 : decode prog_126_method_2_code 47 = .ok (.iconst 4, 1) := by decide +kernel
theorem d1_48 : decode prog_126_method_2_code 48 = .ok (.istore_n 1, 1) := by decide +kernel
theorem d1_49 : decode prog_126_method_2_code 49 = .ok (.iload_n 1, 1) := by decide +kernel
theorem d1_50 : decode prog_126_method_2_code 50 = .ok (.ireturn, 1) := by decide +kernel
theorem pn_0 : plainName "com/example/dutiful_logic/dutifullogic/Utf8Reader" = true := by first | (simp [plainName, overriddenIn]; done) | decide +kernel
theorem ef_1 (m : MethodId) (p1 : Int32) : entryFrame m #[(.int p1)] 2 = mkF m 0 #[.val (.int p1), .unset] [] := by first | (simp [entryFrame, mkF, argsToLocals, Value.category]; done) | rfl
def f1 (p1 : Int32) : Int32 :=
  (if p1 < (128 : Int32) then (1 : Int32)
  else (if (56447 : Int32) < p1 then (if (56575 : Int32) < p1 then (if p1 < (2048 : Int32) then (2 : Int32)
        else (if p1 < (65536 : Int32) then (3 : Int32)
          else (4 : Int32)))
      else (1 : Int32))
    else (if p1 < (2048 : Int32) then (2 : Int32)
      else (if p1 < (65536 : Int32) then (3 : Int32)
        else (4 : Int32)))))
def Q1 (p1 : Int32) (h0 : Heap) (n0 : Nat) (v : Option Value) (h : Heap) (L : List Loc) : Prop := v = some (.int (f1 p1)) ∧ Fr n0 L ∧ h = h0
set_option maxRecDepth 65536 in
set_option maxHeartbeats 40000000 in
theorem rm1 (l : Launch) (Z : State) (a0 : Array Value) (hw : ∀ d ∈ tables_1, d.before a0 Z = true) (ws : List Jvm.Cond) (p1 : Int32) (h0 : Heap) (n0 : Nat) :
    MetFree l (⟨"com/example/dutiful_logic/dutifullogic/Utf8Reader", "length", "(I)I"⟩ : MethodName) (head1 (Jvm.Cond.code (⟨"com/example/dutiful_logic/dutifullogic/Utf8Reader", "length", "(I)I"⟩ : MethodName) prog_126_method_2_code 2 (some .int) :: ws) ({ frames := 0, cells := 0, slots := 0, locals := 0 } : Room)) (fun a U => a = #[(.int p1)] ∧ Z.Warmed39 U.vm ∧ U.heap = h0) (fun _ _ _ _ _ => True) (fun _ U o U' => ∃ v L, o = .returned v ∧ Q1 p1 h0 n0 v U'.heap L ∧ FrameEnd U o U' L 0 0) := by
  refine MetFree.of_bodySF (plainFor_of_name pn_0) hisR ?_
  intro p e s m args below meth c s₁ Bd hml0 hP hK
  obtain ⟨rfl, hZ, hh⟩ := hP
  have hx := Bd.exec
  have hby := Bd.bytes
  have hlk : meth.locks = false := BodyLoose.notSynchronized Bd
  have hml : c.maxLocals = 2 := hml0
  have hown : s.vm.findClass "com/example/dutiful_logic/dutifullogic/Utf8Reader" = some m.cls := findClass_of_methodNamed Bd.named
  have X0 : Stand p l e ({ frames := 0, cells := 0, slots := 0, locals := 0 } : Room) s m #[(.int p1)] below meth c s₁ [] 0 0 := Stand.of_body Bd
  have e0 : s₁.heap = h0 := by rw [← hh, Bd.state]; rfl
  have N0 := Fr.nil n0
  show Goes p.tables e below s (Q1 p1 h0 n0) 0 0 (s₁.setTop (entryFrame m #[(.int p1)] 2))
  refine Goes.of (fun t k => castTop (ef_1 m p1) k) ?_
  show Goes _ _ _ _ _ _ _ (s₁.setTop (mkF m 0 #[.val (.int p1), .unset] []))
  refine Goes.of (fun t k => XS.iloadN X0.here hx rfl (hb hby d1_0) rfl k) ?_
  show Goes _ _ _ _ _ _ _ (s₁.setTop (mkF m 1 #[.val (.int p1), .unset] [(.int p1)]))
  refine Goes.of (fun t k => XS.sipush X0.here hx rfl (hb hby d1_1) k) ?_
  show Goes _ _ _ _ _ _ _ (s₁.setTop (mkF m 4 #[.val (.int p1), .unset] [(.int (128 : Int32)), (.int p1)]))
  by_cases hc2 : p1 < (128 : Int32)
  · refine Goes.of (fun t k => XS.icmpYes X0.here hx rfl (pc0 := 4) (pc' := 19) rfl (hb hby d1_4) rfl (tlt hc2).1 (by decide) (by decide) k) ?_
    show Goes _ _ _ _ _ _ _ (s₁.setTop (mkF m 19 #[.val (.int p1), .unset] []))
    refine Goes.of (fun t k => XS.iconst X0.here hx rfl (hb hby d1_19) k) ?_
    show Goes _ _ _ _ _ _ _ (s₁.setTop (mkF m 20 #[.val (.int p1), .unset] [(.int (1 : Int32))]))
    refine Goes.of (fun t k => XS.istoreN X0.here hx rfl (hb hby d1_20) rfl (l' := #[.val (.int p1), .val (.int (1 : Int32))]) rfl k) ?_
    show Goes _ _ _ _ _ _ _ (s₁.setTop (mkF m 21 #[.val (.int p1), .val (.int (1 : Int32))] []))
    refine Goes.of (fun t k => XS.goto X0.here hx rfl (pc0 := 21) (pc' := 49) rfl (hb hby d1_21) (by decide) (by decide) k) ?_
    show Goes _ _ _ _ _ _ _ (s₁.setTop (mkF m 49 #[.val (.int p1), .val (.int (1 : Int32))] []))
    refine Goes.of (fun t k => XS.iloadN X0.here hx rfl (hb hby d1_49) rfl k) ?_
    show Goes _ _ _ _ _ _ _ (s₁.setTop (mkF m 50 #[.val (.int p1), .val (.int (1 : Int32))] [(.int (1 : Int32))]))
    exact Goes.fin X0 hlk (v := some (.int (1 : Int32))) (fun h => by rw [Bd.returns] at h; cases h) (fun fs hr => retI X0 hx Bd.returns (hb hby d1_50) hr) ⟨congrArg (fun z => some (Value.int z)) (by rw [f1, if_pos hc2] : (1 : Int32) = f1 p1), N0, e0⟩ (by decide) (by decide)
  · refine Goes.of (fun t k => XS.icmpNo X0.here hx rfl (hb hby d1_4) rfl (flt hc2).1 k) ?_
    show Goes _ _ _ _ _ _ _ (s₁.setTop (mkF m 7 #[.val (.int p1), .unset] []))
    refine Goes.of (fun t k => XS.iloadN X0.here hx rfl (hb hby d1_7) rfl k) ?_
    show Goes _ _ _ _ _ _ _ (s₁.setTop (mkF m 8 #[.val (.int p1), .unset] [(.int p1)]))
    refine Goes.of (fun t k => X0.ldcInt hx hown (mvT hZ (hw _ (List.mem_of_getElem? (i := 5) rfl))) (g := (mkF m 8 #[.val (.int p1), .unset] [(.int p1)])) rfl (hb hby d1_8) t k) ?_
    show Goes _ _ _ _ _ _ _ (s₁.setTop (mkF m 10 #[.val (.int p1), .unset] [(.int (56447 : Int32)), (.int p1)]))
    by_cases hc3 : (56447 : Int32) < p1
    · refine Goes.of (fun t k => XS.icmpNo X0.here hx rfl (hb hby d1_10) rfl (tlt hc3).2.2.2 k) ?_
      show Goes _ _ _ _ _ _ _ (s₁.setTop (mkF m 13 #[.val (.int p1), .unset] []))
      refine Goes.of (fun t k => XS.iloadN X0.here hx rfl (hb hby d1_13) rfl k) ?_
      show Goes _ _ _ _ _ _ _ (s₁.setTop (mkF m 14 #[.val (.int p1), .unset] [(.int p1)]))
      refine Goes.of (fun t k => X0.ldcInt hx hown (mvT hZ (hw _ (List.mem_of_getElem? (i := 6) rfl))) (g := (mkF m 14 #[.val (.int p1), .unset] [(.int p1)])) rfl (hb hby d1_14) t k) ?_
      show Goes _ _ _ _ _ _ _ (s₁.setTop (mkF m 16 #[.val (.int p1), .unset] [(.int (56575 : Int32)), (.int p1)]))
      by_cases hc4 : (56575 : Int32) < p1
      · refine Goes.of (fun t k => XS.icmpYes X0.here hx rfl (pc0 := 16) (pc' := 24) rfl (hb hby d1_16) rfl (tlt hc4).2.2.1 (by decide) (by decide) k) ?_
        show Goes _ _ _ _ _ _ _ (s₁.setTop (mkF m 24 #[.val (.int p1), .unset] []))
        refine Goes.of (fun t k => XS.iloadN X0.here hx rfl (hb hby d1_24) rfl k) ?_
        show Goes _ _ _ _ _ _ _ (s₁.setTop (mkF m 25 #[.val (.int p1), .unset] [(.int p1)]))
        refine Goes.of (fun t k => XS.sipush X0.here hx rfl (hb hby d1_25) k) ?_
        show Goes _ _ _ _ _ _ _ (s₁.setTop (mkF m 28 #[.val (.int p1), .unset] [(.int (2048 : Int32)), (.int p1)]))
        by_cases hc5 : p1 < (2048 : Int32)
        · refine Goes.of (fun t k => XS.icmpNo X0.here hx rfl (hb hby d1_28) rfl (tlt hc5).2.1 k) ?_
          show Goes _ _ _ _ _ _ _ (s₁.setTop (mkF m 31 #[.val (.int p1), .unset] []))
          refine Goes.of (fun t k => XS.iconst X0.here hx rfl (hb hby d1_31) k) ?_
          show Goes _ _ _ _ _ _ _ (s₁.setTop (mkF m 32 #[.val (.int p1), .unset] [(.int (2 : Int32))]))
          refine Goes.of (fun t k => XS.istoreN X0.here hx rfl (hb hby d1_32) rfl (l' := #[.val (.int p1), .val (.int (2 : Int32))]) rfl k) ?_
          show Goes _ _ _ _ _ _ _ (s₁.setTop (mkF m 33 #[.val (.int p1), .val (.int (2 : Int32))] []))
          refine Goes.of (fun t k => XS.goto X0.here hx rfl (pc0 := 33) (pc' := 49) rfl (hb hby d1_33) (by decide) (by decide) k) ?_
          show Goes _ _ _ _ _ _ _ (s₁.setTop (mkF m 49 #[.val (.int p1), .val (.int (2 : Int32))] []))
          refine Goes.of (fun t k => XS.iloadN X0.here hx rfl (hb hby d1_49) rfl k) ?_
          show Goes _ _ _ _ _ _ _ (s₁.setTop (mkF m 50 #[.val (.int p1), .val (.int (2 : Int32))] [(.int (2 : Int32))]))
          exact Goes.fin X0 hlk (v := some (.int (2 : Int32))) (fun h => by rw [Bd.returns] at h; cases h) (fun fs hr => retI X0 hx Bd.returns (hb hby d1_50) hr) ⟨congrArg (fun z => some (Value.int z)) (by rw [f1, if_neg hc2, if_pos hc3, if_pos hc4, if_pos hc5] : (2 : Int32) = f1 p1), N0, e0⟩ (by decide) (by decide)
        · refine Goes.of (fun t k => XS.icmpYes X0.here hx rfl (pc0 := 28) (pc' := 36) rfl (hb hby d1_28) rfl (flt hc5).2.1 (by decide) (by decide) k) ?_
          show Goes _ _ _ _ _ _ _ (s₁.setTop (mkF m 36 #[.val (.int p1), .unset] []))
          refine Goes.of (fun t k => XS.iloadN X0.here hx rfl (hb hby d1_36) rfl k) ?_
          show Goes _ _ _ _ _ _ _ (s₁.setTop (mkF m 37 #[.val (.int p1), .unset] [(.int p1)]))
          refine Goes.of (fun t k => X0.ldcInt hx hown (mvT hZ (hw _ (List.mem_of_getElem? (i := 12) rfl))) (g := (mkF m 37 #[.val (.int p1), .unset] [(.int p1)])) rfl (hb hby d1_37) t k) ?_
          show Goes _ _ _ _ _ _ _ (s₁.setTop (mkF m 39 #[.val (.int p1), .unset] [(.int (65536 : Int32)), (.int p1)]))
          by_cases hc6 : p1 < (65536 : Int32)
          · refine Goes.of (fun t k => XS.icmpNo X0.here hx rfl (hb hby d1_39) rfl (tlt hc6).2.1 k) ?_
            show Goes _ _ _ _ _ _ _ (s₁.setTop (mkF m 42 #[.val (.int p1), .unset] []))
            refine Goes.of (fun t k => XS.iconst X0.here hx rfl (hb hby d1_42) k) ?_
            show Goes _ _ _ _ _ _ _ (s₁.setTop (mkF m 43 #[.val (.int p1), .unset] [(.int (3 : Int32))]))
            refine Goes.of (fun t k => XS.istoreN X0.here hx rfl (hb hby d1_43) rfl (l' := #[.val (.int p1), .val (.int (3 : Int32))]) rfl k) ?_
            show Goes _ _ _ _ _ _ _ (s₁.setTop (mkF m 44 #[.val (.int p1), .val (.int (3 : Int32))] []))
            refine Goes.of (fun t k => XS.goto X0.here hx rfl (pc0 := 44) (pc' := 49) rfl (hb hby d1_44) (by decide) (by decide) k) ?_
            show Goes _ _ _ _ _ _ _ (s₁.setTop (mkF m 49 #[.val (.int p1), .val (.int (3 : Int32))] []))
            refine Goes.of (fun t k => XS.iloadN X0.here hx rfl (hb hby d1_49) rfl k) ?_
            show Goes _ _ _ _ _ _ _ (s₁.setTop (mkF m 50 #[.val (.int p1), .val (.int (3 : Int32))] [(.int (3 : Int32))]))
            exact Goes.fin X0 hlk (v := some (.int (3 : Int32))) (fun h => by rw [Bd.returns] at h; cases h) (fun fs hr => retI X0 hx Bd.returns (hb hby d1_50) hr) ⟨congrArg (fun z => some (Value.int z)) (by rw [f1, if_neg hc2, if_pos hc3, if_pos hc4, if_neg hc5, if_pos hc6] : (3 : Int32) = f1 p1), N0, e0⟩ (by decide) (by decide)
          · refine Goes.of (fun t k => XS.icmpYes X0.here hx rfl (pc0 := 39) (pc' := 47) rfl (hb hby d1_39) rfl (flt hc6).2.1 (by decide) (by decide) k) ?_
            show Goes _ _ _ _ _ _ _ (s₁.setTop (mkF m 47 #[.val (.int p1), .unset] []))
            refine Goes.of (fun t k => XS.iconst X0.here hx rfl (hb hby d1_47) k) ?_
            show Goes _ _ _ _ _ _ _ (s₁.setTop (mkF m 48 #[.val (.int p1), .unset] [(.int (4 : Int32))]))
            refine Goes.of (fun t k => XS.istoreN X0.here hx rfl (hb hby d1_48) rfl (l' := #[.val (.int p1), .val (.int (4 : Int32))]) rfl k) ?_
            show Goes _ _ _ _ _ _ _ (s₁.setTop (mkF m 49 #[.val (.int p1), .val (.int (4 : Int32))] []))
            refine Goes.of (fun t k => XS.iloadN X0.here hx rfl (hb hby d1_49) rfl k) ?_
            show Goes _ _ _ _ _ _ _ (s₁.setTop (mkF m 50 #[.val (.int p1), .val (.int (4 : Int32))] [(.int (4 : Int32))]))
            exact Goes.fin X0 hlk (v := some (.int (4 : Int32))) (fun h => by rw [Bd.returns] at h; cases h) (fun fs hr => retI X0 hx Bd.returns (hb hby d1_50) hr) ⟨congrArg (fun z => some (Value.int z)) (by rw [f1, if_neg hc2, if_pos hc3, if_pos hc4, if_neg hc5, if_neg hc6] : (4 : Int32) = f1 p1), N0, e0⟩ (by decide) (by decide)
      · refine Goes.of (fun t k => XS.icmpNo X0.here hx rfl (hb hby d1_16) rfl (flt hc4).2.2.1 k) ?_
        show Goes _ _ _ _ _ _ _ (s₁.setTop (mkF m 19 #[.val (.int p1), .unset] []))
        refine Goes.of (fun t k => XS.iconst X0.here hx rfl (hb hby d1_19) k) ?_
        show Goes _ _ _ _ _ _ _ (s₁.setTop (mkF m 20 #[.val (.int p1), .unset] [(.int (1 : Int32))]))
        refine Goes.of (fun t k => XS.istoreN X0.here hx rfl (hb hby d1_20) rfl (l' := #[.val (.int p1), .val (.int (1 : Int32))]) rfl k) ?_
        show Goes _ _ _ _ _ _ _ (s₁.setTop (mkF m 21 #[.val (.int p1), .val (.int (1 : Int32))] []))
        refine Goes.of (fun t k => XS.goto X0.here hx rfl (pc0 := 21) (pc' := 49) rfl (hb hby d1_21) (by decide) (by decide) k) ?_
        show Goes _ _ _ _ _ _ _ (s₁.setTop (mkF m 49 #[.val (.int p1), .val (.int (1 : Int32))] []))
        refine Goes.of (fun t k => XS.iloadN X0.here hx rfl (hb hby d1_49) rfl k) ?_
        show Goes _ _ _ _ _ _ _ (s₁.setTop (mkF m 50 #[.val (.int p1), .val (.int (1 : Int32))] [(.int (1 : Int32))]))
        exact Goes.fin X0 hlk (v := some (.int (1 : Int32))) (fun h => by rw [Bd.returns] at h; cases h) (fun fs hr => retI X0 hx Bd.returns (hb hby d1_50) hr) ⟨congrArg (fun z => some (Value.int z)) (by rw [f1, if_neg hc2, if_pos hc3, if_neg hc4] : (1 : Int32) = f1 p1), N0, e0⟩ (by decide) (by decide)
    · refine Goes.of (fun t k => XS.icmpYes X0.here hx rfl (pc0 := 10) (pc' := 24) rfl (hb hby d1_10) rfl (flt hc3).2.2.2 (by decide) (by decide) k) ?_
      show Goes _ _ _ _ _ _ _ (s₁.setTop (mkF m 24 #[.val (.int p1), .unset] []))
      refine Goes.of (fun t k => XS.iloadN X0.here hx rfl (hb hby d1_24) rfl k) ?_
      show Goes _ _ _ _ _ _ _ (s₁.setTop (mkF m 25 #[.val (.int p1), .unset] [(.int p1)]))
      refine Goes.of (fun t k => XS.sipush X0.here hx rfl (hb hby d1_25) k) ?_
      show Goes _ _ _ _ _ _ _ (s₁.setTop (mkF m 28 #[.val (.int p1), .unset] [(.int (2048 : Int32)), (.int p1)]))
      by_cases hc7 : p1 < (2048 : Int32)
      · refine Goes.of (fun t k => XS.icmpNo X0.here hx rfl (hb hby d1_28) rfl (tlt hc7).2.1 k) ?_
        show Goes _ _ _ _ _ _ _ (s₁.setTop (mkF m 31 #[.val (.int p1), .unset] []))
        refine Goes.of (fun t k => XS.iconst X0.here hx rfl (hb hby d1_31) k) ?_
        show Goes _ _ _ _ _ _ _ (s₁.setTop (mkF m 32 #[.val (.int p1), .unset] [(.int (2 : Int32))]))
        refine Goes.of (fun t k => XS.istoreN X0.here hx rfl (hb hby d1_32) rfl (l' := #[.val (.int p1), .val (.int (2 : Int32))]) rfl k) ?_
        show Goes _ _ _ _ _ _ _ (s₁.setTop (mkF m 33 #[.val (.int p1), .val (.int (2 : Int32))] []))
        refine Goes.of (fun t k => XS.goto X0.here hx rfl (pc0 := 33) (pc' := 49) rfl (hb hby d1_33) (by decide) (by decide) k) ?_
        show Goes _ _ _ _ _ _ _ (s₁.setTop (mkF m 49 #[.val (.int p1), .val (.int (2 : Int32))] []))
        refine Goes.of (fun t k => XS.iloadN X0.here hx rfl (hb hby d1_49) rfl k) ?_
        show Goes _ _ _ _ _ _ _ (s₁.setTop (mkF m 50 #[.val (.int p1), .val (.int (2 : Int32))] [(.int (2 : Int32))]))
        exact Goes.fin X0 hlk (v := some (.int (2 : Int32))) (fun h => by rw [Bd.returns] at h; cases h) (fun fs hr => retI X0 hx Bd.returns (hb hby d1_50) hr) ⟨congrArg (fun z => some (Value.int z)) (by rw [f1, if_neg hc2, if_neg hc3, if_pos hc7] : (2 : Int32) = f1 p1), N0, e0⟩ (by decide) (by decide)
      · refine Goes.of (fun t k => XS.icmpYes X0.here hx rfl (pc0 := 28) (pc' := 36) rfl (hb hby d1_28) rfl (flt hc7).2.1 (by decide) (by decide) k) ?_
        show Goes _ _ _ _ _ _ _ (s₁.setTop (mkF m 36 #[.val (.int p1), .unset] []))
        refine Goes.of (fun t k => XS.iloadN X0.here hx rfl (hb hby d1_36) rfl k) ?_
        show Goes _ _ _ _ _ _ _ (s₁.setTop (mkF m 37 #[.val (.int p1), .unset] [(.int p1)]))
        refine Goes.of (fun t k => X0.ldcInt hx hown (mvT hZ (hw _ (List.mem_of_getElem? (i := 12) rfl))) (g := (mkF m 37 #[.val (.int p1), .unset] [(.int p1)])) rfl (hb hby d1_37) t k) ?_
        show Goes _ _ _ _ _ _ _ (s₁.setTop (mkF m 39 #[.val (.int p1), .unset] [(.int (65536 : Int32)), (.int p1)]))
        by_cases hc8 : p1 < (65536 : Int32)
        · refine Goes.of (fun t k => XS.icmpNo X0.here hx rfl (hb hby d1_39) rfl (tlt hc8).2.1 k) ?_
          show Goes _ _ _ _ _ _ _ (s₁.setTop (mkF m 42 #[.val (.int p1), .unset] []))
          refine Goes.of (fun t k => XS.iconst X0.here hx rfl (hb hby d1_42) k) ?_
          show Goes _ _ _ _ _ _ _ (s₁.setTop (mkF m 43 #[.val (.int p1), .unset] [(.int (3 : Int32))]))
          refine Goes.of (fun t k => XS.istoreN X0.here hx rfl (hb hby d1_43) rfl (l' := #[.val (.int p1), .val (.int (3 : Int32))]) rfl k) ?_
          show Goes _ _ _ _ _ _ _ (s₁.setTop (mkF m 44 #[.val (.int p1), .val (.int (3 : Int32))] []))
          refine Goes.of (fun t k => XS.goto X0.here hx rfl (pc0 := 44) (pc' := 49) rfl (hb hby d1_44) (by decide) (by decide) k) ?_
          show Goes _ _ _ _ _ _ _ (s₁.setTop (mkF m 49 #[.val (.int p1), .val (.int (3 : Int32))] []))
          refine Goes.of (fun t k => XS.iloadN X0.here hx rfl (hb hby d1_49) rfl k) ?_
          show Goes _ _ _ _ _ _ _ (s₁.setTop (mkF m 50 #[.val (.int p1), .val (.int (3 : Int32))] [(.int (3 : Int32))]))
          exact Goes.fin X0 hlk (v := some (.int (3 : Int32))) (fun h => by rw [Bd.returns] at h; cases h) (fun fs hr => retI X0 hx Bd.returns (hb hby d1_50) hr) ⟨congrArg (fun z => some (Value.int z)) (by rw [f1, if_neg hc2, if_neg hc3, if_neg hc7, if_pos hc8] : (3 : Int32) = f1 p1), N0, e0⟩ (by decide) (by decide)
        · refine Goes.of (fun t k => XS.icmpYes X0.here hx rfl (pc0 := 39) (pc' := 47) rfl (hb hby d1_39) rfl (flt hc8).2.1 (by decide) (by decide) k) ?_
          show Goes _ _ _ _ _ _ _ (s₁.setTop (mkF m 47 #[.val (.int p1), .unset] []))
          refine Goes.of (fun t k => XS.iconst X0.here hx rfl (hb hby d1_47) k) ?_
          show Goes _ _ _ _ _ _ _ (s₁.setTop (mkF m 48 #[.val (.int p1), .unset] [(.int (4 : Int32))]))
          refine Goes.of (fun t k => XS.istoreN X0.here hx rfl (hb hby d1_48) rfl (l' := #[.val (.int p1), .val (.int (4 : Int32))]) rfl k) ?_
          show Goes _ _ _ _ _ _ _ (s₁.setTop (mkF m 49 #[.val (.int p1), .val (.int (4 : Int32))] []))
          refine Goes.of (fun t k => XS.iloadN X0.here hx rfl (hb hby d1_49) rfl k) ?_
          show Goes _ _ _ _ _ _ _ (s₁.setTop (mkF m 50 #[.val (.int p1), .val (.int (4 : Int32))] [(.int (4 : Int32))]))
          exact Goes.fin X0 hlk (v := some (.int (4 : Int32))) (fun h => by rw [Bd.returns] at h; cases h) (fun fs hr => retI X0 hx Bd.returns (hb hby d1_50) hr) ⟨congrArg (fun z => some (Value.int z)) (by rw [f1, if_neg hc2, if_neg hc3, if_neg hc7, if_neg hc8] : (4 : Int32) = f1 p1), N0, e0⟩ (by decide) (by decide)
theorem d2_0 : decode method_2_code 0 = .ok (.iload_n 0, 1) := by decide +kernel
theorem d2_1 : decode method_2_code 1 = .ok (.iconst 1, 1) := by decide +kernel
theorem d2_2 : decode method_2_code 2 = .ok (.if_icmp .ne 6, 3) := by decide +kernel
theorem d2_5 : decode method_2_code 5 = .ok (.bipush 7, 2) := by decide +kernel
theorem d2_7 : decode method_2_code 7 = .ok (.ireturn, 1) := by decide +kernel
theorem d2_8 : decode method_2_code 8 = .ok (.iload_n 0, 1) := by decide +kernel
theorem d2_9 : decode method_2_code 9 = .ok (.iconst 2, 1) := by decide +kernel
theorem d2_10 : decode method_2_code 10 = .ok (.if_icmp .ne 6, 3) := by decide +kernel
theorem d2_13 : decode method_2_code 13 = .ok (.bipush 11, 2) := by decide +kernel
theorem d2_15 : decode method_2_code 15 = .ok (.ireturn, 1) := by decide +kernel
theorem d2_16 : decode method_2_code 16 = .ok (.iload_n 0, 1) := by decide +kernel
theorem d2_17 : decode method_2_code 17 = .ok (.iconst 3, 1) := by decide +kernel
theorem d2_18 : decode method_2_code 18 = .ok (.if_icmp .ne 6, 3) := by decide +kernel
theorem d2_21 : decode method_2_code 21 = .ok (.bipush 16, 2) := by decide +kernel
theorem d2_23 : decode method_2_code 23 = .ok (.ireturn, 1) := by decide +kernel
theorem d2_24 : decode method_2_code 24 = .ok (.bipush 21, 2) := by decide +kernel
theorem d2_26 : decode method_2_code 26 = .ok (.ireturn, 1) := by decide +kernel
theorem pn_1 : plainName "com/example/dutiful_logic/dutifullogic/Utf8ReaderLengthPinLaw" = true := by first | (simp [plainName, overriddenIn]; done) | decide +kernel
theorem ef_2 (m : MethodId) (p9 : Int32) : entryFrame m #[(.int p9)] 1 = mkF m 0 #[.val (.int p9)] [] := by first | (simp [entryFrame, mkF, argsToLocals, Value.category]; done) | rfl
def f2 (p9 : Int32) : Int32 :=
  (if p9 = (1 : Int32) then (7 : Int32)
  else (if p9 = (2 : Int32) then (11 : Int32)
    else (if p9 = (3 : Int32) then (16 : Int32)
      else (21 : Int32))))
def Q2 (p9 : Int32) (h0 : Heap) (n0 : Nat) (v : Option Value) (h : Heap) (L : List Loc) : Prop := v = some (.int (f2 p9)) ∧ Fr n0 L ∧ h = h0
set_option maxRecDepth 65536 in
set_option maxHeartbeats 40000000 in
theorem rm2 (l : Launch) (Z : State) (a0 : Array Value) (hw : ∀ d ∈ tables_1, d.before a0 Z = true) (ws : List Jvm.Cond) (p9 : Int32) (h0 : Heap) (n0 : Nat) :
    MetFree l (⟨"com/example/dutiful_logic/dutifullogic/Utf8ReaderLengthPinLaw", "payload", "(I)I"⟩ : MethodName) (head1 (Jvm.Cond.code (⟨"com/example/dutiful_logic/dutifullogic/Utf8ReaderLengthPinLaw", "payload", "(I)I"⟩ : MethodName) method_2_code 1 (some .int) :: ws) ({ frames := 0, cells := 0, slots := 0, locals := 0 } : Room)) (fun a U => a = #[(.int p9)] ∧ Z.Warmed39 U.vm ∧ U.heap = h0) (fun _ _ _ _ _ => True) (fun _ U o U' => ∃ v L, o = .returned v ∧ Q2 p9 h0 n0 v U'.heap L ∧ FrameEnd U o U' L 0 0) := by
  refine MetFree.of_bodySF (plainFor_of_name pn_1) hisR ?_
  intro p e s m args below meth c s₁ Bd hml0 hP hK
  obtain ⟨rfl, hZ, hh⟩ := hP
  have hx := Bd.exec
  have hby := Bd.bytes
  have hlk : meth.locks = false := BodyLoose.notSynchronized Bd
  have hml : c.maxLocals = 1 := hml0
  have hown : s.vm.findClass "com/example/dutiful_logic/dutifullogic/Utf8ReaderLengthPinLaw" = some m.cls := findClass_of_methodNamed Bd.named
  have X0 : Stand p l e ({ frames := 0, cells := 0, slots := 0, locals := 0 } : Room) s m #[(.int p9)] below meth c s₁ [] 0 0 := Stand.of_body Bd
  have e0 : s₁.heap = h0 := by rw [← hh, Bd.state]; rfl
  have N0 := Fr.nil n0
  show Goes p.tables e below s (Q2 p9 h0 n0) 0 0 (s₁.setTop (entryFrame m #[(.int p9)] 1))
  refine Goes.of (fun t k => castTop (ef_2 m p9) k) ?_
  show Goes _ _ _ _ _ _ _ (s₁.setTop (mkF m 0 #[.val (.int p9)] []))
  refine Goes.of (fun t k => XS.iloadN X0.here hx rfl (hb hby d2_0) rfl k) ?_
  show Goes _ _ _ _ _ _ _ (s₁.setTop (mkF m 1 #[.val (.int p9)] [(.int p9)]))
  refine Goes.of (fun t k => XS.iconst X0.here hx rfl (hb hby d2_1) k) ?_
  show Goes _ _ _ _ _ _ _ (s₁.setTop (mkF m 2 #[.val (.int p9)] [(.int (1 : Int32)), (.int p9)]))
  by_cases hc10 : p9 = (1 : Int32)
  · refine Goes.of (fun t k => XS.icmpNo X0.here hx rfl (hb hby d2_2) rfl (teq hc10).2 k) ?_
    show Goes _ _ _ _ _ _ _ (s₁.setTop (mkF m 5 #[.val (.int p9)] []))
    refine Goes.of (fun t k => XS.bipush X0.here hx rfl (hb hby d2_5) k) ?_
    show Goes _ _ _ _ _ _ _ (s₁.setTop (mkF m 7 #[.val (.int p9)] [(.int (7 : Int32))]))
    exact Goes.fin X0 hlk (v := some (.int (7 : Int32))) (fun h => by rw [Bd.returns] at h; cases h) (fun fs hr => retI X0 hx Bd.returns (hb hby d2_7) hr) ⟨congrArg (fun z => some (Value.int z)) (by rw [f2, if_pos hc10] : (7 : Int32) = f2 p9), N0, e0⟩ (by decide) (by decide)
  · refine Goes.of (fun t k => XS.icmpYes X0.here hx rfl (pc0 := 2) (pc' := 8) rfl (hb hby d2_2) rfl (feq hc10).2 (by decide) (by decide) k) ?_
    show Goes _ _ _ _ _ _ _ (s₁.setTop (mkF m 8 #[.val (.int p9)] []))
    refine Goes.of (fun t k => XS.iloadN X0.here hx rfl (hb hby d2_8) rfl k) ?_
    show Goes _ _ _ _ _ _ _ (s₁.setTop (mkF m 9 #[.val (.int p9)] [(.int p9)]))
    refine Goes.of (fun t k => XS.iconst X0.here hx rfl (hb hby d2_9) k) ?_
    show Goes _ _ _ _ _ _ _ (s₁.setTop (mkF m 10 #[.val (.int p9)] [(.int (2 : Int32)), (.int p9)]))
    by_cases hc11 : p9 = (2 : Int32)
    · refine Goes.of (fun t k => XS.icmpNo X0.here hx rfl (hb hby d2_10) rfl (teq hc11).2 k) ?_
      show Goes _ _ _ _ _ _ _ (s₁.setTop (mkF m 13 #[.val (.int p9)] []))
      refine Goes.of (fun t k => XS.bipush X0.here hx rfl (hb hby d2_13) k) ?_
      show Goes _ _ _ _ _ _ _ (s₁.setTop (mkF m 15 #[.val (.int p9)] [(.int (11 : Int32))]))
      exact Goes.fin X0 hlk (v := some (.int (11 : Int32))) (fun h => by rw [Bd.returns] at h; cases h) (fun fs hr => retI X0 hx Bd.returns (hb hby d2_15) hr) ⟨congrArg (fun z => some (Value.int z)) (by rw [f2, if_neg hc10, if_pos hc11] : (11 : Int32) = f2 p9), N0, e0⟩ (by decide) (by decide)
    · refine Goes.of (fun t k => XS.icmpYes X0.here hx rfl (pc0 := 10) (pc' := 16) rfl (hb hby d2_10) rfl (feq hc11).2 (by decide) (by decide) k) ?_
      show Goes _ _ _ _ _ _ _ (s₁.setTop (mkF m 16 #[.val (.int p9)] []))
      refine Goes.of (fun t k => XS.iloadN X0.here hx rfl (hb hby d2_16) rfl k) ?_
      show Goes _ _ _ _ _ _ _ (s₁.setTop (mkF m 17 #[.val (.int p9)] [(.int p9)]))
      refine Goes.of (fun t k => XS.iconst X0.here hx rfl (hb hby d2_17) k) ?_
      show Goes _ _ _ _ _ _ _ (s₁.setTop (mkF m 18 #[.val (.int p9)] [(.int (3 : Int32)), (.int p9)]))
      by_cases hc12 : p9 = (3 : Int32)
      · refine Goes.of (fun t k => XS.icmpNo X0.here hx rfl (hb hby d2_18) rfl (teq hc12).2 k) ?_
        show Goes _ _ _ _ _ _ _ (s₁.setTop (mkF m 21 #[.val (.int p9)] []))
        refine Goes.of (fun t k => XS.bipush X0.here hx rfl (hb hby d2_21) k) ?_
        show Goes _ _ _ _ _ _ _ (s₁.setTop (mkF m 23 #[.val (.int p9)] [(.int (16 : Int32))]))
        exact Goes.fin X0 hlk (v := some (.int (16 : Int32))) (fun h => by rw [Bd.returns] at h; cases h) (fun fs hr => retI X0 hx Bd.returns (hb hby d2_23) hr) ⟨congrArg (fun z => some (Value.int z)) (by rw [f2, if_neg hc10, if_neg hc11, if_pos hc12] : (16 : Int32) = f2 p9), N0, e0⟩ (by decide) (by decide)
      · refine Goes.of (fun t k => XS.icmpYes X0.here hx rfl (pc0 := 18) (pc' := 24) rfl (hb hby d2_18) rfl (feq hc12).2 (by decide) (by decide) k) ?_
        show Goes _ _ _ _ _ _ _ (s₁.setTop (mkF m 24 #[.val (.int p9)] []))
        refine Goes.of (fun t k => XS.bipush X0.here hx rfl (hb hby d2_24) k) ?_
        show Goes _ _ _ _ _ _ _ (s₁.setTop (mkF m 26 #[.val (.int p9)] [(.int (21 : Int32))]))
        exact Goes.fin X0 hlk (v := some (.int (21 : Int32))) (fun h => by rw [Bd.returns] at h; cases h) (fun fs hr => retI X0 hx Bd.returns (hb hby d2_26) hr) ⟨congrArg (fun z => some (Value.int z)) (by rw [f2, if_neg hc10, if_neg hc11, if_neg hc12] : (21 : Int32) = f2 p9), N0, e0⟩ (by decide) (by decide)
theorem pd_0 : parseMethodDescriptor "(I)I" = some ⟨[.int], some .int⟩ := by decide +kernel
theorem ef_0 (m : MethodId) (u0 : Int32) (u1 : Int32) : entryFrame m #[(.int u0), (.int u1)] maxLocals = mkF m 0 #[.val (.int u0), .val (.int u1), .unset, .unset] [] := by first | (simp [entryFrame, mkF, argsToLocals, Value.category, maxLocals]; done) | rfl
def f0 (u0 : Int32) (u1 : Int32) : Int32 :=
  (if (u1 &&& (1 : Int32)) = (0 : Int32) then (if ((u0 &&& (2147483647 : Int32)) % (1114112 : Int32)) < (55296 : Int32) then (if (f1 ((u0 &&& (2147483647 : Int32)) % (1114112 : Int32))) < (1 : Int32) then (0 : Int32)
      else (if (4 : Int32) < (f1 ((u0 &&& (2147483647 : Int32)) % (1114112 : Int32))) then (0 : Int32)
        else (if ((u0 &&& (2147483647 : Int32)) % (1114112 : Int32)) < ((1 : Int32) <<< ((f2 (f1 ((u0 &&& (2147483647 : Int32)) % (1114112 : Int32)))) &&& 31)) then (if (1 : Int32) < (f1 ((u0 &&& (2147483647 : Int32)) % (1114112 : Int32))) then (if ((u0 &&& (2147483647 : Int32)) % (1114112 : Int32)) < ((1 : Int32) <<< ((f2 ((f1 ((u0 &&& (2147483647 : Int32)) % (1114112 : Int32))) - (1 : Int32))) &&& 31)) then (0 : Int32)
              else (1 : Int32))
            else (1 : Int32))
          else (0 : Int32))))
    else (if (57343 : Int32) < ((u0 &&& (2147483647 : Int32)) % (1114112 : Int32)) then (if (f1 ((u0 &&& (2147483647 : Int32)) % (1114112 : Int32))) < (1 : Int32) then (0 : Int32)
        else (if (4 : Int32) < (f1 ((u0 &&& (2147483647 : Int32)) % (1114112 : Int32))) then (0 : Int32)
          else (if ((u0 &&& (2147483647 : Int32)) % (1114112 : Int32)) < ((1 : Int32) <<< ((f2 (f1 ((u0 &&& (2147483647 : Int32)) % (1114112 : Int32)))) &&& 31)) then (if (1 : Int32) < (f1 ((u0 &&& (2147483647 : Int32)) % (1114112 : Int32))) then (if ((u0 &&& (2147483647 : Int32)) % (1114112 : Int32)) < ((1 : Int32) <<< ((f2 ((f1 ((u0 &&& (2147483647 : Int32)) % (1114112 : Int32))) - (1 : Int32))) &&& 31)) then (0 : Int32)
                else (1 : Int32))
              else (1 : Int32))
            else (0 : Int32))))
      else (if ((u0 &&& (2147483647 : Int32)) % (1114112 : Int32)) < (56448 : Int32) then (1 : Int32)
        else (if (56575 : Int32) < ((u0 &&& (2147483647 : Int32)) % (1114112 : Int32)) then (1 : Int32)
          else (if (f1 ((u0 &&& (2147483647 : Int32)) % (1114112 : Int32))) = (1 : Int32) then (1 : Int32)
            else (0 : Int32))))))
  else (if ((56448 : Int32) + (u0 &&& (127 : Int32))) < (55296 : Int32) then (if (f1 ((56448 : Int32) + (u0 &&& (127 : Int32)))) < (1 : Int32) then (0 : Int32)
      else (if (4 : Int32) < (f1 ((56448 : Int32) + (u0 &&& (127 : Int32)))) then (0 : Int32)
        else (if ((56448 : Int32) + (u0 &&& (127 : Int32))) < ((1 : Int32) <<< ((f2 (f1 ((56448 : Int32) + (u0 &&& (127 : Int32))))) &&& 31)) then (if (1 : Int32) < (f1 ((56448 : Int32) + (u0 &&& (127 : Int32)))) then (if ((56448 : Int32) + (u0 &&& (127 : Int32))) < ((1 : Int32) <<< ((f2 ((f1 ((56448 : Int32) + (u0 &&& (127 : Int32)))) - (1 : Int32))) &&& 31)) then (0 : Int32)
              else (1 : Int32))
            else (1 : Int32))
          else (0 : Int32))))
    else (if (57343 : Int32) < ((56448 : Int32) + (u0 &&& (127 : Int32))) then (if (f1 ((56448 : Int32) + (u0 &&& (127 : Int32)))) < (1 : Int32) then (0 : Int32)
        else (if (4 : Int32) < (f1 ((56448 : Int32) + (u0 &&& (127 : Int32)))) then (0 : Int32)
          else (if ((56448 : Int32) + (u0 &&& (127 : Int32))) < ((1 : Int32) <<< ((f2 (f1 ((56448 : Int32) + (u0 &&& (127 : Int32))))) &&& 31)) then (if (1 : Int32) < (f1 ((56448 : Int32) + (u0 &&& (127 : Int32)))) then (if ((56448 : Int32) + (u0 &&& (127 : Int32))) < ((1 : Int32) <<< ((f2 ((f1 ((56448 : Int32) + (u0 &&& (127 : Int32)))) - (1 : Int32))) &&& 31)) then (0 : Int32)
                else (1 : Int32))
              else (1 : Int32))
            else (0 : Int32))))
      else (if ((56448 : Int32) + (u0 &&& (127 : Int32))) < (56448 : Int32) then (1 : Int32)
        else (if (56575 : Int32) < ((56448 : Int32) + (u0 &&& (127 : Int32))) then (1 : Int32)
          else (if (f1 ((56448 : Int32) + (u0 &&& (127 : Int32)))) = (1 : Int32) then (1 : Int32)
            else (0 : Int32)))))))
def Q0 (u0 : Int32) (u1 : Int32) (h0 : Heap) (n0 : Nat) (v : Option Value) (h : Heap) (L : List Loc) : Prop := v = some (.int (f0 u0 u1)) ∧ Fr n0 L ∧ h = h0
set_option maxRecDepth 65536 in
set_option maxHeartbeats 40000000 in
theorem rm0 (l : Launch) (Z : State) (a0 : Array Value) (hw : ∀ d ∈ tables_1, d.before a0 Z = true) (ws : List Jvm.Cond) (u0 : Int32) (u1 : Int32) (h0 : Heap) (n0 : Nat) :
    MetFree l x (head1 (Jvm.Cond.code x code maxLocals ret :: ws) room_1) (fun a U => a = #[(.int u0), (.int u1)] ∧ Z.Warmed39 U.vm ∧ U.heap = h0) (fun _ _ _ _ _ => True) (fun _ U o U' => ∃ v L, o = .returned v ∧ Q0 u0 u1 h0 n0 v U'.heap L ∧ FrameEnd U o U' L room_1.cells room_1.slots) := by
  refine MetFree.of_bodySF (plainFor_of_name pn_1) hisR ?_
  intro p e s m args below meth c s₁ Bd hml0 hP hK
  obtain ⟨rfl, hZ, hh⟩ := hP
  have hx := Bd.exec
  have hby := Bd.bytes
  have hlk : meth.locks = false := BodyLoose.notSynchronized Bd
  have hml : c.maxLocals = 4 := hml0
  have hown : s.vm.findClass "com/example/dutiful_logic/dutifullogic/Utf8ReaderLengthPinLaw" = some m.cls := findClass_of_methodNamed Bd.named
  have X0 : Stand p l e room_1 s m #[(.int u0), (.int u1)] below meth c s₁ [] 0 0 := Stand.of_body Bd
  have e0 : s₁.heap = h0 := by rw [← hh, Bd.state]; rfl
  have N0 := Fr.nil n0
  show Goes p.tables e below s (Q0 u0 u1 h0 n0) room_1.cells room_1.slots (s₁.setTop (entryFrame m #[(.int u0), (.int u1)] maxLocals))
  refine Goes.of (fun t k => castTop (ef_0 m u0 u1) k) ?_
  show Goes _ _ _ _ _ _ _ (s₁.setTop (mkF m 0 #[.val (.int u0), .val (.int u1), .unset, .unset] []))
  refine Goes.of (fun t k => XS.iloadN X0.here hx rfl (hb hby at_0) rfl k) ?_
  show Goes _ _ _ _ _ _ _ (s₁.setTop (mkF m 1 #[.val (.int u0), .val (.int u1), .unset, .unset] [(.int u1)]))
  refine Goes.of (fun t k => XS.iconst X0.here hx rfl (hb hby at_1) k) ?_
  show Goes _ _ _ _ _ _ _ (s₁.setTop (mkF m 2 #[.val (.int u0), .val (.int u1), .unset, .unset] [(.int (1 : Int32)), (.int u1)]))
  refine Goes.of (fun t k => XS.iand X0.here hx rfl (hb hby at_2) rfl k) ?_
  show Goes _ _ _ _ _ _ _ (s₁.setTop (mkF m 3 #[.val (.int u0), .val (.int u1), .unset, .unset] [(.int (u1 &&& (1 : Int32)))]))
  by_cases hc13 : (u1 &&& (1 : Int32)) = (0 : Int32)
  · refine Goes.of (fun t k => XS.ifYes X0.here hx rfl (pc0 := 3) (pc' := 17) rfl (hb hby at_3) rfl ((if0 _ _).trans (teq hc13).1) (by decide) (by decide) k) ?_
    show Goes _ _ _ _ _ _ _ (s₁.setTop (mkF m 17 #[.val (.int u0), .val (.int u1), .unset, .unset] []))
    refine Goes.of (fun t k => XS.iloadN X0.here hx rfl (hb hby at_17) rfl k) ?_
    show Goes _ _ _ _ _ _ _ (s₁.setTop (mkF m 18 #[.val (.int u0), .val (.int u1), .unset, .unset] [(.int u0)]))
    refine Goes.of (fun t k => X0.ldcInt hx hown (mvT hZ (hw _ (List.mem_of_getElem? (i := 10) rfl))) (g := (mkF m 18 #[.val (.int u0), .val (.int u1), .unset, .unset] [(.int u0)])) rfl (hb hby at_18) t k) ?_
    show Goes _ _ _ _ _ _ _ (s₁.setTop (mkF m 20 #[.val (.int u0), .val (.int u1), .unset, .unset] [(.int (2147483647 : Int32)), (.int u0)]))
    refine Goes.of (fun t k => XS.iand X0.here hx rfl (hb hby at_20) rfl k) ?_
    show Goes _ _ _ _ _ _ _ (s₁.setTop (mkF m 21 #[.val (.int u0), .val (.int u1), .unset, .unset] [(.int (u0 &&& (2147483647 : Int32)))]))
    refine Goes.of (fun t k => X0.ldcInt hx hown (mvT hZ (hw _ (List.mem_of_getElem? (i := 11) rfl))) (g := (mkF m 21 #[.val (.int u0), .val (.int u1), .unset, .unset] [(.int (u0 &&& (2147483647 : Int32)))])) rfl (hb hby at_21) t k) ?_
    show Goes _ _ _ _ _ _ _ (s₁.setTop (mkF m 23 #[.val (.int u0), .val (.int u1), .unset, .unset] [(.int (1114112 : Int32)), (.int (u0 &&& (2147483647 : Int32)))]))
    refine Goes.of (fun t k => iremM X0 hx (g := (mkF m 23 #[.val (.int u0), .val (.int u1), .unset, .unset] [(.int (1114112 : Int32)), (.int (u0 &&& (2147483647 : Int32)))])) rfl (hb hby at_23) rfl (by decide) k) ?_
    show Goes _ _ _ _ _ _ _ (s₁.setTop (mkF m 24 #[.val (.int u0), .val (.int u1), .unset, .unset] [(.int ((u0 &&& (2147483647 : Int32)) % (1114112 : Int32)))]))
    refine Goes.of (fun t k => XS.istoreN X0.here hx rfl (hb hby at_24) rfl (l' := #[.val (.int u0), .val (.int u1), .val (.int ((u0 &&& (2147483647 : Int32)) % (1114112 : Int32))), .unset]) rfl k) ?_
    show Goes _ _ _ _ _ _ _ (s₁.setTop (mkF m 25 #[.val (.int u0), .val (.int u1), .val (.int ((u0 &&& (2147483647 : Int32)) % (1114112 : Int32))), .unset] []))
    refine Goes.of (fun t k => XS.iloadN X0.here hx rfl (hb hby at_25) rfl k) ?_
    show Goes _ _ _ _ _ _ _ (s₁.setTop (mkF m 26 #[.val (.int u0), .val (.int u1), .val (.int ((u0 &&& (2147483647 : Int32)) % (1114112 : Int32))), .unset] [(.int ((u0 &&& (2147483647 : Int32)) % (1114112 : Int32)))]))
    obtain ⟨_, _, ⟨T14, L14, k14, n14⟩, -, X14, ⟨Lc14, hQ14, l14, y14, z14⟩, st14⟩ := Jvm.LawKit.callS X0 hx (y := (⟨"com/example/dutiful_logic/dutifullogic/Utf8Reader", "length", "(I)I"⟩ : MethodName)) hown (mvT hZ (hw _ (List.mem_of_getElem? (i := 1) rfl))) (mvT hZ (hw _ (List.mem_of_getElem? (i := 2) rfl))) (mvT hZ (hw _ (List.mem_of_getElem? (i := 3) rfl))) (mvT hZ (hw _ (List.mem_of_getElem? (i := 4) rfl))) (by decide) (backOf (W := 0) (rm1 l Z a0 hw [] ((u0 &&& (2147483647 : Int32)) % (1114112 : Int32)) h0 n0) hZ (hw _ (List.mem_of_getElem? (i := 4) rfl)) (hw _ (List.mem_of_getElem? (i := 3) rfl)) (by decide) (by decide)) (g := (mkF m 26 #[.val (.int u0), .val (.int u1), .val (.int ((u0 &&& (2147483647 : Int32)) % (1114112 : Int32))), .unset] [(.int ((u0 &&& (2147483647 : Int32)) % (1114112 : Int32)))])) rfl (by rw [hml]; rfl) (argsL := [(.int ((u0 &&& (2147483647 : Int32)) % (1114112 : Int32)))]) (rest := []) (lenOf pd_0 rfl) rfl (by show 2 * 0 + _ ≤ _; exact Nat.le_of_eq rfl) (hb hby at_26) (fun _ _ => ⟨rfl, e0, (by decide : 0 + 0 ≤ _), (by decide : 0 + 0 ≤ _)⟩)
    dsimp only [Pt.U, Pt.locs, Pt.cells, Pt.slots] at X14 l14 y14 z14 st14 hQ14
    subst l14 y14 z14
    obtain ⟨rfl, N14q, e14⟩ := hQ14
    have N14 := Fr.app N0 N14q
    refine Goes.of st14 ?_
    show Goes _ _ _ _ _ _ _ (T14.setTop (mkF m 29 #[.val (.int u0), .val (.int u1), .val (.int ((u0 &&& (2147483647 : Int32)) % (1114112 : Int32))), .unset] [(.int (f1 ((u0 &&& (2147483647 : Int32)) % (1114112 : Int32))))]))
    refine Goes.of (fun t k => XS.istoreN X14.here hx rfl (hb hby at_29) rfl (l' := #[.val (.int u0), .val (.int u1), .val (.int ((u0 &&& (2147483647 : Int32)) % (1114112 : Int32))), .val (.int (f1 ((u0 &&& (2147483647 : Int32)) % (1114112 : Int32))))]) rfl k) ?_
    show Goes _ _ _ _ _ _ _ (T14.setTop (mkF m 30 #[.val (.int u0), .val (.int u1), .val (.int ((u0 &&& (2147483647 : Int32)) % (1114112 : Int32))), .val (.int (f1 ((u0 &&& (2147483647 : Int32)) % (1114112 : Int32))))] []))
    refine Goes.of (fun t k => XS.iloadN X14.here hx rfl (hb hby at_30) rfl k) ?_
    show Goes _ _ _ _ _ _ _ (T14.setTop (mkF m 31 #[.val (.int u0), .val (.int u1), .val (.int ((u0 &&& (2147483647 : Int32)) % (1114112 : Int32))), .val (.int (f1 ((u0 &&& (2147483647 : Int32)) % (1114112 : Int32))))] [(.int ((u0 &&& (2147483647 : Int32)) % (1114112 : Int32)))]))
    refine Goes.of (fun t k => X14.ldcInt hx hown (mvT hZ (hw _ (List.mem_of_getElem? (i := 7) rfl))) (g := (mkF m 31 #[.val (.int u0), .val (.int u1), .val (.int ((u0 &&& (2147483647 : Int32)) % (1114112 : Int32))), .val (.int (f1 ((u0 &&& (2147483647 : Int32)) % (1114112 : Int32))))] [(.int ((u0 &&& (2147483647 : Int32)) % (1114112 : Int32)))])) rfl (hb hby at_31) t k) ?_
    show Goes _ _ _ _ _ _ _ (T14.setTop (mkF m 33 #[.val (.int u0), .val (.int u1), .val (.int ((u0 &&& (2147483647 : Int32)) % (1114112 : Int32))), .val (.int (f1 ((u0 &&& (2147483647 : Int32)) % (1114112 : Int32))))] [(.int (55296 : Int32)), (.int ((u0 &&& (2147483647 : Int32)) % (1114112 : Int32)))]))
    by_cases hc15 : ((u0 &&& (2147483647 : Int32)) % (1114112 : Int32)) < (55296 : Int32)
    · refine Goes.of (fun t k => XS.icmpYes X14.here hx rfl (pc0 := 33) (pc' := 67) rfl (hb hby at_33) rfl (tlt hc15).1 (by decide) (by decide) k) ?_
      show Goes _ _ _ _ _ _ _ (T14.setTop (mkF m 67 #[.val (.int u0), .val (.int u1), .val (.int ((u0 &&& (2147483647 : Int32)) % (1114112 : Int32))), .val (.int (f1 ((u0 &&& (2147483647 : Int32)) % (1114112 : Int32))))] []))
      refine Goes.of (fun t k => XS.iloadN X14.here hx rfl (hb hby at_67) rfl k) ?_
      show Goes _ _ _ _ _ _ _ (T14.setTop (mkF m 68 #[.val (.int u0), .val (.int u1), .val (.int ((u0 &&& (2147483647 : Int32)) % (1114112 : Int32))), .val (.int (f1 ((u0 &&& (2147483647 : Int32)) % (1114112 : Int32))))] [(.int (f1 ((u0 &&& (2147483647 : Int32)) % (1114112 : Int32))))]))
      refine Goes.of (fun t k => XS.iconst X14.here hx rfl (hb hby at_68) k) ?_
      show Goes _ _ _ _ _ _ _ (T14.setTop (mkF m 69 #[.val (.int u0), .val (.int u1), .val (.int ((u0 &&& (2147483647 : Int32)) % (1114112 : Int32))), .val (.int (f1 ((u0 &&& (2147483647 : Int32)) % (1114112 : Int32))))] [(.int (1 : Int32)), (.int (f1 ((u0 &&& (2147483647 : Int32)) % (1114112 : Int32))))]))
      by_cases hc16 : (f1 ((u0 &&& (2147483647 : Int32)) % (1114112 : Int32))) < (1 : Int32)
      · refine Goes.of (fun t k => XS.icmpYes X14.here hx rfl (pc0 := 69) (pc' := 77) rfl (hb hby at_69) rfl (tlt hc16).1 (by decide) (by decide) k) ?_
        show Goes _ _ _ _ _ _ _ (T14.setTop (mkF m 77 #[.val (.int u0), .val (.int u1), .val (.int ((u0 &&& (2147483647 : Int32)) % (1114112 : Int32))), .val (.int (f1 ((u0 &&& (2147483647 : Int32)) % (1114112 : Int32))))] []))
        refine Goes.of (fun t k => XS.iconst X14.here hx rfl (hb hby at_77) k) ?_
        show Goes _ _ _ _ _ _ _ (T14.setTop (mkF m 78 #[.val (.int u0), .val (.int u1), .val (.int ((u0 &&& (2147483647 : Int32)) % (1114112 : Int32))), .val (.int (f1 ((u0 &&& (2147483647 : Int32)) % (1114112 : Int32))))] [(.int (0 : Int32))]))
        exact Goes.fin X14 hlk (v := some (.int (0 : Int32))) (fun h => by rw [Bd.returns] at h; cases h) (fun fs hr => retN X14 hx (t := .boolean) Bd.returns (by simp) (hb hby at_78) hr) ⟨congrArg (fun z => some (Value.int z)) (by rw [f0, if_pos hc13, if_pos hc15, if_pos hc16] : (0 : Int32) = f0 u0 u1), N14, e14⟩ (by decide) (by decide)
      · refine Goes.of (fun t k => XS.icmpNo X14.here hx rfl (hb hby at_69) rfl (flt hc16).1 k) ?_
        show Goes _ _ _ _ _ _ _ (T14.setTop (mkF m 72 #[.val (.int u0), .val (.int u1), .val (.int ((u0 &&& (2147483647 : Int32)) % (1114112 : Int32))), .val (.int (f1 ((u0 &&& (2147483647 : Int32)) % (1114112 : Int32))))] []))
        refine Goes.of (fun t k => XS.iloadN X14.here hx rfl (hb hby at_72) rfl k) ?_
        show Goes _ _ _ _ _ _ _ (T14.setTop (mkF m 73 #[.val (.int u0), .val (.int u1), .val (.int ((u0 &&& (2147483647 : Int32)) % (1114112 : Int32))), .val (.int (f1 ((u0 &&& (2147483647 : Int32)) % (1114112 : Int32))))] [(.int (f1 ((u0 &&& (2147483647 : Int32)) % (1114112 : Int32))))]))
        refine Goes.of (fun t k => XS.iconst X14.here hx rfl (hb hby at_73) k) ?_
        show Goes _ _ _ _ _ _ _ (T14.setTop (mkF m 74 #[.val (.int u0), .val (.int u1), .val (.int ((u0 &&& (2147483647 : Int32)) % (1114112 : Int32))), .val (.int (f1 ((u0 &&& (2147483647 : Int32)) % (1114112 : Int32))))] [(.int (4 : Int32)), (.int (f1 ((u0 &&& (2147483647 : Int32)) % (1114112 : Int32))))]))
        by_cases hc17 : (4 : Int32) < (f1 ((u0 &&& (2147483647 : Int32)) % (1114112 : Int32)))
        · refine Goes.of (fun t k => XS.icmpNo X14.here hx rfl (hb hby at_74) rfl (tlt hc17).2.2.2 k) ?_
          show Goes _ _ _ _ _ _ _ (T14.setTop (mkF m 77 #[.val (.int u0), .val (.int u1), .val (.int ((u0 &&& (2147483647 : Int32)) % (1114112 : Int32))), .val (.int (f1 ((u0 &&& (2147483647 : Int32)) % (1114112 : Int32))))] []))
          refine Goes.of (fun t k => XS.iconst X14.here hx rfl (hb hby at_77) k) ?_
          show Goes _ _ _ _ _ _ _ (T14.setTop (mkF m 78 #[.val (.int u0), .val (.int u1), .val (.int ((u0 &&& (2147483647 : Int32)) % (1114112 : Int32))), .val (.int (f1 ((u0 &&& (2147483647 : Int32)) % (1114112 : Int32))))] [(.int (0 : Int32))]))
          exact Goes.fin X14 hlk (v := some (.int (0 : Int32))) (fun h => by rw [Bd.returns] at h; cases h) (fun fs hr => retN X14 hx (t := .boolean) Bd.returns (by simp) (hb hby at_78) hr) ⟨congrArg (fun z => some (Value.int z)) (by rw [f0, if_pos hc13, if_pos hc15, if_neg hc16, if_pos hc17] : (0 : Int32) = f0 u0 u1), N14, e14⟩ (by decide) (by decide)
        · refine Goes.of (fun t k => XS.icmpYes X14.here hx rfl (pc0 := 74) (pc' := 79) rfl (hb hby at_74) rfl (flt hc17).2.2.2 (by decide) (by decide) k) ?_
          show Goes _ _ _ _ _ _ _ (T14.setTop (mkF m 79 #[.val (.int u0), .val (.int u1), .val (.int ((u0 &&& (2147483647 : Int32)) % (1114112 : Int32))), .val (.int (f1 ((u0 &&& (2147483647 : Int32)) % (1114112 : Int32))))] []))
          refine Goes.of (fun t k => XS.iloadN X14.here hx rfl (hb hby at_79) rfl k) ?_
          show Goes _ _ _ _ _ _ _ (T14.setTop (mkF m 80 #[.val (.int u0), .val (.int u1), .val (.int ((u0 &&& (2147483647 : Int32)) % (1114112 : Int32))), .val (.int (f1 ((u0 &&& (2147483647 : Int32)) % (1114112 : Int32))))] [(.int ((u0 &&& (2147483647 : Int32)) % (1114112 : Int32)))]))
          refine Goes.of (fun t k => XS.iconst X14.here hx rfl (hb hby at_80) k) ?_
          show Goes _ _ _ _ _ _ _ (T14.setTop (mkF m 81 #[.val (.int u0), .val (.int u1), .val (.int ((u0 &&& (2147483647 : Int32)) % (1114112 : Int32))), .val (.int (f1 ((u0 &&& (2147483647 : Int32)) % (1114112 : Int32))))] [(.int (1 : Int32)), (.int ((u0 &&& (2147483647 : Int32)) % (1114112 : Int32)))]))
          refine Goes.of (fun t k => XS.iloadN X14.here hx rfl (hb hby at_81) rfl k) ?_
          show Goes _ _ _ _ _ _ _ (T14.setTop (mkF m 82 #[.val (.int u0), .val (.int u1), .val (.int ((u0 &&& (2147483647 : Int32)) % (1114112 : Int32))), .val (.int (f1 ((u0 &&& (2147483647 : Int32)) % (1114112 : Int32))))] [(.int (f1 ((u0 &&& (2147483647 : Int32)) % (1114112 : Int32)))), (.int (1 : Int32)), (.int ((u0 &&& (2147483647 : Int32)) % (1114112 : Int32)))]))
          obtain ⟨_, _, ⟨T18, L18, k18, n18⟩, -, X18, ⟨Lc18, hQ18, l18, y18, z18⟩, st18⟩ := Jvm.LawKit.callS X14 hx (y := (⟨"com/example/dutiful_logic/dutifullogic/Utf8ReaderLengthPinLaw", "payload", "(I)I"⟩ : MethodName)) hown (mvT hZ (hw _ (List.mem_of_getElem? (i := 13) rfl))) (mvT hZ (hw _ (List.mem_of_getElem? (i := 14) rfl))) (mvT hZ (hw _ (List.mem_of_getElem? (i := 15) rfl))) (mvT hZ (hw _ (List.mem_of_getElem? (i := 16) rfl))) (by decide) (backOf (W := 2) (rm2 l Z a0 hw [] (f1 ((u0 &&& (2147483647 : Int32)) % (1114112 : Int32))) h0 n0) hZ (hw _ (List.mem_of_getElem? (i := 16) rfl)) (hw _ (List.mem_of_getElem? (i := 15) rfl)) (by decide) (by decide)) (g := (mkF m 82 #[.val (.int u0), .val (.int u1), .val (.int ((u0 &&& (2147483647 : Int32)) % (1114112 : Int32))), .val (.int (f1 ((u0 &&& (2147483647 : Int32)) % (1114112 : Int32))))] [(.int (f1 ((u0 &&& (2147483647 : Int32)) % (1114112 : Int32)))), (.int (1 : Int32)), (.int ((u0 &&& (2147483647 : Int32)) % (1114112 : Int32)))])) rfl (by rw [hml]; rfl) (argsL := [(.int (f1 ((u0 &&& (2147483647 : Int32)) % (1114112 : Int32))))]) (rest := [(.int (1 : Int32)), (.int ((u0 &&& (2147483647 : Int32)) % (1114112 : Int32)))]) (lenOf pd_0 rfl) rfl (by show 2 * 0 + _ ≤ _; exact Nat.le_of_eq rfl) (hb hby at_82) (fun _ _ => ⟨rfl, e14, (by decide : 0 + 0 ≤ _), (by decide : 0 + 0 ≤ _)⟩)
          dsimp only [Pt.U, Pt.locs, Pt.cells, Pt.slots] at X18 l18 y18 z18 st18 hQ18
          subst l18 y18 z18
          obtain ⟨rfl, N18q, e18⟩ := hQ18
          have N18 := Fr.app N14 N18q
          refine Goes.of st18 ?_
          show Goes _ _ _ _ _ _ _ (T18.setTop (mkF m 85 #[.val (.int u0), .val (.int u1), .val (.int ((u0 &&& (2147483647 : Int32)) % (1114112 : Int32))), .val (.int (f1 ((u0 &&& (2147483647 : Int32)) % (1114112 : Int32))))] [(.int (f2 (f1 ((u0 &&& (2147483647 : Int32)) % (1114112 : Int32))))), (.int (1 : Int32)), (.int ((u0 &&& (2147483647 : Int32)) % (1114112 : Int32)))]))
          refine Goes.of (fun t k => XS.ishl X18.here hx rfl (hb hby at_85) rfl k) ?_
          show Goes _ _ _ _ _ _ _ (T18.setTop (mkF m 86 #[.val (.int u0), .val (.int u1), .val (.int ((u0 &&& (2147483647 : Int32)) % (1114112 : Int32))), .val (.int (f1 ((u0 &&& (2147483647 : Int32)) % (1114112 : Int32))))] [(.int ((1 : Int32) <<< ((f2 (f1 ((u0 &&& (2147483647 : Int32)) % (1114112 : Int32)))) &&& 31))), (.int ((u0 &&& (2147483647 : Int32)) % (1114112 : Int32)))]))
          by_cases hc19 : ((u0 &&& (2147483647 : Int32)) % (1114112 : Int32)) < ((1 : Int32) <<< ((f2 (f1 ((u0 &&& (2147483647 : Int32)) % (1114112 : Int32)))) &&& 31))
          · refine Goes.of (fun t k => XS.icmpYes X18.here hx rfl (pc0 := 86) (pc' := 91) rfl (hb hby at_86) rfl (tlt hc19).1 (by decide) (by decide) k) ?_
            show Goes _ _ _ _ _ _ _ (T18.setTop (mkF m 91 #[.val (.int u0), .val (.int u1), .val (.int ((u0 &&& (2147483647 : Int32)) % (1114112 : Int32))), .val (.int (f1 ((u0 &&& (2147483647 : Int32)) % (1114112 : Int32))))] []))
            refine Goes.of (fun t k => XS.iloadN X18.here hx rfl (hb hby at_91) rfl k) ?_
            show Goes _ _ _ _ _ _ _ (T18.setTop (mkF m 92 #[.val (.int u0), .val (.int u1), .val (.int ((u0 &&& (2147483647 : Int32)) % (1114112 : Int32))), .val (.int (f1 ((u0 &&& (2147483647 : Int32)) % (1114112 : Int32))))] [(.int (f1 ((u0 &&& (2147483647 : Int32)) % (1114112 : Int32))))]))
            refine Goes.of (fun t k => XS.iconst X18.here hx rfl (hb hby at_92) k) ?_
            show Goes _ _ _ _ _ _ _ (T18.setTop (mkF m 93 #[.val (.int u0), .val (.int u1), .val (.int ((u0 &&& (2147483647 : Int32)) % (1114112 : Int32))), .val (.int (f1 ((u0 &&& (2147483647 : Int32)) % (1114112 : Int32))))] [(.int (1 : Int32)), (.int (f1 ((u0 &&& (2147483647 : Int32)) % (1114112 : Int32))))]))
            by_cases hc20 : (1 : Int32) < (f1 ((u0 &&& (2147483647 : Int32)) % (1114112 : Int32)))
            · refine Goes.of (fun t k => XS.icmpNo X18.here hx rfl (hb hby at_93) rfl (tlt hc20).2.2.2 k) ?_
              show Goes _ _ _ _ _ _ _ (T18.setTop (mkF m 96 #[.val (.int u0), .val (.int u1), .val (.int ((u0 &&& (2147483647 : Int32)) % (1114112 : Int32))), .val (.int (f1 ((u0 &&& (2147483647 : Int32)) % (1114112 : Int32))))] []))
              refine Goes.of (fun t k => XS.iloadN X18.here hx rfl (hb hby at_96) rfl k) ?_
              show Goes _ _ _ _ _ _ _ (T18.setTop (mkF m 97 #[.val (.int u0), .val (.int u1), .val (.int ((u0 &&& (2147483647 : Int32)) % (1114112 : Int32))), .val (.int (f1 ((u0 &&& (2147483647 : Int32)) % (1114112 : Int32))))] [(.int ((u0 &&& (2147483647 : Int32)) % (1114112 : Int32)))]))
              refine Goes.of (fun t k => XS.iconst X18.here hx rfl (hb hby at_97) k) ?_
              show Goes _ _ _ _ _ _ _ (T18.setTop (mkF m 98 #[.val (.int u0), .val (.int u1), .val (.int ((u0 &&& (2147483647 : Int32)) % (1114112 : Int32))), .val (.int (f1 ((u0 &&& (2147483647 : Int32)) % (1114112 : Int32))))] [(.int (1 : Int32)), (.int ((u0 &&& (2147483647 : Int32)) % (1114112 : Int32)))]))
              refine Goes.of (fun t k => XS.iloadN X18.here hx rfl (hb hby at_98) rfl k) ?_
              show Goes _ _ _ _ _ _ _ (T18.setTop (mkF m 99 #[.val (.int u0), .val (.int u1), .val (.int ((u0 &&& (2147483647 : Int32)) % (1114112 : Int32))), .val (.int (f1 ((u0 &&& (2147483647 : Int32)) % (1114112 : Int32))))] [(.int (f1 ((u0 &&& (2147483647 : Int32)) % (1114112 : Int32)))), (.int (1 : Int32)), (.int ((u0 &&& (2147483647 : Int32)) % (1114112 : Int32)))]))
              refine Goes.of (fun t k => XS.iconst X18.here hx rfl (hb hby at_99) k) ?_
              show Goes _ _ _ _ _ _ _ (T18.setTop (mkF m 100 #[.val (.int u0), .val (.int u1), .val (.int ((u0 &&& (2147483647 : Int32)) % (1114112 : Int32))), .val (.int (f1 ((u0 &&& (2147483647 : Int32)) % (1114112 : Int32))))] [(.int (1 : Int32)), (.int (f1 ((u0 &&& (2147483647 : Int32)) % (1114112 : Int32)))), (.int (1 : Int32)), (.int ((u0 &&& (2147483647 : Int32)) % (1114112 : Int32)))]))
              refine Goes.of (fun t k => XS.isub X18.here hx rfl (hb hby at_100) rfl k) ?_
              show Goes _ _ _ _ _ _ _ (T18.setTop (mkF m 101 #[.val (.int u0), .val (.int u1), .val (.int ((u0 &&& (2147483647 : Int32)) % (1114112 : Int32))), .val (.int (f1 ((u0 &&& (2147483647 : Int32)) % (1114112 : Int32))))] [(.int ((f1 ((u0 &&& (2147483647 : Int32)) % (1114112 : Int32))) - (1 : Int32))), (.int (1 : Int32)), (.int ((u0 &&& (2147483647 : Int32)) % (1114112 : Int32)))]))
              obtain ⟨_, _, ⟨T21, L21, k21, n21⟩, -, X21, ⟨Lc21, hQ21, l21, y21, z21⟩, st21⟩ := Jvm.LawKit.callS X18 hx (y := (⟨"com/example/dutiful_logic/dutifullogic/Utf8ReaderLengthPinLaw", "payload", "(I)I"⟩ : MethodName)) hown (mvT hZ (hw _ (List.mem_of_getElem? (i := 13) rfl))) (mvT hZ (hw _ (List.mem_of_getElem? (i := 14) rfl))) (mvT hZ (hw _ (List.mem_of_getElem? (i := 15) rfl))) (mvT hZ (hw _ (List.mem_of_getElem? (i := 16) rfl))) (by decide) (backOf (W := 2) (rm2 l Z a0 hw [] ((f1 ((u0 &&& (2147483647 : Int32)) % (1114112 : Int32))) - (1 : Int32)) h0 n0) hZ (hw _ (List.mem_of_getElem? (i := 16) rfl)) (hw _ (List.mem_of_getElem? (i := 15) rfl)) (by decide) (by decide)) (g := (mkF m 101 #[.val (.int u0), .val (.int u1), .val (.int ((u0 &&& (2147483647 : Int32)) % (1114112 : Int32))), .val (.int (f1 ((u0 &&& (2147483647 : Int32)) % (1114112 : Int32))))] [(.int ((f1 ((u0 &&& (2147483647 : Int32)) % (1114112 : Int32))) - (1 : Int32))), (.int (1 : Int32)), (.int ((u0 &&& (2147483647 : Int32)) % (1114112 : Int32)))])) rfl (by rw [hml]; rfl) (argsL := [(.int ((f1 ((u0 &&& (2147483647 : Int32)) % (1114112 : Int32))) - (1 : Int32)))]) (rest := [(.int (1 : Int32)), (.int ((u0 &&& (2147483647 : Int32)) % (1114112 : Int32)))]) (lenOf pd_0 rfl) rfl (by show 2 * 0 + _ ≤ _; exact Nat.le_of_eq rfl) (hb hby at_101) (fun _ _ => ⟨rfl, e18, (by decide : 0 + 0 ≤ _), (by decide : 0 + 0 ≤ _)⟩)
              dsimp only [Pt.U, Pt.locs, Pt.cells, Pt.slots] at X21 l21 y21 z21 st21 hQ21
              subst l21 y21 z21
              obtain ⟨rfl, N21q, e21⟩ := hQ21
              have N21 := Fr.app N18 N21q
              refine Goes.of st21 ?_
              show Goes _ _ _ _ _ _ _ (T21.setTop (mkF m 104 #[.val (.int u0), .val (.int u1), .val (.int ((u0 &&& (2147483647 : Int32)) % (1114112 : Int32))), .val (.int (f1 ((u0 &&& (2147483647 : Int32)) % (1114112 : Int32))))] [(.int (f2 ((f1 ((u0 &&& (2147483647 : Int32)) % (1114112 : Int32))) - (1 : Int32)))), (.int (1 : Int32)), (.int ((u0 &&& (2147483647 : Int32)) % (1114112 : Int32)))]))
              refine Goes.of (fun t k => XS.ishl X21.here hx rfl (hb hby at_104) rfl k) ?_
              show Goes _ _ _ _ _ _ _ (T21.setTop (mkF m 105 #[.val (.int u0), .val (.int u1), .val (.int ((u0 &&& (2147483647 : Int32)) % (1114112 : Int32))), .val (.int (f1 ((u0 &&& (2147483647 : Int32)) % (1114112 : Int32))))] [(.int ((1 : Int32) <<< ((f2 ((f1 ((u0 &&& (2147483647 : Int32)) % (1114112 : Int32))) - (1 : Int32))) &&& 31))), (.int ((u0 &&& (2147483647 : Int32)) % (1114112 : Int32)))]))
              by_cases hc22 : ((u0 &&& (2147483647 : Int32)) % (1114112 : Int32)) < ((1 : Int32) <<< ((f2 ((f1 ((u0 &&& (2147483647 : Int32)) % (1114112 : Int32))) - (1 : Int32))) &&& 31))
              · refine Goes.of (fun t k => XS.icmpNo X21.here hx rfl (hb hby at_105) rfl (tlt hc22).2.1 k) ?_
                show Goes _ _ _ _ _ _ _ (T21.setTop (mkF m 108 #[.val (.int u0), .val (.int u1), .val (.int ((u0 &&& (2147483647 : Int32)) % (1114112 : Int32))), .val (.int (f1 ((u0 &&& (2147483647 : Int32)) % (1114112 : Int32))))] []))
                refine Goes.of (fun t k => XS.iconst X21.here hx rfl (hb hby at_108) k) ?_
                show Goes _ _ _ _ _ _ _ (T21.setTop (mkF m 109 #[.val (.int u0), .val (.int u1), .val (.int ((u0 &&& (2147483647 : Int32)) % (1114112 : Int32))), .val (.int (f1 ((u0 &&& (2147483647 : Int32)) % (1114112 : Int32))))] [(.int (0 : Int32))]))
                exact Goes.fin X21 hlk (v := some (.int (0 : Int32))) (fun h => by rw [Bd.returns] at h; cases h) (fun fs hr => retN X21 hx (t := .boolean) Bd.returns (by simp) (hb hby at_109) hr) ⟨congrArg (fun z => some (Value.int z)) (by rw [f0, if_pos hc13, if_pos hc15, if_neg hc16, if_neg hc17, if_pos hc19, if_pos hc20, if_pos hc22] : (0 : Int32) = f0 u0 u1), N21, e21⟩ (by decide) (by decide)
              · refine Goes.of (fun t k => XS.icmpYes X21.here hx rfl (pc0 := 105) (pc' := 110) rfl (hb hby at_105) rfl (flt hc22).2.1 (by decide) (by decide) k) ?_
                show Goes _ _ _ _ _ _ _ (T21.setTop (mkF m 110 #[.val (.int u0), .val (.int u1), .val (.int ((u0 &&& (2147483647 : Int32)) % (1114112 : Int32))), .val (.int (f1 ((u0 &&& (2147483647 : Int32)) % (1114112 : Int32))))] []))
                refine Goes.of (fun t k => XS.iconst X21.here hx rfl (hb hby at_110) k) ?_
                show Goes _ _ _ _ _ _ _ (T21.setTop (mkF m 111 #[.val (.int u0), .val (.int u1), .val (.int ((u0 &&& (2147483647 : Int32)) % (1114112 : Int32))), .val (.int (f1 ((u0 &&& (2147483647 : Int32)) % (1114112 : Int32))))] [(.int (1 : Int32))]))
                exact Goes.fin X21 hlk (v := some (.int (1 : Int32))) (fun h => by rw [Bd.returns] at h; cases h) (fun fs hr => retN X21 hx (t := .boolean) Bd.returns (by simp) (hb hby at_111) hr) ⟨congrArg (fun z => some (Value.int z)) (by rw [f0, if_pos hc13, if_pos hc15, if_neg hc16, if_neg hc17, if_pos hc19, if_pos hc20, if_neg hc22] : (1 : Int32) = f0 u0 u1), N21, e21⟩ (by decide) (by decide)
            · refine Goes.of (fun t k => XS.icmpYes X18.here hx rfl (pc0 := 93) (pc' := 110) rfl (hb hby at_93) rfl (flt hc20).2.2.2 (by decide) (by decide) k) ?_
              show Goes _ _ _ _ _ _ _ (T18.setTop (mkF m 110 #[.val (.int u0), .val (.int u1), .val (.int ((u0 &&& (2147483647 : Int32)) % (1114112 : Int32))), .val (.int (f1 ((u0 &&& (2147483647 : Int32)) % (1114112 : Int32))))] []))
              refine Goes.of (fun t k => XS.iconst X18.here hx rfl (hb hby at_110) k) ?_
              show Goes _ _ _ _ _ _ _ (T18.setTop (mkF m 111 #[.val (.int u0), .val (.int u1), .val (.int ((u0 &&& (2147483647 : Int32)) % (1114112 : Int32))), .val (.int (f1 ((u0 &&& (2147483647 : Int32)) % (1114112 : Int32))))] [(.int (1 : Int32))]))
              exact Goes.fin X18 hlk (v := some (.int (1 : Int32))) (fun h => by rw [Bd.returns] at h; cases h) (fun fs hr => retN X18 hx (t := .boolean) Bd.returns (by simp) (hb hby at_111) hr) ⟨congrArg (fun z => some (Value.int z)) (by rw [f0, if_pos hc13, if_pos hc15, if_neg hc16, if_neg hc17, if_pos hc19, if_neg hc20] : (1 : Int32) = f0 u0 u1), N18, e18⟩ (by decide) (by decide)
          · refine Goes.of (fun t k => XS.icmpNo X18.here hx rfl (hb hby at_86) rfl (flt hc19).1 k) ?_
            show Goes _ _ _ _ _ _ _ (T18.setTop (mkF m 89 #[.val (.int u0), .val (.int u1), .val (.int ((u0 &&& (2147483647 : Int32)) % (1114112 : Int32))), .val (.int (f1 ((u0 &&& (2147483647 : Int32)) % (1114112 : Int32))))] []))
            refine Goes.of (fun t k => XS.iconst X18.here hx rfl (hb hby at_89) k) ?_
            show Goes _ _ _ _ _ _ _ (T18.setTop (mkF m 90 #[.val (.int u0), .val (.int u1), .val (.int ((u0 &&& (2147483647 : Int32)) % (1114112 : Int32))), .val (.int (f1 ((u0 &&& (2147483647 : Int32)) % (1114112 : Int32))))] [(.int (0 : Int32))]))
            exact Goes.fin X18 hlk (v := some (.int (0 : Int32))) (fun h => by rw [Bd.returns] at h; cases h) (fun fs hr => retN X18 hx (t := .boolean) Bd.returns (by simp) (hb hby at_90) hr) ⟨congrArg (fun z => some (Value.int z)) (by rw [f0, if_pos hc13, if_pos hc15, if_neg hc16, if_neg hc17, if_neg hc19] : (0 : Int32) = f0 u0 u1), N18, e18⟩ (by decide) (by decide)
    · refine Goes.of (fun t k => XS.icmpNo X14.here hx rfl (hb hby at_33) rfl (flt hc15).1 k) ?_
      show Goes _ _ _ _ _ _ _ (T14.setTop (mkF m 36 #[.val (.int u0), .val (.int u1), .val (.int ((u0 &&& (2147483647 : Int32)) % (1114112 : Int32))), .val (.int (f1 ((u0 &&& (2147483647 : Int32)) % (1114112 : Int32))))] []))
      refine Goes.of (fun t k => XS.iloadN X14.here hx rfl (hb hby at_36) rfl k) ?_
      show Goes _ _ _ _ _ _ _ (T14.setTop (mkF m 37 #[.val (.int u0), .val (.int u1), .val (.int ((u0 &&& (2147483647 : Int32)) % (1114112 : Int32))), .val (.int (f1 ((u0 &&& (2147483647 : Int32)) % (1114112 : Int32))))] [(.int ((u0 &&& (2147483647 : Int32)) % (1114112 : Int32)))]))
      refine Goes.of (fun t k => X14.ldcInt hx hown (mvT hZ (hw _ (List.mem_of_getElem? (i := 8) rfl))) (g := (mkF m 37 #[.val (.int u0), .val (.int u1), .val (.int ((u0 &&& (2147483647 : Int32)) % (1114112 : Int32))), .val (.int (f1 ((u0 &&& (2147483647 : Int32)) % (1114112 : Int32))))] [(.int ((u0 &&& (2147483647 : Int32)) % (1114112 : Int32)))])) rfl (hb hby at_37) t k) ?_
      show Goes _ _ _ _ _ _ _ (T14.setTop (mkF m 39 #[.val (.int u0), .val (.int u1), .val (.int ((u0 &&& (2147483647 : Int32)) % (1114112 : Int32))), .val (.int (f1 ((u0 &&& (2147483647 : Int32)) % (1114112 : Int32))))] [(.int (57343 : Int32)), (.int ((u0 &&& (2147483647 : Int32)) % (1114112 : Int32)))]))
      by_cases hc23 : (57343 : Int32) < ((u0 &&& (2147483647 : Int32)) % (1114112 : Int32))
      · refine Goes.of (fun t k => XS.icmpYes X14.here hx rfl (pc0 := 39) (pc' := 67) rfl (hb hby at_39) rfl (tlt hc23).2.2.1 (by decide) (by decide) k) ?_
        show Goes _ _ _ _ _ _ _ (T14.setTop (mkF m 67 #[.val (.int u0), .val (.int u1), .val (.int ((u0 &&& (2147483647 : Int32)) % (1114112 : Int32))), .val (.int (f1 ((u0 &&& (2147483647 : Int32)) % (1114112 : Int32))))] []))
        refine Goes.of (fun t k => XS.iloadN X14.here hx rfl (hb hby at_67) rfl k) ?_
        show Goes _ _ _ _ _ _ _ (T14.setTop (mkF m 68 #[.val (.int u0), .val (.int u1), .val (.int ((u0 &&& (2147483647 : Int32)) % (1114112 : Int32))), .val (.int (f1 ((u0 &&& (2147483647 : Int32)) % (1114112 : Int32))))] [(.int (f1 ((u0 &&& (2147483647 : Int32)) % (1114112 : Int32))))]))
        refine Goes.of (fun t k => XS.iconst X14.here hx rfl (hb hby at_68) k) ?_
        show Goes _ _ _ _ _ _ _ (T14.setTop (mkF m 69 #[.val (.int u0), .val (.int u1), .val (.int ((u0 &&& (2147483647 : Int32)) % (1114112 : Int32))), .val (.int (f1 ((u0 &&& (2147483647 : Int32)) % (1114112 : Int32))))] [(.int (1 : Int32)), (.int (f1 ((u0 &&& (2147483647 : Int32)) % (1114112 : Int32))))]))
        by_cases hc24 : (f1 ((u0 &&& (2147483647 : Int32)) % (1114112 : Int32))) < (1 : Int32)
        · refine Goes.of (fun t k => XS.icmpYes X14.here hx rfl (pc0 := 69) (pc' := 77) rfl (hb hby at_69) rfl (tlt hc24).1 (by decide) (by decide) k) ?_
          show Goes _ _ _ _ _ _ _ (T14.setTop (mkF m 77 #[.val (.int u0), .val (.int u1), .val (.int ((u0 &&& (2147483647 : Int32)) % (1114112 : Int32))), .val (.int (f1 ((u0 &&& (2147483647 : Int32)) % (1114112 : Int32))))] []))
          refine Goes.of (fun t k => XS.iconst X14.here hx rfl (hb hby at_77) k) ?_
          show Goes _ _ _ _ _ _ _ (T14.setTop (mkF m 78 #[.val (.int u0), .val (.int u1), .val (.int ((u0 &&& (2147483647 : Int32)) % (1114112 : Int32))), .val (.int (f1 ((u0 &&& (2147483647 : Int32)) % (1114112 : Int32))))] [(.int (0 : Int32))]))
          exact Goes.fin X14 hlk (v := some (.int (0 : Int32))) (fun h => by rw [Bd.returns] at h; cases h) (fun fs hr => retN X14 hx (t := .boolean) Bd.returns (by simp) (hb hby at_78) hr) ⟨congrArg (fun z => some (Value.int z)) (by rw [f0, if_pos hc13, if_neg hc15, if_pos hc23, if_pos hc24] : (0 : Int32) = f0 u0 u1), N14, e14⟩ (by decide) (by decide)
        · refine Goes.of (fun t k => XS.icmpNo X14.here hx rfl (hb hby at_69) rfl (flt hc24).1 k) ?_
          show Goes _ _ _ _ _ _ _ (T14.setTop (mkF m 72 #[.val (.int u0), .val (.int u1), .val (.int ((u0 &&& (2147483647 : Int32)) % (1114112 : Int32))), .val (.int (f1 ((u0 &&& (2147483647 : Int32)) % (1114112 : Int32))))] []))
          refine Goes.of (fun t k => XS.iloadN X14.here hx rfl (hb hby at_72) rfl k) ?_
          show Goes _ _ _ _ _ _ _ (T14.setTop (mkF m 73 #[.val (.int u0), .val (.int u1), .val (.int ((u0 &&& (2147483647 : Int32)) % (1114112 : Int32))), .val (.int (f1 ((u0 &&& (2147483647 : Int32)) % (1114112 : Int32))))] [(.int (f1 ((u0 &&& (2147483647 : Int32)) % (1114112 : Int32))))]))
          refine Goes.of (fun t k => XS.iconst X14.here hx rfl (hb hby at_73) k) ?_
          show Goes _ _ _ _ _ _ _ (T14.setTop (mkF m 74 #[.val (.int u0), .val (.int u1), .val (.int ((u0 &&& (2147483647 : Int32)) % (1114112 : Int32))), .val (.int (f1 ((u0 &&& (2147483647 : Int32)) % (1114112 : Int32))))] [(.int (4 : Int32)), (.int (f1 ((u0 &&& (2147483647 : Int32)) % (1114112 : Int32))))]))
          by_cases hc25 : (4 : Int32) < (f1 ((u0 &&& (2147483647 : Int32)) % (1114112 : Int32)))
          · refine Goes.of (fun t k => XS.icmpNo X14.here hx rfl (hb hby at_74) rfl (tlt hc25).2.2.2 k) ?_
            show Goes _ _ _ _ _ _ _ (T14.setTop (mkF m 77 #[.val (.int u0), .val (.int u1), .val (.int ((u0 &&& (2147483647 : Int32)) % (1114112 : Int32))), .val (.int (f1 ((u0 &&& (2147483647 : Int32)) % (1114112 : Int32))))] []))
            refine Goes.of (fun t k => XS.iconst X14.here hx rfl (hb hby at_77) k) ?_
            show Goes _ _ _ _ _ _ _ (T14.setTop (mkF m 78 #[.val (.int u0), .val (.int u1), .val (.int ((u0 &&& (2147483647 : Int32)) % (1114112 : Int32))), .val (.int (f1 ((u0 &&& (2147483647 : Int32)) % (1114112 : Int32))))] [(.int (0 : Int32))]))
            exact Goes.fin X14 hlk (v := some (.int (0 : Int32))) (fun h => by rw [Bd.returns] at h; cases h) (fun fs hr => retN X14 hx (t := .boolean) Bd.returns (by simp) (hb hby at_78) hr) ⟨congrArg (fun z => some (Value.int z)) (by rw [f0, if_pos hc13, if_neg hc15, if_pos hc23, if_neg hc24, if_pos hc25] : (0 : Int32) = f0 u0 u1), N14, e14⟩ (by decide) (by decide)
          · refine Goes.of (fun t k => XS.icmpYes X14.here hx rfl (pc0 := 74) (pc' := 79) rfl (hb hby at_74) rfl (flt hc25).2.2.2 (by decide) (by decide) k) ?_
            show Goes _ _ _ _ _ _ _ (T14.setTop (mkF m 79 #[.val (.int u0), .val (.int u1), .val (.int ((u0 &&& (2147483647 : Int32)) % (1114112 : Int32))), .val (.int (f1 ((u0 &&& (2147483647 : Int32)) % (1114112 : Int32))))] []))
            refine Goes.of (fun t k => XS.iloadN X14.here hx rfl (hb hby at_79) rfl k) ?_
            show Goes _ _ _ _ _ _ _ (T14.setTop (mkF m 80 #[.val (.int u0), .val (.int u1), .val (.int ((u0 &&& (2147483647 : Int32)) % (1114112 : Int32))), .val (.int (f1 ((u0 &&& (2147483647 : Int32)) % (1114112 : Int32))))] [(.int ((u0 &&& (2147483647 : Int32)) % (1114112 : Int32)))]))
            refine Goes.of (fun t k => XS.iconst X14.here hx rfl (hb hby at_80) k) ?_
            show Goes _ _ _ _ _ _ _ (T14.setTop (mkF m 81 #[.val (.int u0), .val (.int u1), .val (.int ((u0 &&& (2147483647 : Int32)) % (1114112 : Int32))), .val (.int (f1 ((u0 &&& (2147483647 : Int32)) % (1114112 : Int32))))] [(.int (1 : Int32)), (.int ((u0 &&& (2147483647 : Int32)) % (1114112 : Int32)))]))
            refine Goes.of (fun t k => XS.iloadN X14.here hx rfl (hb hby at_81) rfl k) ?_
            show Goes _ _ _ _ _ _ _ (T14.setTop (mkF m 82 #[.val (.int u0), .val (.int u1), .val (.int ((u0 &&& (2147483647 : Int32)) % (1114112 : Int32))), .val (.int (f1 ((u0 &&& (2147483647 : Int32)) % (1114112 : Int32))))] [(.int (f1 ((u0 &&& (2147483647 : Int32)) % (1114112 : Int32)))), (.int (1 : Int32)), (.int ((u0 &&& (2147483647 : Int32)) % (1114112 : Int32)))]))
            obtain ⟨_, _, ⟨T26, L26, k26, n26⟩, -, X26, ⟨Lc26, hQ26, l26, y26, z26⟩, st26⟩ := Jvm.LawKit.callS X14 hx (y := (⟨"com/example/dutiful_logic/dutifullogic/Utf8ReaderLengthPinLaw", "payload", "(I)I"⟩ : MethodName)) hown (mvT hZ (hw _ (List.mem_of_getElem? (i := 13) rfl))) (mvT hZ (hw _ (List.mem_of_getElem? (i := 14) rfl))) (mvT hZ (hw _ (List.mem_of_getElem? (i := 15) rfl))) (mvT hZ (hw _ (List.mem_of_getElem? (i := 16) rfl))) (by decide) (backOf (W := 2) (rm2 l Z a0 hw [] (f1 ((u0 &&& (2147483647 : Int32)) % (1114112 : Int32))) h0 n0) hZ (hw _ (List.mem_of_getElem? (i := 16) rfl)) (hw _ (List.mem_of_getElem? (i := 15) rfl)) (by decide) (by decide)) (g := (mkF m 82 #[.val (.int u0), .val (.int u1), .val (.int ((u0 &&& (2147483647 : Int32)) % (1114112 : Int32))), .val (.int (f1 ((u0 &&& (2147483647 : Int32)) % (1114112 : Int32))))] [(.int (f1 ((u0 &&& (2147483647 : Int32)) % (1114112 : Int32)))), (.int (1 : Int32)), (.int ((u0 &&& (2147483647 : Int32)) % (1114112 : Int32)))])) rfl (by rw [hml]; rfl) (argsL := [(.int (f1 ((u0 &&& (2147483647 : Int32)) % (1114112 : Int32))))]) (rest := [(.int (1 : Int32)), (.int ((u0 &&& (2147483647 : Int32)) % (1114112 : Int32)))]) (lenOf pd_0 rfl) rfl (by show 2 * 0 + _ ≤ _; exact Nat.le_of_eq rfl) (hb hby at_82) (fun _ _ => ⟨rfl, e14, (by decide : 0 + 0 ≤ _), (by decide : 0 + 0 ≤ _)⟩)
            dsimp only [Pt.U, Pt.locs, Pt.cells, Pt.slots] at X26 l26 y26 z26 st26 hQ26
            subst l26 y26 z26
            obtain ⟨rfl, N26q, e26⟩ := hQ26
            have N26 := Fr.app N14 N26q
            refine Goes.of st26 ?_
            show Goes _ _ _ _ _ _ _ (T26.setTop (mkF m 85 #[.val (.int u0), .val (.int u1), .val (.int ((u0 &&& (2147483647 : Int32)) % (1114112 : Int32))), .val (.int (f1 ((u0 &&& (2147483647 : Int32)) % (1114112 : Int32))))] [(.int (f2 (f1 ((u0 &&& (2147483647 : Int32)) % (1114112 : Int32))))), (.int (1 : Int32)), (.int ((u0 &&& (2147483647 : Int32)) % (1114112 : Int32)))]))
            refine Goes.of (fun t k => XS.ishl X26.here hx rfl (hb hby at_85) rfl k) ?_
            show Goes _ _ _ _ _ _ _ (T26.setTop (mkF m 86 #[.val (.int u0), .val (.int u1), .val (.int ((u0 &&& (2147483647 : Int32)) % (1114112 : Int32))), .val (.int (f1 ((u0 &&& (2147483647 : Int32)) % (1114112 : Int32))))] [(.int ((1 : Int32) <<< ((f2 (f1 ((u0 &&& (2147483647 : Int32)) % (1114112 : Int32)))) &&& 31))), (.int ((u0 &&& (2147483647 : Int32)) % (1114112 : Int32)))]))
            by_cases hc27 : ((u0 &&& (2147483647 : Int32)) % (1114112 : Int32)) < ((1 : Int32) <<< ((f2 (f1 ((u0 &&& (2147483647 : Int32)) % (1114112 : Int32)))) &&& 31))
            · refine Goes.of (fun t k => XS.icmpYes X26.here hx rfl (pc0 := 86) (pc' := 91) rfl (hb hby at_86) rfl (tlt hc27).1 (by decide) (by decide) k) ?_
              show Goes _ _ _ _ _ _ _ (T26.setTop (mkF m 91 #[.val (.int u0), .val (.int u1), .val (.int ((u0 &&& (2147483647 : Int32)) % (1114112 : Int32))), .val (.int (f1 ((u0 &&& (2147483647 : Int32)) % (1114112 : Int32))))] []))
              refine Goes.of (fun t k => XS.iloadN X26.here hx rfl (hb hby at_91) rfl k) ?_
              show Goes _ _ _ _ _ _ _ (T26.setTop (mkF m 92 #[.val (.int u0), .val (.int u1), .val (.int ((u0 &&& (2147483647 : Int32)) % (1114112 : Int32))), .val (.int (f1 ((u0 &&& (2147483647 : Int32)) % (1114112 : Int32))))] [(.int (f1 ((u0 &&& (2147483647 : Int32)) % (1114112 : Int32))))]))
              refine Goes.of (fun t k => XS.iconst X26.here hx rfl (hb hby at_92) k) ?_
              show Goes _ _ _ _ _ _ _ (T26.setTop (mkF m 93 #[.val (.int u0), .val (.int u1), .val (.int ((u0 &&& (2147483647 : Int32)) % (1114112 : Int32))), .val (.int (f1 ((u0 &&& (2147483647 : Int32)) % (1114112 : Int32))))] [(.int (1 : Int32)), (.int (f1 ((u0 &&& (2147483647 : Int32)) % (1114112 : Int32))))]))
              by_cases hc28 : (1 : Int32) < (f1 ((u0 &&& (2147483647 : Int32)) % (1114112 : Int32)))
              · refine Goes.of (fun t k => XS.icmpNo X26.here hx rfl (hb hby at_93) rfl (tlt hc28).2.2.2 k) ?_
                show Goes _ _ _ _ _ _ _ (T26.setTop (mkF m 96 #[.val (.int u0), .val (.int u1), .val (.int ((u0 &&& (2147483647 : Int32)) % (1114112 : Int32))), .val (.int (f1 ((u0 &&& (2147483647 : Int32)) % (1114112 : Int32))))] []))
                refine Goes.of (fun t k => XS.iloadN X26.here hx rfl (hb hby at_96) rfl k) ?_
                show Goes _ _ _ _ _ _ _ (T26.setTop (mkF m 97 #[.val (.int u0), .val (.int u1), .val (.int ((u0 &&& (2147483647 : Int32)) % (1114112 : Int32))), .val (.int (f1 ((u0 &&& (2147483647 : Int32)) % (1114112 : Int32))))] [(.int ((u0 &&& (2147483647 : Int32)) % (1114112 : Int32)))]))
                refine Goes.of (fun t k => XS.iconst X26.here hx rfl (hb hby at_97) k) ?_
                show Goes _ _ _ _ _ _ _ (T26.setTop (mkF m 98 #[.val (.int u0), .val (.int u1), .val (.int ((u0 &&& (2147483647 : Int32)) % (1114112 : Int32))), .val (.int (f1 ((u0 &&& (2147483647 : Int32)) % (1114112 : Int32))))] [(.int (1 : Int32)), (.int ((u0 &&& (2147483647 : Int32)) % (1114112 : Int32)))]))
                refine Goes.of (fun t k => XS.iloadN X26.here hx rfl (hb hby at_98) rfl k) ?_
                show Goes _ _ _ _ _ _ _ (T26.setTop (mkF m 99 #[.val (.int u0), .val (.int u1), .val (.int ((u0 &&& (2147483647 : Int32)) % (1114112 : Int32))), .val (.int (f1 ((u0 &&& (2147483647 : Int32)) % (1114112 : Int32))))] [(.int (f1 ((u0 &&& (2147483647 : Int32)) % (1114112 : Int32)))), (.int (1 : Int32)), (.int ((u0 &&& (2147483647 : Int32)) % (1114112 : Int32)))]))
                refine Goes.of (fun t k => XS.iconst X26.here hx rfl (hb hby at_99) k) ?_
                show Goes _ _ _ _ _ _ _ (T26.setTop (mkF m 100 #[.val (.int u0), .val (.int u1), .val (.int ((u0 &&& (2147483647 : Int32)) % (1114112 : Int32))), .val (.int (f1 ((u0 &&& (2147483647 : Int32)) % (1114112 : Int32))))] [(.int (1 : Int32)), (.int (f1 ((u0 &&& (2147483647 : Int32)) % (1114112 : Int32)))), (.int (1 : Int32)), (.int ((u0 &&& (2147483647 : Int32)) % (1114112 : Int32)))]))
                refine Goes.of (fun t k => XS.isub X26.here hx rfl (hb hby at_100) rfl k) ?_
                show Goes _ _ _ _ _ _ _ (T26.setTop (mkF m 101 #[.val (.int u0), .val (.int u1), .val (.int ((u0 &&& (2147483647 : Int32)) % (1114112 : Int32))), .val (.int (f1 ((u0 &&& (2147483647 : Int32)) % (1114112 : Int32))))] [(.int ((f1 ((u0 &&& (2147483647 : Int32)) % (1114112 : Int32))) - (1 : Int32))), (.int (1 : Int32)), (.int ((u0 &&& (2147483647 : Int32)) % (1114112 : Int32)))]))
                obtain ⟨_, _, ⟨T29, L29, k29, n29⟩, -, X29, ⟨Lc29, hQ29, l29, y29, z29⟩, st29⟩ := Jvm.LawKit.callS X26 hx (y := (⟨"com/example/dutiful_logic/dutifullogic/Utf8ReaderLengthPinLaw", "payload", "(I)I"⟩ : MethodName)) hown (mvT hZ (hw _ (List.mem_of_getElem? (i := 13) rfl))) (mvT hZ (hw _ (List.mem_of_getElem? (i := 14) rfl))) (mvT hZ (hw _ (List.mem_of_getElem? (i := 15) rfl))) (mvT hZ (hw _ (List.mem_of_getElem? (i := 16) rfl))) (by decide) (backOf (W := 2) (rm2 l Z a0 hw [] ((f1 ((u0 &&& (2147483647 : Int32)) % (1114112 : Int32))) - (1 : Int32)) h0 n0) hZ (hw _ (List.mem_of_getElem? (i := 16) rfl)) (hw _ (List.mem_of_getElem? (i := 15) rfl)) (by decide) (by decide)) (g := (mkF m 101 #[.val (.int u0), .val (.int u1), .val (.int ((u0 &&& (2147483647 : Int32)) % (1114112 : Int32))), .val (.int (f1 ((u0 &&& (2147483647 : Int32)) % (1114112 : Int32))))] [(.int ((f1 ((u0 &&& (2147483647 : Int32)) % (1114112 : Int32))) - (1 : Int32))), (.int (1 : Int32)), (.int ((u0 &&& (2147483647 : Int32)) % (1114112 : Int32)))])) rfl (by rw [hml]; rfl) (argsL := [(.int ((f1 ((u0 &&& (2147483647 : Int32)) % (1114112 : Int32))) - (1 : Int32)))]) (rest := [(.int (1 : Int32)), (.int ((u0 &&& (2147483647 : Int32)) % (1114112 : Int32)))]) (lenOf pd_0 rfl) rfl (by show 2 * 0 + _ ≤ _; exact Nat.le_of_eq rfl) (hb hby at_101) (fun _ _ => ⟨rfl, e26, (by decide : 0 + 0 ≤ _), (by decide : 0 + 0 ≤ _)⟩)
                dsimp only [Pt.U, Pt.locs, Pt.cells, Pt.slots] at X29 l29 y29 z29 st29 hQ29
                subst l29 y29 z29
                obtain ⟨rfl, N29q, e29⟩ := hQ29
                have N29 := Fr.app N26 N29q
                refine Goes.of st29 ?_
                show Goes _ _ _ _ _ _ _ (T29.setTop (mkF m 104 #[.val (.int u0), .val (.int u1), .val (.int ((u0 &&& (2147483647 : Int32)) % (1114112 : Int32))), .val (.int (f1 ((u0 &&& (2147483647 : Int32)) % (1114112 : Int32))))] [(.int (f2 ((f1 ((u0 &&& (2147483647 : Int32)) % (1114112 : Int32))) - (1 : Int32)))), (.int (1 : Int32)), (.int ((u0 &&& (2147483647 : Int32)) % (1114112 : Int32)))]))
                refine Goes.of (fun t k => XS.ishl X29.here hx rfl (hb hby at_104) rfl k) ?_
                show Goes _ _ _ _ _ _ _ (T29.setTop (mkF m 105 #[.val (.int u0), .val (.int u1), .val (.int ((u0 &&& (2147483647 : Int32)) % (1114112 : Int32))), .val (.int (f1 ((u0 &&& (2147483647 : Int32)) % (1114112 : Int32))))] [(.int ((1 : Int32) <<< ((f2 ((f1 ((u0 &&& (2147483647 : Int32)) % (1114112 : Int32))) - (1 : Int32))) &&& 31))), (.int ((u0 &&& (2147483647 : Int32)) % (1114112 : Int32)))]))
                by_cases hc30 : ((u0 &&& (2147483647 : Int32)) % (1114112 : Int32)) < ((1 : Int32) <<< ((f2 ((f1 ((u0 &&& (2147483647 : Int32)) % (1114112 : Int32))) - (1 : Int32))) &&& 31))
                · refine Goes.of (fun t k => XS.icmpNo X29.here hx rfl (hb hby at_105) rfl (tlt hc30).2.1 k) ?_
                  show Goes _ _ _ _ _ _ _ (T29.setTop (mkF m 108 #[.val (.int u0), .val (.int u1), .val (.int ((u0 &&& (2147483647 : Int32)) % (1114112 : Int32))), .val (.int (f1 ((u0 &&& (2147483647 : Int32)) % (1114112 : Int32))))] []))
                  refine Goes.of (fun t k => XS.iconst X29.here hx rfl (hb hby at_108) k) ?_
                  show Goes _ _ _ _ _ _ _ (T29.setTop (mkF m 109 #[.val (.int u0), .val (.int u1), .val (.int ((u0 &&& (2147483647 : Int32)) % (1114112 : Int32))), .val (.int (f1 ((u0 &&& (2147483647 : Int32)) % (1114112 : Int32))))] [(.int (0 : Int32))]))
                  exact Goes.fin X29 hlk (v := some (.int (0 : Int32))) (fun h => by rw [Bd.returns] at h; cases h) (fun fs hr => retN X29 hx (t := .boolean) Bd.returns (by simp) (hb hby at_109) hr) ⟨congrArg (fun z => some (Value.int z)) (by rw [f0, if_pos hc13, if_neg hc15, if_pos hc23, if_neg hc24, if_neg hc25, if_pos hc27, if_pos hc28, if_pos hc30] : (0 : Int32) = f0 u0 u1), N29, e29⟩ (by decide) (by decide)
                · refine Goes.of (fun t k => XS.icmpYes X29.here hx rfl (pc0 := 105) (pc' := 110) rfl (hb hby at_105) rfl (flt hc30).2.1 (by decide) (by decide) k) ?_
                  show Goes _ _ _ _ _ _ _ (T29.setTop (mkF m 110 #[.val (.int u0), .val (.int u1), .val (.int ((u0 &&& (2147483647 : Int32)) % (1114112 : Int32))), .val (.int (f1 ((u0 &&& (2147483647 : Int32)) % (1114112 : Int32))))] []))
                  refine Goes.of (fun t k => XS.iconst X29.here hx rfl (hb hby at_110) k) ?_
                  show Goes _ _ _ _ _ _ _ (T29.setTop (mkF m 111 #[.val (.int u0), .val (.int u1), .val (.int ((u0 &&& (2147483647 : Int32)) % (1114112 : Int32))), .val (.int (f1 ((u0 &&& (2147483647 : Int32)) % (1114112 : Int32))))] [(.int (1 : Int32))]))
                  exact Goes.fin X29 hlk (v := some (.int (1 : Int32))) (fun h => by rw [Bd.returns] at h; cases h) (fun fs hr => retN X29 hx (t := .boolean) Bd.returns (by simp) (hb hby at_111) hr) ⟨congrArg (fun z => some (Value.int z)) (by rw [f0, if_pos hc13, if_neg hc15, if_pos hc23, if_neg hc24, if_neg hc25, if_pos hc27, if_pos hc28, if_neg hc30] : (1 : Int32) = f0 u0 u1), N29, e29⟩ (by decide) (by decide)
              · refine Goes.of (fun t k => XS.icmpYes X26.here hx rfl (pc0 := 93) (pc' := 110) rfl (hb hby at_93) rfl (flt hc28).2.2.2 (by decide) (by decide) k) ?_
                show Goes _ _ _ _ _ _ _ (T26.setTop (mkF m 110 #[.val (.int u0), .val (.int u1), .val (.int ((u0 &&& (2147483647 : Int32)) % (1114112 : Int32))), .val (.int (f1 ((u0 &&& (2147483647 : Int32)) % (1114112 : Int32))))] []))
                refine Goes.of (fun t k => XS.iconst X26.here hx rfl (hb hby at_110) k) ?_
                show Goes _ _ _ _ _ _ _ (T26.setTop (mkF m 111 #[.val (.int u0), .val (.int u1), .val (.int ((u0 &&& (2147483647 : Int32)) % (1114112 : Int32))), .val (.int (f1 ((u0 &&& (2147483647 : Int32)) % (1114112 : Int32))))] [(.int (1 : Int32))]))
                exact Goes.fin X26 hlk (v := some (.int (1 : Int32))) (fun h => by rw [Bd.returns] at h; cases h) (fun fs hr => retN X26 hx (t := .boolean) Bd.returns (by simp) (hb hby at_111) hr) ⟨congrArg (fun z => some (Value.int z)) (by rw [f0, if_pos hc13, if_neg hc15, if_pos hc23, if_neg hc24, if_neg hc25, if_pos hc27, if_neg hc28] : (1 : Int32) = f0 u0 u1), N26, e26⟩ (by decide) (by decide)
            · refine Goes.of (fun t k => XS.icmpNo X26.here hx rfl (hb hby at_86) rfl (flt hc27).1 k) ?_
              show Goes _ _ _ _ _ _ _ (T26.setTop (mkF m 89 #[.val (.int u0), .val (.int u1), .val (.int ((u0 &&& (2147483647 : Int32)) % (1114112 : Int32))), .val (.int (f1 ((u0 &&& (2147483647 : Int32)) % (1114112 : Int32))))] []))
              refine Goes.of (fun t k => XS.iconst X26.here hx rfl (hb hby at_89) k) ?_
              show Goes _ _ _ _ _ _ _ (T26.setTop (mkF m 90 #[.val (.int u0), .val (.int u1), .val (.int ((u0 &&& (2147483647 : Int32)) % (1114112 : Int32))), .val (.int (f1 ((u0 &&& (2147483647 : Int32)) % (1114112 : Int32))))] [(.int (0 : Int32))]))
              exact Goes.fin X26 hlk (v := some (.int (0 : Int32))) (fun h => by rw [Bd.returns] at h; cases h) (fun fs hr => retN X26 hx (t := .boolean) Bd.returns (by simp) (hb hby at_90) hr) ⟨congrArg (fun z => some (Value.int z)) (by rw [f0, if_pos hc13, if_neg hc15, if_pos hc23, if_neg hc24, if_neg hc25, if_neg hc27] : (0 : Int32) = f0 u0 u1), N26, e26⟩ (by decide) (by decide)
      · refine Goes.of (fun t k => XS.icmpNo X14.here hx rfl (hb hby at_39) rfl (flt hc23).2.2.1 k) ?_
        show Goes _ _ _ _ _ _ _ (T14.setTop (mkF m 42 #[.val (.int u0), .val (.int u1), .val (.int ((u0 &&& (2147483647 : Int32)) % (1114112 : Int32))), .val (.int (f1 ((u0 &&& (2147483647 : Int32)) % (1114112 : Int32))))] []))
        refine Goes.of (fun t k => XS.iloadN X14.here hx rfl (hb hby at_42) rfl k) ?_
        show Goes _ _ _ _ _ _ _ (T14.setTop (mkF m 43 #[.val (.int u0), .val (.int u1), .val (.int ((u0 &&& (2147483647 : Int32)) % (1114112 : Int32))), .val (.int (f1 ((u0 &&& (2147483647 : Int32)) % (1114112 : Int32))))] [(.int ((u0 &&& (2147483647 : Int32)) % (1114112 : Int32)))]))
        refine Goes.of (fun t k => X14.ldcInt hx hown (mvT hZ (hw _ (List.mem_of_getElem? (i := 0) rfl))) (g := (mkF m 43 #[.val (.int u0), .val (.int u1), .val (.int ((u0 &&& (2147483647 : Int32)) % (1114112 : Int32))), .val (.int (f1 ((u0 &&& (2147483647 : Int32)) % (1114112 : Int32))))] [(.int ((u0 &&& (2147483647 : Int32)) % (1114112 : Int32)))])) rfl (hb hby at_43) t k) ?_
        show Goes _ _ _ _ _ _ _ (T14.setTop (mkF m 45 #[.val (.int u0), .val (.int u1), .val (.int ((u0 &&& (2147483647 : Int32)) % (1114112 : Int32))), .val (.int (f1 ((u0 &&& (2147483647 : Int32)) % (1114112 : Int32))))] [(.int (56448 : Int32)), (.int ((u0 &&& (2147483647 : Int32)) % (1114112 : Int32)))]))
        by_cases hc31 : ((u0 &&& (2147483647 : Int32)) % (1114112 : Int32)) < (56448 : Int32)
        · refine Goes.of (fun t k => XS.icmpYes X14.here hx rfl (pc0 := 45) (pc' := 65) rfl (hb hby at_45) rfl (tlt hc31).1 (by decide) (by decide) k) ?_
          show Goes _ _ _ _ _ _ _ (T14.setTop (mkF m 65 #[.val (.int u0), .val (.int u1), .val (.int ((u0 &&& (2147483647 : Int32)) % (1114112 : Int32))), .val (.int (f1 ((u0 &&& (2147483647 : Int32)) % (1114112 : Int32))))] []))
          refine Goes.of (fun t k => XS.iconst X14.here hx rfl (hb hby at_65) k) ?_
          show Goes _ _ _ _ _ _ _ (T14.setTop (mkF m 66 #[.val (.int u0), .val (.int u1), .val (.int ((u0 &&& (2147483647 : Int32)) % (1114112 : Int32))), .val (.int (f1 ((u0 &&& (2147483647 : Int32)) % (1114112 : Int32))))] [(.int (1 : Int32))]))
          exact Goes.fin X14 hlk (v := some (.int (1 : Int32))) (fun h => by rw [Bd.returns] at h; cases h) (fun fs hr => retN X14 hx (t := .boolean) Bd.returns (by simp) (hb hby at_66) hr) ⟨congrArg (fun z => some (Value.int z)) (by rw [f0, if_pos hc13, if_neg hc15, if_neg hc23, if_pos hc31] : (1 : Int32) = f0 u0 u1), N14, e14⟩ (by decide) (by decide)
        · refine Goes.of (fun t k => XS.icmpNo X14.here hx rfl (hb hby at_45) rfl (flt hc31).1 k) ?_
          show Goes _ _ _ _ _ _ _ (T14.setTop (mkF m 48 #[.val (.int u0), .val (.int u1), .val (.int ((u0 &&& (2147483647 : Int32)) % (1114112 : Int32))), .val (.int (f1 ((u0 &&& (2147483647 : Int32)) % (1114112 : Int32))))] []))
          refine Goes.of (fun t k => XS.iloadN X14.here hx rfl (hb hby at_48) rfl k) ?_
          show Goes _ _ _ _ _ _ _ (T14.setTop (mkF m 49 #[.val (.int u0), .val (.int u1), .val (.int ((u0 &&& (2147483647 : Int32)) % (1114112 : Int32))), .val (.int (f1 ((u0 &&& (2147483647 : Int32)) % (1114112 : Int32))))] [(.int ((u0 &&& (2147483647 : Int32)) % (1114112 : Int32)))]))
          refine Goes.of (fun t k => X14.ldcInt hx hown (mvT hZ (hw _ (List.mem_of_getElem? (i := 9) rfl))) (g := (mkF m 49 #[.val (.int u0), .val (.int u1), .val (.int ((u0 &&& (2147483647 : Int32)) % (1114112 : Int32))), .val (.int (f1 ((u0 &&& (2147483647 : Int32)) % (1114112 : Int32))))] [(.int ((u0 &&& (2147483647 : Int32)) % (1114112 : Int32)))])) rfl (hb hby at_49) t k) ?_
          show Goes _ _ _ _ _ _ _ (T14.setTop (mkF m 51 #[.val (.int u0), .val (.int u1), .val (.int ((u0 &&& (2147483647 : Int32)) % (1114112 : Int32))), .val (.int (f1 ((u0 &&& (2147483647 : Int32)) % (1114112 : Int32))))] [(.int (56575 : Int32)), (.int ((u0 &&& (2147483647 : Int32)) % (1114112 : Int32)))]))
          by_cases hc32 : (56575 : Int32) < ((u0 &&& (2147483647 : Int32)) % (1114112 : Int32))
          · refine Goes.of (fun t k => XS.icmpYes X14.here hx rfl (pc0 := 51) (pc' := 65) rfl (hb hby at_51) rfl (tlt hc32).2.2.1 (by decide) (by decide) k) ?_
            show Goes _ _ _ _ _ _ _ (T14.setTop (mkF m 65 #[.val (.int u0), .val (.int u1), .val (.int ((u0 &&& (2147483647 : Int32)) % (1114112 : Int32))), .val (.int (f1 ((u0 &&& (2147483647 : Int32)) % (1114112 : Int32))))] []))
            refine Goes.of (fun t k => XS.iconst X14.here hx rfl (hb hby at_65) k) ?_
            show Goes _ _ _ _ _ _ _ (T14.setTop (mkF m 66 #[.val (.int u0), .val (.int u1), .val (.int ((u0 &&& (2147483647 : Int32)) % (1114112 : Int32))), .val (.int (f1 ((u0 &&& (2147483647 : Int32)) % (1114112 : Int32))))] [(.int (1 : Int32))]))
            exact Goes.fin X14 hlk (v := some (.int (1 : Int32))) (fun h => by rw [Bd.returns] at h; cases h) (fun fs hr => retN X14 hx (t := .boolean) Bd.returns (by simp) (hb hby at_66) hr) ⟨congrArg (fun z => some (Value.int z)) (by rw [f0, if_pos hc13, if_neg hc15, if_neg hc23, if_neg hc31, if_pos hc32] : (1 : Int32) = f0 u0 u1), N14, e14⟩ (by decide) (by decide)
          · refine Goes.of (fun t k => XS.icmpNo X14.here hx rfl (hb hby at_51) rfl (flt hc32).2.2.1 k) ?_
            show Goes _ _ _ _ _ _ _ (T14.setTop (mkF m 54 #[.val (.int u0), .val (.int u1), .val (.int ((u0 &&& (2147483647 : Int32)) % (1114112 : Int32))), .val (.int (f1 ((u0 &&& (2147483647 : Int32)) % (1114112 : Int32))))] []))
            refine Goes.of (fun t k => XS.iloadN X14.here hx rfl (hb hby at_54) rfl k) ?_
            show Goes _ _ _ _ _ _ _ (T14.setTop (mkF m 55 #[.val (.int u0), .val (.int u1), .val (.int ((u0 &&& (2147483647 : Int32)) % (1114112 : Int32))), .val (.int (f1 ((u0 &&& (2147483647 : Int32)) % (1114112 : Int32))))] [(.int (f1 ((u0 &&& (2147483647 : Int32)) % (1114112 : Int32))))]))
            refine Goes.of (fun t k => XS.iconst X14.here hx rfl (hb hby at_55) k) ?_
            show Goes _ _ _ _ _ _ _ (T14.setTop (mkF m 56 #[.val (.int u0), .val (.int u1), .val (.int ((u0 &&& (2147483647 : Int32)) % (1114112 : Int32))), .val (.int (f1 ((u0 &&& (2147483647 : Int32)) % (1114112 : Int32))))] [(.int (1 : Int32)), (.int (f1 ((u0 &&& (2147483647 : Int32)) % (1114112 : Int32))))]))
            by_cases hc33 : (f1 ((u0 &&& (2147483647 : Int32)) % (1114112 : Int32))) = (1 : Int32)
            · refine Goes.of (fun t k => XS.icmpNo X14.here hx rfl (hb hby at_56) rfl (teq hc33).2 k) ?_
              show Goes _ _ _ _ _ _ _ (T14.setTop (mkF m 59 #[.val (.int u0), .val (.int u1), .val (.int ((u0 &&& (2147483647 : Int32)) % (1114112 : Int32))), .val (.int (f1 ((u0 &&& (2147483647 : Int32)) % (1114112 : Int32))))] []))
              refine Goes.of (fun t k => XS.iconst X14.here hx rfl (hb hby at_59) k) ?_
              show Goes _ _ _ _ _ _ _ (T14.setTop (mkF m 60 #[.val (.int u0), .val (.int u1), .val (.int ((u0 &&& (2147483647 : Int32)) % (1114112 : Int32))), .val (.int (f1 ((u0 &&& (2147483647 : Int32)) % (1114112 : Int32))))] [(.int (1 : Int32))]))
              refine Goes.of (fun t k => XS.goto X14.here hx rfl (pc0 := 60) (pc' := 64) rfl (hb hby at_60) (by decide) (by decide) k) ?_
              show Goes _ _ _ _ _ _ _ (T14.setTop (mkF m 64 #[.val (.int u0), .val (.int u1), .val (.int ((u0 &&& (2147483647 : Int32)) % (1114112 : Int32))), .val (.int (f1 ((u0 &&& (2147483647 : Int32)) % (1114112 : Int32))))] [(.int (1 : Int32))]))
              exact Goes.fin X14 hlk (v := some (.int (1 : Int32))) (fun h => by rw [Bd.returns] at h; cases h) (fun fs hr => retN X14 hx (t := .boolean) Bd.returns (by simp) (hb hby at_64) hr) ⟨congrArg (fun z => some (Value.int z)) (by rw [f0, if_pos hc13, if_neg hc15, if_neg hc23, if_neg hc31, if_neg hc32, if_pos hc33] : (1 : Int32) = f0 u0 u1), N14, e14⟩ (by decide) (by decide)
            · refine Goes.of (fun t k => XS.icmpYes X14.here hx rfl (pc0 := 56) (pc' := 63) rfl (hb hby at_56) rfl (feq hc33).2 (by decide) (by decide) k) ?_
              show Goes _ _ _ _ _ _ _ (T14.setTop (mkF m 63 #[.val (.int u0), .val (.int u1), .val (.int ((u0 &&& (2147483647 : Int32)) % (1114112 : Int32))), .val (.int (f1 ((u0 &&& (2147483647 : Int32)) % (1114112 : Int32))))] []))
              refine Goes.of (fun t k => XS.iconst X14.here hx rfl (hb hby at_63) k) ?_
              show Goes _ _ _ _ _ _ _ (T14.setTop (mkF m 64 #[.val (.int u0), .val (.int u1), .val (.int ((u0 &&& (2147483647 : Int32)) % (1114112 : Int32))), .val (.int (f1 ((u0 &&& (2147483647 : Int32)) % (1114112 : Int32))))] [(.int (0 : Int32))]))
              exact Goes.fin X14 hlk (v := some (.int (0 : Int32))) (fun h => by rw [Bd.returns] at h; cases h) (fun fs hr => retN X14 hx (t := .boolean) Bd.returns (by simp) (hb hby at_64) hr) ⟨congrArg (fun z => some (Value.int z)) (by rw [f0, if_pos hc13, if_neg hc15, if_neg hc23, if_neg hc31, if_neg hc32, if_neg hc33] : (0 : Int32) = f0 u0 u1), N14, e14⟩ (by decide) (by decide)
  · refine Goes.of (fun t k => XS.ifNo X0.here hx rfl (hb hby at_3) rfl ((if0 _ _).trans (feq hc13).1) k) ?_
    show Goes _ _ _ _ _ _ _ (s₁.setTop (mkF m 6 #[.val (.int u0), .val (.int u1), .unset, .unset] []))
    refine Goes.of (fun t k => X0.ldcInt hx hown (mvT hZ (hw _ (List.mem_of_getElem? (i := 0) rfl))) (g := (mkF m 6 #[.val (.int u0), .val (.int u1), .unset, .unset] [])) rfl (hb hby at_6) t k) ?_
    show Goes _ _ _ _ _ _ _ (s₁.setTop (mkF m 8 #[.val (.int u0), .val (.int u1), .unset, .unset] [(.int (56448 : Int32))]))
    refine Goes.of (fun t k => XS.iloadN X0.here hx rfl (hb hby at_8) rfl k) ?_
    show Goes _ _ _ _ _ _ _ (s₁.setTop (mkF m 9 #[.val (.int u0), .val (.int u1), .unset, .unset] [(.int u0), (.int (56448 : Int32))]))
    refine Goes.of (fun t k => XS.bipush X0.here hx rfl (hb hby at_9) k) ?_
    show Goes _ _ _ _ _ _ _ (s₁.setTop (mkF m 11 #[.val (.int u0), .val (.int u1), .unset, .unset] [(.int (127 : Int32)), (.int u0), (.int (56448 : Int32))]))
    refine Goes.of (fun t k => XS.iand X0.here hx rfl (hb hby at_11) rfl k) ?_
    show Goes _ _ _ _ _ _ _ (s₁.setTop (mkF m 12 #[.val (.int u0), .val (.int u1), .unset, .unset] [(.int (u0 &&& (127 : Int32))), (.int (56448 : Int32))]))
    refine Goes.of (fun t k => XS.iadd X0.here hx rfl (hb hby at_12) rfl k) ?_
    show Goes _ _ _ _ _ _ _ (s₁.setTop (mkF m 13 #[.val (.int u0), .val (.int u1), .unset, .unset] [(.int ((56448 : Int32) + (u0 &&& (127 : Int32))))]))
    refine Goes.of (fun t k => XS.istoreN X0.here hx rfl (hb hby at_13) rfl (l' := #[.val (.int u0), .val (.int u1), .val (.int ((56448 : Int32) + (u0 &&& (127 : Int32)))), .unset]) rfl k) ?_
    show Goes _ _ _ _ _ _ _ (s₁.setTop (mkF m 14 #[.val (.int u0), .val (.int u1), .val (.int ((56448 : Int32) + (u0 &&& (127 : Int32)))), .unset] []))
    refine Goes.of (fun t k => XS.goto X0.here hx rfl (pc0 := 14) (pc' := 25) rfl (hb hby at_14) (by decide) (by decide) k) ?_
    show Goes _ _ _ _ _ _ _ (s₁.setTop (mkF m 25 #[.val (.int u0), .val (.int u1), .val (.int ((56448 : Int32) + (u0 &&& (127 : Int32)))), .unset] []))
    refine Goes.of (fun t k => XS.iloadN X0.here hx rfl (hb hby at_25) rfl k) ?_
    show Goes _ _ _ _ _ _ _ (s₁.setTop (mkF m 26 #[.val (.int u0), .val (.int u1), .val (.int ((56448 : Int32) + (u0 &&& (127 : Int32)))), .unset] [(.int ((56448 : Int32) + (u0 &&& (127 : Int32))))]))
    obtain ⟨_, _, ⟨T34, L34, k34, n34⟩, -, X34, ⟨Lc34, hQ34, l34, y34, z34⟩, st34⟩ := Jvm.LawKit.callS X0 hx (y := (⟨"com/example/dutiful_logic/dutifullogic/Utf8Reader", "length", "(I)I"⟩ : MethodName)) hown (mvT hZ (hw _ (List.mem_of_getElem? (i := 1) rfl))) (mvT hZ (hw _ (List.mem_of_getElem? (i := 2) rfl))) (mvT hZ (hw _ (List.mem_of_getElem? (i := 3) rfl))) (mvT hZ (hw _ (List.mem_of_getElem? (i := 4) rfl))) (by decide) (backOf (W := 0) (rm1 l Z a0 hw [] ((56448 : Int32) + (u0 &&& (127 : Int32))) h0 n0) hZ (hw _ (List.mem_of_getElem? (i := 4) rfl)) (hw _ (List.mem_of_getElem? (i := 3) rfl)) (by decide) (by decide)) (g := (mkF m 26 #[.val (.int u0), .val (.int u1), .val (.int ((56448 : Int32) + (u0 &&& (127 : Int32)))), .unset] [(.int ((56448 : Int32) + (u0 &&& (127 : Int32))))])) rfl (by rw [hml]; rfl) (argsL := [(.int ((56448 : Int32) + (u0 &&& (127 : Int32))))]) (rest := []) (lenOf pd_0 rfl) rfl (by show 2 * 0 + _ ≤ _; exact Nat.le_of_eq rfl) (hb hby at_26) (fun _ _ => ⟨rfl, e0, (by decide : 0 + 0 ≤ _), (by decide : 0 + 0 ≤ _)⟩)
    dsimp only [Pt.U, Pt.locs, Pt.cells, Pt.slots] at X34 l34 y34 z34 st34 hQ34
    subst l34 y34 z34
    obtain ⟨rfl, N34q, e34⟩ := hQ34
    have N34 := Fr.app N0 N34q
    refine Goes.of st34 ?_
    show Goes _ _ _ _ _ _ _ (T34.setTop (mkF m 29 #[.val (.int u0), .val (.int u1), .val (.int ((56448 : Int32) + (u0 &&& (127 : Int32)))), .unset] [(.int (f1 ((56448 : Int32) + (u0 &&& (127 : Int32)))))]))
    refine Goes.of (fun t k => XS.istoreN X34.here hx rfl (hb hby at_29) rfl (l' := #[.val (.int u0), .val (.int u1), .val (.int ((56448 : Int32) + (u0 &&& (127 : Int32)))), .val (.int (f1 ((56448 : Int32) + (u0 &&& (127 : Int32)))))]) rfl k) ?_
    show Goes _ _ _ _ _ _ _ (T34.setTop (mkF m 30 #[.val (.int u0), .val (.int u1), .val (.int ((56448 : Int32) + (u0 &&& (127 : Int32)))), .val (.int (f1 ((56448 : Int32) + (u0 &&& (127 : Int32)))))] []))
    refine Goes.of (fun t k => XS.iloadN X34.here hx rfl (hb hby at_30) rfl k) ?_
    show Goes _ _ _ _ _ _ _ (T34.setTop (mkF m 31 #[.val (.int u0), .val (.int u1), .val (.int ((56448 : Int32) + (u0 &&& (127 : Int32)))), .val (.int (f1 ((56448 : Int32) + (u0 &&& (127 : Int32)))))] [(.int ((56448 : Int32) + (u0 &&& (127 : Int32))))]))
    refine Goes.of (fun t k => X34.ldcInt hx hown (mvT hZ (hw _ (List.mem_of_getElem? (i := 7) rfl))) (g := (mkF m 31 #[.val (.int u0), .val (.int u1), .val (.int ((56448 : Int32) + (u0 &&& (127 : Int32)))), .val (.int (f1 ((56448 : Int32) + (u0 &&& (127 : Int32)))))] [(.int ((56448 : Int32) + (u0 &&& (127 : Int32))))])) rfl (hb hby at_31) t k) ?_
    show Goes _ _ _ _ _ _ _ (T34.setTop (mkF m 33 #[.val (.int u0), .val (.int u1), .val (.int ((56448 : Int32) + (u0 &&& (127 : Int32)))), .val (.int (f1 ((56448 : Int32) + (u0 &&& (127 : Int32)))))] [(.int (55296 : Int32)), (.int ((56448 : Int32) + (u0 &&& (127 : Int32))))]))
    by_cases hc35 : ((56448 : Int32) + (u0 &&& (127 : Int32))) < (55296 : Int32)
    · refine Goes.of (fun t k => XS.icmpYes X34.here hx rfl (pc0 := 33) (pc' := 67) rfl (hb hby at_33) rfl (tlt hc35).1 (by decide) (by decide) k) ?_
      show Goes _ _ _ _ _ _ _ (T34.setTop (mkF m 67 #[.val (.int u0), .val (.int u1), .val (.int ((56448 : Int32) + (u0 &&& (127 : Int32)))), .val (.int (f1 ((56448 : Int32) + (u0 &&& (127 : Int32)))))] []))
      refine Goes.of (fun t k => XS.iloadN X34.here hx rfl (hb hby at_67) rfl k) ?_
      show Goes _ _ _ _ _ _ _ (T34.setTop (mkF m 68 #[.val (.int u0), .val (.int u1), .val (.int ((56448 : Int32) + (u0 &&& (127 : Int32)))), .val (.int (f1 ((56448 : Int32) + (u0 &&& (127 : Int32)))))] [(.int (f1 ((56448 : Int32) + (u0 &&& (127 : Int32)))))]))
      refine Goes.of (fun t k => XS.iconst X34.here hx rfl (hb hby at_68) k) ?_
      show Goes _ _ _ _ _ _ _ (T34.setTop (mkF m 69 #[.val (.int u0), .val (.int u1), .val (.int ((56448 : Int32) + (u0 &&& (127 : Int32)))), .val (.int (f1 ((56448 : Int32) + (u0 &&& (127 : Int32)))))] [(.int (1 : Int32)), (.int (f1 ((56448 : Int32) + (u0 &&& (127 : Int32)))))]))
      by_cases hc36 : (f1 ((56448 : Int32) + (u0 &&& (127 : Int32)))) < (1 : Int32)
      · refine Goes.of (fun t k => XS.icmpYes X34.here hx rfl (pc0 := 69) (pc' := 77) rfl (hb hby at_69) rfl (tlt hc36).1 (by decide) (by decide) k) ?_
        show Goes _ _ _ _ _ _ _ (T34.setTop (mkF m 77 #[.val (.int u0), .val (.int u1), .val (.int ((56448 : Int32) + (u0 &&& (127 : Int32)))), .val (.int (f1 ((56448 : Int32) + (u0 &&& (127 : Int32)))))] []))
        refine Goes.of (fun t k => XS.iconst X34.here hx rfl (hb hby at_77) k) ?_
        show Goes _ _ _ _ _ _ _ (T34.setTop (mkF m 78 #[.val (.int u0), .val (.int u1), .val (.int ((56448 : Int32) + (u0 &&& (127 : Int32)))), .val (.int (f1 ((56448 : Int32) + (u0 &&& (127 : Int32)))))] [(.int (0 : Int32))]))
        exact Goes.fin X34 hlk (v := some (.int (0 : Int32))) (fun h => by rw [Bd.returns] at h; cases h) (fun fs hr => retN X34 hx (t := .boolean) Bd.returns (by simp) (hb hby at_78) hr) ⟨congrArg (fun z => some (Value.int z)) (by rw [f0, if_neg hc13, if_pos hc35, if_pos hc36] : (0 : Int32) = f0 u0 u1), N34, e34⟩ (by decide) (by decide)
      · refine Goes.of (fun t k => XS.icmpNo X34.here hx rfl (hb hby at_69) rfl (flt hc36).1 k) ?_
        show Goes _ _ _ _ _ _ _ (T34.setTop (mkF m 72 #[.val (.int u0), .val (.int u1), .val (.int ((56448 : Int32) + (u0 &&& (127 : Int32)))), .val (.int (f1 ((56448 : Int32) + (u0 &&& (127 : Int32)))))] []))
        refine Goes.of (fun t k => XS.iloadN X34.here hx rfl (hb hby at_72) rfl k) ?_
        show Goes _ _ _ _ _ _ _ (T34.setTop (mkF m 73 #[.val (.int u0), .val (.int u1), .val (.int ((56448 : Int32) + (u0 &&& (127 : Int32)))), .val (.int (f1 ((56448 : Int32) + (u0 &&& (127 : Int32)))))] [(.int (f1 ((56448 : Int32) + (u0 &&& (127 : Int32)))))]))
        refine Goes.of (fun t k => XS.iconst X34.here hx rfl (hb hby at_73) k) ?_
        show Goes _ _ _ _ _ _ _ (T34.setTop (mkF m 74 #[.val (.int u0), .val (.int u1), .val (.int ((56448 : Int32) + (u0 &&& (127 : Int32)))), .val (.int (f1 ((56448 : Int32) + (u0 &&& (127 : Int32)))))] [(.int (4 : Int32)), (.int (f1 ((56448 : Int32) + (u0 &&& (127 : Int32)))))]))
        by_cases hc37 : (4 : Int32) < (f1 ((56448 : Int32) + (u0 &&& (127 : Int32))))
        · refine Goes.of (fun t k => XS.icmpNo X34.here hx rfl (hb hby at_74) rfl (tlt hc37).2.2.2 k) ?_
          show Goes _ _ _ _ _ _ _ (T34.setTop (mkF m 77 #[.val (.int u0), .val (.int u1), .val (.int ((56448 : Int32) + (u0 &&& (127 : Int32)))), .val (.int (f1 ((56448 : Int32) + (u0 &&& (127 : Int32)))))] []))
          refine Goes.of (fun t k => XS.iconst X34.here hx rfl (hb hby at_77) k) ?_
          show Goes _ _ _ _ _ _ _ (T34.setTop (mkF m 78 #[.val (.int u0), .val (.int u1), .val (.int ((56448 : Int32) + (u0 &&& (127 : Int32)))), .val (.int (f1 ((56448 : Int32) + (u0 &&& (127 : Int32)))))] [(.int (0 : Int32))]))
          exact Goes.fin X34 hlk (v := some (.int (0 : Int32))) (fun h => by rw [Bd.returns] at h; cases h) (fun fs hr => retN X34 hx (t := .boolean) Bd.returns (by simp) (hb hby at_78) hr) ⟨congrArg (fun z => some (Value.int z)) (by rw [f0, if_neg hc13, if_pos hc35, if_neg hc36, if_pos hc37] : (0 : Int32) = f0 u0 u1), N34, e34⟩ (by decide) (by decide)
        · refine Goes.of (fun t k => XS.icmpYes X34.here hx rfl (pc0 := 74) (pc' := 79) rfl (hb hby at_74) rfl (flt hc37).2.2.2 (by decide) (by decide) k) ?_
          show Goes _ _ _ _ _ _ _ (T34.setTop (mkF m 79 #[.val (.int u0), .val (.int u1), .val (.int ((56448 : Int32) + (u0 &&& (127 : Int32)))), .val (.int (f1 ((56448 : Int32) + (u0 &&& (127 : Int32)))))] []))
          refine Goes.of (fun t k => XS.iloadN X34.here hx rfl (hb hby at_79) rfl k) ?_
          show Goes _ _ _ _ _ _ _ (T34.setTop (mkF m 80 #[.val (.int u0), .val (.int u1), .val (.int ((56448 : Int32) + (u0 &&& (127 : Int32)))), .val (.int (f1 ((56448 : Int32) + (u0 &&& (127 : Int32)))))] [(.int ((56448 : Int32) + (u0 &&& (127 : Int32))))]))
          refine Goes.of (fun t k => XS.iconst X34.here hx rfl (hb hby at_80) k) ?_
          show Goes _ _ _ _ _ _ _ (T34.setTop (mkF m 81 #[.val (.int u0), .val (.int u1), .val (.int ((56448 : Int32) + (u0 &&& (127 : Int32)))), .val (.int (f1 ((56448 : Int32) + (u0 &&& (127 : Int32)))))] [(.int (1 : Int32)), (.int ((56448 : Int32) + (u0 &&& (127 : Int32))))]))
          refine Goes.of (fun t k => XS.iloadN X34.here hx rfl (hb hby at_81) rfl k) ?_
          show Goes _ _ _ _ _ _ _ (T34.setTop (mkF m 82 #[.val (.int u0), .val (.int u1), .val (.int ((56448 : Int32) + (u0 &&& (127 : Int32)))), .val (.int (f1 ((56448 : Int32) + (u0 &&& (127 : Int32)))))] [(.int (f1 ((56448 : Int32) + (u0 &&& (127 : Int32))))), (.int (1 : Int32)), (.int ((56448 : Int32) + (u0 &&& (127 : Int32))))]))
          obtain ⟨_, _, ⟨T38, L38, k38, n38⟩, -, X38, ⟨Lc38, hQ38, l38, y38, z38⟩, st38⟩ := Jvm.LawKit.callS X34 hx (y := (⟨"com/example/dutiful_logic/dutifullogic/Utf8ReaderLengthPinLaw", "payload", "(I)I"⟩ : MethodName)) hown (mvT hZ (hw _ (List.mem_of_getElem? (i := 13) rfl))) (mvT hZ (hw _ (List.mem_of_getElem? (i := 14) rfl))) (mvT hZ (hw _ (List.mem_of_getElem? (i := 15) rfl))) (mvT hZ (hw _ (List.mem_of_getElem? (i := 16) rfl))) (by decide) (backOf (W := 2) (rm2 l Z a0 hw [] (f1 ((56448 : Int32) + (u0 &&& (127 : Int32)))) h0 n0) hZ (hw _ (List.mem_of_getElem? (i := 16) rfl)) (hw _ (List.mem_of_getElem? (i := 15) rfl)) (by decide) (by decide)) (g := (mkF m 82 #[.val (.int u0), .val (.int u1), .val (.int ((56448 : Int32) + (u0 &&& (127 : Int32)))), .val (.int (f1 ((56448 : Int32) + (u0 &&& (127 : Int32)))))] [(.int (f1 ((56448 : Int32) + (u0 &&& (127 : Int32))))), (.int (1 : Int32)), (.int ((56448 : Int32) + (u0 &&& (127 : Int32))))])) rfl (by rw [hml]; rfl) (argsL := [(.int (f1 ((56448 : Int32) + (u0 &&& (127 : Int32)))))]) (rest := [(.int (1 : Int32)), (.int ((56448 : Int32) + (u0 &&& (127 : Int32))))]) (lenOf pd_0 rfl) rfl (by show 2 * 0 + _ ≤ _; exact Nat.le_of_eq rfl) (hb hby at_82) (fun _ _ => ⟨rfl, e34, (by decide : 0 + 0 ≤ _), (by decide : 0 + 0 ≤ _)⟩)
          dsimp only [Pt.U, Pt.locs, Pt.cells, Pt.slots] at X38 l38 y38 z38 st38 hQ38
          subst l38 y38 z38
          obtain ⟨rfl, N38q, e38⟩ := hQ38
          have N38 := Fr.app N34 N38q
          refine Goes.of st38 ?_
          show Goes _ _ _ _ _ _ _ (T38.setTop (mkF m 85 #[.val (.int u0), .val (.int u1), .val (.int ((56448 : Int32) + (u0 &&& (127 : Int32)))), .val (.int (f1 ((56448 : Int32) + (u0 &&& (127 : Int32)))))] [(.int (f2 (f1 ((56448 : Int32) + (u0 &&& (127 : Int32)))))), (.int (1 : Int32)), (.int ((56448 : Int32) + (u0 &&& (127 : Int32))))]))
          refine Goes.of (fun t k => XS.ishl X38.here hx rfl (hb hby at_85) rfl k) ?_
          show Goes _ _ _ _ _ _ _ (T38.setTop (mkF m 86 #[.val (.int u0), .val (.int u1), .val (.int ((56448 : Int32) + (u0 &&& (127 : Int32)))), .val (.int (f1 ((56448 : Int32) + (u0 &&& (127 : Int32)))))] [(.int ((1 : Int32) <<< ((f2 (f1 ((56448 : Int32) + (u0 &&& (127 : Int32))))) &&& 31))), (.int ((56448 : Int32) + (u0 &&& (127 : Int32))))]))
          by_cases hc39 : ((56448 : Int32) + (u0 &&& (127 : Int32))) < ((1 : Int32) <<< ((f2 (f1 ((56448 : Int32) + (u0 &&& (127 : Int32))))) &&& 31))
          · refine Goes.of (fun t k => XS.icmpYes X38.here hx rfl (pc0 := 86) (pc' := 91) rfl (hb hby at_86) rfl (tlt hc39).1 (by decide) (by decide) k) ?_
            show Goes _ _ _ _ _ _ _ (T38.setTop (mkF m 91 #[.val (.int u0), .val (.int u1), .val (.int ((56448 : Int32) + (u0 &&& (127 : Int32)))), .val (.int (f1 ((56448 : Int32) + (u0 &&& (127 : Int32)))))] []))
            refine Goes.of (fun t k => XS.iloadN X38.here hx rfl (hb hby at_91) rfl k) ?_
            show Goes _ _ _ _ _ _ _ (T38.setTop (mkF m 92 #[.val (.int u0), .val (.int u1), .val (.int ((56448 : Int32) + (u0 &&& (127 : Int32)))), .val (.int (f1 ((56448 : Int32) + (u0 &&& (127 : Int32)))))] [(.int (f1 ((56448 : Int32) + (u0 &&& (127 : Int32)))))]))
            refine Goes.of (fun t k => XS.iconst X38.here hx rfl (hb hby at_92) k) ?_
            show Goes _ _ _ _ _ _ _ (T38.setTop (mkF m 93 #[.val (.int u0), .val (.int u1), .val (.int ((56448 : Int32) + (u0 &&& (127 : Int32)))), .val (.int (f1 ((56448 : Int32) + (u0 &&& (127 : Int32)))))] [(.int (1 : Int32)), (.int (f1 ((56448 : Int32) + (u0 &&& (127 : Int32)))))]))
            by_cases hc40 : (1 : Int32) < (f1 ((56448 : Int32) + (u0 &&& (127 : Int32))))
            · refine Goes.of (fun t k => XS.icmpNo X38.here hx rfl (hb hby at_93) rfl (tlt hc40).2.2.2 k) ?_
              show Goes _ _ _ _ _ _ _ (T38.setTop (mkF m 96 #[.val (.int u0), .val (.int u1), .val (.int ((56448 : Int32) + (u0 &&& (127 : Int32)))), .val (.int (f1 ((56448 : Int32) + (u0 &&& (127 : Int32)))))] []))
              refine Goes.of (fun t k => XS.iloadN X38.here hx rfl (hb hby at_96) rfl k) ?_
              show Goes _ _ _ _ _ _ _ (T38.setTop (mkF m 97 #[.val (.int u0), .val (.int u1), .val (.int ((56448 : Int32) + (u0 &&& (127 : Int32)))), .val (.int (f1 ((56448 : Int32) + (u0 &&& (127 : Int32)))))] [(.int ((56448 : Int32) + (u0 &&& (127 : Int32))))]))
              refine Goes.of (fun t k => XS.iconst X38.here hx rfl (hb hby at_97) k) ?_
              show Goes _ _ _ _ _ _ _ (T38.setTop (mkF m 98 #[.val (.int u0), .val (.int u1), .val (.int ((56448 : Int32) + (u0 &&& (127 : Int32)))), .val (.int (f1 ((56448 : Int32) + (u0 &&& (127 : Int32)))))] [(.int (1 : Int32)), (.int ((56448 : Int32) + (u0 &&& (127 : Int32))))]))
              refine Goes.of (fun t k => XS.iloadN X38.here hx rfl (hb hby at_98) rfl k) ?_
              show Goes _ _ _ _ _ _ _ (T38.setTop (mkF m 99 #[.val (.int u0), .val (.int u1), .val (.int ((56448 : Int32) + (u0 &&& (127 : Int32)))), .val (.int (f1 ((56448 : Int32) + (u0 &&& (127 : Int32)))))] [(.int (f1 ((56448 : Int32) + (u0 &&& (127 : Int32))))), (.int (1 : Int32)), (.int ((56448 : Int32) + (u0 &&& (127 : Int32))))]))
              refine Goes.of (fun t k => XS.iconst X38.here hx rfl (hb hby at_99) k) ?_
              show Goes _ _ _ _ _ _ _ (T38.setTop (mkF m 100 #[.val (.int u0), .val (.int u1), .val (.int ((56448 : Int32) + (u0 &&& (127 : Int32)))), .val (.int (f1 ((56448 : Int32) + (u0 &&& (127 : Int32)))))] [(.int (1 : Int32)), (.int (f1 ((56448 : Int32) + (u0 &&& (127 : Int32))))), (.int (1 : Int32)), (.int ((56448 : Int32) + (u0 &&& (127 : Int32))))]))
              refine Goes.of (fun t k => XS.isub X38.here hx rfl (hb hby at_100) rfl k) ?_
              show Goes _ _ _ _ _ _ _ (T38.setTop (mkF m 101 #[.val (.int u0), .val (.int u1), .val (.int ((56448 : Int32) + (u0 &&& (127 : Int32)))), .val (.int (f1 ((56448 : Int32) + (u0 &&& (127 : Int32)))))] [(.int ((f1 ((56448 : Int32) + (u0 &&& (127 : Int32)))) - (1 : Int32))), (.int (1 : Int32)), (.int ((56448 : Int32) + (u0 &&& (127 : Int32))))]))
              obtain ⟨_, _, ⟨T41, L41, k41, n41⟩, -, X41, ⟨Lc41, hQ41, l41, y41, z41⟩, st41⟩ := Jvm.LawKit.callS X38 hx (y := (⟨"com/example/dutiful_logic/dutifullogic/Utf8ReaderLengthPinLaw", "payload", "(I)I"⟩ : MethodName)) hown (mvT hZ (hw _ (List.mem_of_getElem? (i := 13) rfl))) (mvT hZ (hw _ (List.mem_of_getElem? (i := 14) rfl))) (mvT hZ (hw _ (List.mem_of_getElem? (i := 15) rfl))) (mvT hZ (hw _ (List.mem_of_getElem? (i := 16) rfl))) (by decide) (backOf (W := 2) (rm2 l Z a0 hw [] ((f1 ((56448 : Int32) + (u0 &&& (127 : Int32)))) - (1 : Int32)) h0 n0) hZ (hw _ (List.mem_of_getElem? (i := 16) rfl)) (hw _ (List.mem_of_getElem? (i := 15) rfl)) (by decide) (by decide)) (g := (mkF m 101 #[.val (.int u0), .val (.int u1), .val (.int ((56448 : Int32) + (u0 &&& (127 : Int32)))), .val (.int (f1 ((56448 : Int32) + (u0 &&& (127 : Int32)))))] [(.int ((f1 ((56448 : Int32) + (u0 &&& (127 : Int32)))) - (1 : Int32))), (.int (1 : Int32)), (.int ((56448 : Int32) + (u0 &&& (127 : Int32))))])) rfl (by rw [hml]; rfl) (argsL := [(.int ((f1 ((56448 : Int32) + (u0 &&& (127 : Int32)))) - (1 : Int32)))]) (rest := [(.int (1 : Int32)), (.int ((56448 : Int32) + (u0 &&& (127 : Int32))))]) (lenOf pd_0 rfl) rfl (by show 2 * 0 + _ ≤ _; exact Nat.le_of_eq rfl) (hb hby at_101) (fun _ _ => ⟨rfl, e38, (by decide : 0 + 0 ≤ _), (by decide : 0 + 0 ≤ _)⟩)
              dsimp only [Pt.U, Pt.locs, Pt.cells, Pt.slots] at X41 l41 y41 z41 st41 hQ41
              subst l41 y41 z41
              obtain ⟨rfl, N41q, e41⟩ := hQ41
              have N41 := Fr.app N38 N41q
              refine Goes.of st41 ?_
              show Goes _ _ _ _ _ _ _ (T41.setTop (mkF m 104 #[.val (.int u0), .val (.int u1), .val (.int ((56448 : Int32) + (u0 &&& (127 : Int32)))), .val (.int (f1 ((56448 : Int32) + (u0 &&& (127 : Int32)))))] [(.int (f2 ((f1 ((56448 : Int32) + (u0 &&& (127 : Int32)))) - (1 : Int32)))), (.int (1 : Int32)), (.int ((56448 : Int32) + (u0 &&& (127 : Int32))))]))
              refine Goes.of (fun t k => XS.ishl X41.here hx rfl (hb hby at_104) rfl k) ?_
              show Goes _ _ _ _ _ _ _ (T41.setTop (mkF m 105 #[.val (.int u0), .val (.int u1), .val (.int ((56448 : Int32) + (u0 &&& (127 : Int32)))), .val (.int (f1 ((56448 : Int32) + (u0 &&& (127 : Int32)))))] [(.int ((1 : Int32) <<< ((f2 ((f1 ((56448 : Int32) + (u0 &&& (127 : Int32)))) - (1 : Int32))) &&& 31))), (.int ((56448 : Int32) + (u0 &&& (127 : Int32))))]))
              by_cases hc42 : ((56448 : Int32) + (u0 &&& (127 : Int32))) < ((1 : Int32) <<< ((f2 ((f1 ((56448 : Int32) + (u0 &&& (127 : Int32)))) - (1 : Int32))) &&& 31))
              · refine Goes.of (fun t k => XS.icmpNo X41.here hx rfl (hb hby at_105) rfl (tlt hc42).2.1 k) ?_
                show Goes _ _ _ _ _ _ _ (T41.setTop (mkF m 108 #[.val (.int u0), .val (.int u1), .val (.int ((56448 : Int32) + (u0 &&& (127 : Int32)))), .val (.int (f1 ((56448 : Int32) + (u0 &&& (127 : Int32)))))] []))
                refine Goes.of (fun t k => XS.iconst X41.here hx rfl (hb hby at_108) k) ?_
                show Goes _ _ _ _ _ _ _ (T41.setTop (mkF m 109 #[.val (.int u0), .val (.int u1), .val (.int ((56448 : Int32) + (u0 &&& (127 : Int32)))), .val (.int (f1 ((56448 : Int32) + (u0 &&& (127 : Int32)))))] [(.int (0 : Int32))]))
                exact Goes.fin X41 hlk (v := some (.int (0 : Int32))) (fun h => by rw [Bd.returns] at h; cases h) (fun fs hr => retN X41 hx (t := .boolean) Bd.returns (by simp) (hb hby at_109) hr) ⟨congrArg (fun z => some (Value.int z)) (by rw [f0, if_neg hc13, if_pos hc35, if_neg hc36, if_neg hc37, if_pos hc39, if_pos hc40, if_pos hc42] : (0 : Int32) = f0 u0 u1), N41, e41⟩ (by decide) (by decide)
              · refine Goes.of (fun t k => XS.icmpYes X41.here hx rfl (pc0 := 105) (pc' := 110) rfl (hb hby at_105) rfl (flt hc42).2.1 (by decide) (by decide) k) ?_
                show Goes _ _ _ _ _ _ _ (T41.setTop (mkF m 110 #[.val (.int u0), .val (.int u1), .val (.int ((56448 : Int32) + (u0 &&& (127 : Int32)))), .val (.int (f1 ((56448 : Int32) + (u0 &&& (127 : Int32)))))] []))
                refine Goes.of (fun t k => XS.iconst X41.here hx rfl (hb hby at_110) k) ?_
                show Goes _ _ _ _ _ _ _ (T41.setTop (mkF m 111 #[.val (.int u0), .val (.int u1), .val (.int ((56448 : Int32) + (u0 &&& (127 : Int32)))), .val (.int (f1 ((56448 : Int32) + (u0 &&& (127 : Int32)))))] [(.int (1 : Int32))]))
                exact Goes.fin X41 hlk (v := some (.int (1 : Int32))) (fun h => by rw [Bd.returns] at h; cases h) (fun fs hr => retN X41 hx (t := .boolean) Bd.returns (by simp) (hb hby at_111) hr) ⟨congrArg (fun z => some (Value.int z)) (by rw [f0, if_neg hc13, if_pos hc35, if_neg hc36, if_neg hc37, if_pos hc39, if_pos hc40, if_neg hc42] : (1 : Int32) = f0 u0 u1), N41, e41⟩ (by decide) (by decide)
            · refine Goes.of (fun t k => XS.icmpYes X38.here hx rfl (pc0 := 93) (pc' := 110) rfl (hb hby at_93) rfl (flt hc40).2.2.2 (by decide) (by decide) k) ?_
              show Goes _ _ _ _ _ _ _ (T38.setTop (mkF m 110 #[.val (.int u0), .val (.int u1), .val (.int ((56448 : Int32) + (u0 &&& (127 : Int32)))), .val (.int (f1 ((56448 : Int32) + (u0 &&& (127 : Int32)))))] []))
              refine Goes.of (fun t k => XS.iconst X38.here hx rfl (hb hby at_110) k) ?_
              show Goes _ _ _ _ _ _ _ (T38.setTop (mkF m 111 #[.val (.int u0), .val (.int u1), .val (.int ((56448 : Int32) + (u0 &&& (127 : Int32)))), .val (.int (f1 ((56448 : Int32) + (u0 &&& (127 : Int32)))))] [(.int (1 : Int32))]))
              exact Goes.fin X38 hlk (v := some (.int (1 : Int32))) (fun h => by rw [Bd.returns] at h; cases h) (fun fs hr => retN X38 hx (t := .boolean) Bd.returns (by simp) (hb hby at_111) hr) ⟨congrArg (fun z => some (Value.int z)) (by rw [f0, if_neg hc13, if_pos hc35, if_neg hc36, if_neg hc37, if_pos hc39, if_neg hc40] : (1 : Int32) = f0 u0 u1), N38, e38⟩ (by decide) (by decide)
          · refine Goes.of (fun t k => XS.icmpNo X38.here hx rfl (hb hby at_86) rfl (flt hc39).1 k) ?_
            show Goes _ _ _ _ _ _ _ (T38.setTop (mkF m 89 #[.val (.int u0), .val (.int u1), .val (.int ((56448 : Int32) + (u0 &&& (127 : Int32)))), .val (.int (f1 ((56448 : Int32) + (u0 &&& (127 : Int32)))))] []))
            refine Goes.of (fun t k => XS.iconst X38.here hx rfl (hb hby at_89) k) ?_
            show Goes _ _ _ _ _ _ _ (T38.setTop (mkF m 90 #[.val (.int u0), .val (.int u1), .val (.int ((56448 : Int32) + (u0 &&& (127 : Int32)))), .val (.int (f1 ((56448 : Int32) + (u0 &&& (127 : Int32)))))] [(.int (0 : Int32))]))
            exact Goes.fin X38 hlk (v := some (.int (0 : Int32))) (fun h => by rw [Bd.returns] at h; cases h) (fun fs hr => retN X38 hx (t := .boolean) Bd.returns (by simp) (hb hby at_90) hr) ⟨congrArg (fun z => some (Value.int z)) (by rw [f0, if_neg hc13, if_pos hc35, if_neg hc36, if_neg hc37, if_neg hc39] : (0 : Int32) = f0 u0 u1), N38, e38⟩ (by decide) (by decide)
    · refine Goes.of (fun t k => XS.icmpNo X34.here hx rfl (hb hby at_33) rfl (flt hc35).1 k) ?_
      show Goes _ _ _ _ _ _ _ (T34.setTop (mkF m 36 #[.val (.int u0), .val (.int u1), .val (.int ((56448 : Int32) + (u0 &&& (127 : Int32)))), .val (.int (f1 ((56448 : Int32) + (u0 &&& (127 : Int32)))))] []))
      refine Goes.of (fun t k => XS.iloadN X34.here hx rfl (hb hby at_36) rfl k) ?_
      show Goes _ _ _ _ _ _ _ (T34.setTop (mkF m 37 #[.val (.int u0), .val (.int u1), .val (.int ((56448 : Int32) + (u0 &&& (127 : Int32)))), .val (.int (f1 ((56448 : Int32) + (u0 &&& (127 : Int32)))))] [(.int ((56448 : Int32) + (u0 &&& (127 : Int32))))]))
      refine Goes.of (fun t k => X34.ldcInt hx hown (mvT hZ (hw _ (List.mem_of_getElem? (i := 8) rfl))) (g := (mkF m 37 #[.val (.int u0), .val (.int u1), .val (.int ((56448 : Int32) + (u0 &&& (127 : Int32)))), .val (.int (f1 ((56448 : Int32) + (u0 &&& (127 : Int32)))))] [(.int ((56448 : Int32) + (u0 &&& (127 : Int32))))])) rfl (hb hby at_37) t k) ?_
      show Goes _ _ _ _ _ _ _ (T34.setTop (mkF m 39 #[.val (.int u0), .val (.int u1), .val (.int ((56448 : Int32) + (u0 &&& (127 : Int32)))), .val (.int (f1 ((56448 : Int32) + (u0 &&& (127 : Int32)))))] [(.int (57343 : Int32)), (.int ((56448 : Int32) + (u0 &&& (127 : Int32))))]))
      by_cases hc43 : (57343 : Int32) < ((56448 : Int32) + (u0 &&& (127 : Int32)))
      · refine Goes.of (fun t k => XS.icmpYes X34.here hx rfl (pc0 := 39) (pc' := 67) rfl (hb hby at_39) rfl (tlt hc43).2.2.1 (by decide) (by decide) k) ?_
        show Goes _ _ _ _ _ _ _ (T34.setTop (mkF m 67 #[.val (.int u0), .val (.int u1), .val (.int ((56448 : Int32) + (u0 &&& (127 : Int32)))), .val (.int (f1 ((56448 : Int32) + (u0 &&& (127 : Int32)))))] []))
        refine Goes.of (fun t k => XS.iloadN X34.here hx rfl (hb hby at_67) rfl k) ?_
        show Goes _ _ _ _ _ _ _ (T34.setTop (mkF m 68 #[.val (.int u0), .val (.int u1), .val (.int ((56448 : Int32) + (u0 &&& (127 : Int32)))), .val (.int (f1 ((56448 : Int32) + (u0 &&& (127 : Int32)))))] [(.int (f1 ((56448 : Int32) + (u0 &&& (127 : Int32)))))]))
        refine Goes.of (fun t k => XS.iconst X34.here hx rfl (hb hby at_68) k) ?_
        show Goes _ _ _ _ _ _ _ (T34.setTop (mkF m 69 #[.val (.int u0), .val (.int u1), .val (.int ((56448 : Int32) + (u0 &&& (127 : Int32)))), .val (.int (f1 ((56448 : Int32) + (u0 &&& (127 : Int32)))))] [(.int (1 : Int32)), (.int (f1 ((56448 : Int32) + (u0 &&& (127 : Int32)))))]))
        by_cases hc44 : (f1 ((56448 : Int32) + (u0 &&& (127 : Int32)))) < (1 : Int32)
        · refine Goes.of (fun t k => XS.icmpYes X34.here hx rfl (pc0 := 69) (pc' := 77) rfl (hb hby at_69) rfl (tlt hc44).1 (by decide) (by decide) k) ?_
          show Goes _ _ _ _ _ _ _ (T34.setTop (mkF m 77 #[.val (.int u0), .val (.int u1), .val (.int ((56448 : Int32) + (u0 &&& (127 : Int32)))), .val (.int (f1 ((56448 : Int32) + (u0 &&& (127 : Int32)))))] []))
          refine Goes.of (fun t k => XS.iconst X34.here hx rfl (hb hby at_77) k) ?_
          show Goes _ _ _ _ _ _ _ (T34.setTop (mkF m 78 #[.val (.int u0), .val (.int u1), .val (.int ((56448 : Int32) + (u0 &&& (127 : Int32)))), .val (.int (f1 ((56448 : Int32) + (u0 &&& (127 : Int32)))))] [(.int (0 : Int32))]))
          exact Goes.fin X34 hlk (v := some (.int (0 : Int32))) (fun h => by rw [Bd.returns] at h; cases h) (fun fs hr => retN X34 hx (t := .boolean) Bd.returns (by simp) (hb hby at_78) hr) ⟨congrArg (fun z => some (Value.int z)) (by rw [f0, if_neg hc13, if_neg hc35, if_pos hc43, if_pos hc44] : (0 : Int32) = f0 u0 u1), N34, e34⟩ (by decide) (by decide)
        · refine Goes.of (fun t k => XS.icmpNo X34.here hx rfl (hb hby at_69) rfl (flt hc44).1 k) ?_
          show Goes _ _ _ _ _ _ _ (T34.setTop (mkF m 72 #[.val (.int u0), .val (.int u1), .val (.int ((56448 : Int32) + (u0 &&& (127 : Int32)))), .val (.int (f1 ((56448 : Int32) + (u0 &&& (127 : Int32)))))] []))
          refine Goes.of (fun t k => XS.iloadN X34.here hx rfl (hb hby at_72) rfl k) ?_
          show Goes _ _ _ _ _ _ _ (T34.setTop (mkF m 73 #[.val (.int u0), .val (.int u1), .val (.int ((56448 : Int32) + (u0 &&& (127 : Int32)))), .val (.int (f1 ((56448 : Int32) + (u0 &&& (127 : Int32)))))] [(.int (f1 ((56448 : Int32) + (u0 &&& (127 : Int32)))))]))
          refine Goes.of (fun t k => XS.iconst X34.here hx rfl (hb hby at_73) k) ?_
          show Goes _ _ _ _ _ _ _ (T34.setTop (mkF m 74 #[.val (.int u0), .val (.int u1), .val (.int ((56448 : Int32) + (u0 &&& (127 : Int32)))), .val (.int (f1 ((56448 : Int32) + (u0 &&& (127 : Int32)))))] [(.int (4 : Int32)), (.int (f1 ((56448 : Int32) + (u0 &&& (127 : Int32)))))]))
          by_cases hc45 : (4 : Int32) < (f1 ((56448 : Int32) + (u0 &&& (127 : Int32))))
          · refine Goes.of (fun t k => XS.icmpNo X34.here hx rfl (hb hby at_74) rfl (tlt hc45).2.2.2 k) ?_
            show Goes _ _ _ _ _ _ _ (T34.setTop (mkF m 77 #[.val (.int u0), .val (.int u1), .val (.int ((56448 : Int32) + (u0 &&& (127 : Int32)))), .val (.int (f1 ((56448 : Int32) + (u0 &&& (127 : Int32)))))] []))
            refine Goes.of (fun t k => XS.iconst X34.here hx rfl (hb hby at_77) k) ?_
            show Goes _ _ _ _ _ _ _ (T34.setTop (mkF m 78 #[.val (.int u0), .val (.int u1), .val (.int ((56448 : Int32) + (u0 &&& (127 : Int32)))), .val (.int (f1 ((56448 : Int32) + (u0 &&& (127 : Int32)))))] [(.int (0 : Int32))]))
            exact Goes.fin X34 hlk (v := some (.int (0 : Int32))) (fun h => by rw [Bd.returns] at h; cases h) (fun fs hr => retN X34 hx (t := .boolean) Bd.returns (by simp) (hb hby at_78) hr) ⟨congrArg (fun z => some (Value.int z)) (by rw [f0, if_neg hc13, if_neg hc35, if_pos hc43, if_neg hc44, if_pos hc45] : (0 : Int32) = f0 u0 u1), N34, e34⟩ (by decide) (by decide)
          · refine Goes.of (fun t k => XS.icmpYes X34.here hx rfl (pc0 := 74) (pc' := 79) rfl (hb hby at_74) rfl (flt hc45).2.2.2 (by decide) (by decide) k) ?_
            show Goes _ _ _ _ _ _ _ (T34.setTop (mkF m 79 #[.val (.int u0), .val (.int u1), .val (.int ((56448 : Int32) + (u0 &&& (127 : Int32)))), .val (.int (f1 ((56448 : Int32) + (u0 &&& (127 : Int32)))))] []))
            refine Goes.of (fun t k => XS.iloadN X34.here hx rfl (hb hby at_79) rfl k) ?_
            show Goes _ _ _ _ _ _ _ (T34.setTop (mkF m 80 #[.val (.int u0), .val (.int u1), .val (.int ((56448 : Int32) + (u0 &&& (127 : Int32)))), .val (.int (f1 ((56448 : Int32) + (u0 &&& (127 : Int32)))))] [(.int ((56448 : Int32) + (u0 &&& (127 : Int32))))]))
            refine Goes.of (fun t k => XS.iconst X34.here hx rfl (hb hby at_80) k) ?_
            show Goes _ _ _ _ _ _ _ (T34.setTop (mkF m 81 #[.val (.int u0), .val (.int u1), .val (.int ((56448 : Int32) + (u0 &&& (127 : Int32)))), .val (.int (f1 ((56448 : Int32) + (u0 &&& (127 : Int32)))))] [(.int (1 : Int32)), (.int ((56448 : Int32) + (u0 &&& (127 : Int32))))]))
            refine Goes.of (fun t k => XS.iloadN X34.here hx rfl (hb hby at_81) rfl k) ?_
            show Goes _ _ _ _ _ _ _ (T34.setTop (mkF m 82 #[.val (.int u0), .val (.int u1), .val (.int ((56448 : Int32) + (u0 &&& (127 : Int32)))), .val (.int (f1 ((56448 : Int32) + (u0 &&& (127 : Int32)))))] [(.int (f1 ((56448 : Int32) + (u0 &&& (127 : Int32))))), (.int (1 : Int32)), (.int ((56448 : Int32) + (u0 &&& (127 : Int32))))]))
            obtain ⟨_, _, ⟨T46, L46, k46, n46⟩, -, X46, ⟨Lc46, hQ46, l46, y46, z46⟩, st46⟩ := Jvm.LawKit.callS X34 hx (y := (⟨"com/example/dutiful_logic/dutifullogic/Utf8ReaderLengthPinLaw", "payload", "(I)I"⟩ : MethodName)) hown (mvT hZ (hw _ (List.mem_of_getElem? (i := 13) rfl))) (mvT hZ (hw _ (List.mem_of_getElem? (i := 14) rfl))) (mvT hZ (hw _ (List.mem_of_getElem? (i := 15) rfl))) (mvT hZ (hw _ (List.mem_of_getElem? (i := 16) rfl))) (by decide) (backOf (W := 2) (rm2 l Z a0 hw [] (f1 ((56448 : Int32) + (u0 &&& (127 : Int32)))) h0 n0) hZ (hw _ (List.mem_of_getElem? (i := 16) rfl)) (hw _ (List.mem_of_getElem? (i := 15) rfl)) (by decide) (by decide)) (g := (mkF m 82 #[.val (.int u0), .val (.int u1), .val (.int ((56448 : Int32) + (u0 &&& (127 : Int32)))), .val (.int (f1 ((56448 : Int32) + (u0 &&& (127 : Int32)))))] [(.int (f1 ((56448 : Int32) + (u0 &&& (127 : Int32))))), (.int (1 : Int32)), (.int ((56448 : Int32) + (u0 &&& (127 : Int32))))])) rfl (by rw [hml]; rfl) (argsL := [(.int (f1 ((56448 : Int32) + (u0 &&& (127 : Int32)))))]) (rest := [(.int (1 : Int32)), (.int ((56448 : Int32) + (u0 &&& (127 : Int32))))]) (lenOf pd_0 rfl) rfl (by show 2 * 0 + _ ≤ _; exact Nat.le_of_eq rfl) (hb hby at_82) (fun _ _ => ⟨rfl, e34, (by decide : 0 + 0 ≤ _), (by decide : 0 + 0 ≤ _)⟩)
            dsimp only [Pt.U, Pt.locs, Pt.cells, Pt.slots] at X46 l46 y46 z46 st46 hQ46
            subst l46 y46 z46
            obtain ⟨rfl, N46q, e46⟩ := hQ46
            have N46 := Fr.app N34 N46q
            refine Goes.of st46 ?_
            show Goes _ _ _ _ _ _ _ (T46.setTop (mkF m 85 #[.val (.int u0), .val (.int u1), .val (.int ((56448 : Int32) + (u0 &&& (127 : Int32)))), .val (.int (f1 ((56448 : Int32) + (u0 &&& (127 : Int32)))))] [(.int (f2 (f1 ((56448 : Int32) + (u0 &&& (127 : Int32)))))), (.int (1 : Int32)), (.int ((56448 : Int32) + (u0 &&& (127 : Int32))))]))
            refine Goes.of (fun t k => XS.ishl X46.here hx rfl (hb hby at_85) rfl k) ?_
            show Goes _ _ _ _ _ _ _ (T46.setTop (mkF m 86 #[.val (.int u0), .val (.int u1), .val (.int ((56448 : Int32) + (u0 &&& (127 : Int32)))), .val (.int (f1 ((56448 : Int32) + (u0 &&& (127 : Int32)))))] [(.int ((1 : Int32) <<< ((f2 (f1 ((56448 : Int32) + (u0 &&& (127 : Int32))))) &&& 31))), (.int ((56448 : Int32) + (u0 &&& (127 : Int32))))]))
            by_cases hc47 : ((56448 : Int32) + (u0 &&& (127 : Int32))) < ((1 : Int32) <<< ((f2 (f1 ((56448 : Int32) + (u0 &&& (127 : Int32))))) &&& 31))
            · refine Goes.of (fun t k => XS.icmpYes X46.here hx rfl (pc0 := 86) (pc' := 91) rfl (hb hby at_86) rfl (tlt hc47).1 (by decide) (by decide) k) ?_
              show Goes _ _ _ _ _ _ _ (T46.setTop (mkF m 91 #[.val (.int u0), .val (.int u1), .val (.int ((56448 : Int32) + (u0 &&& (127 : Int32)))), .val (.int (f1 ((56448 : Int32) + (u0 &&& (127 : Int32)))))] []))
              refine Goes.of (fun t k => XS.iloadN X46.here hx rfl (hb hby at_91) rfl k) ?_
              show Goes _ _ _ _ _ _ _ (T46.setTop (mkF m 92 #[.val (.int u0), .val (.int u1), .val (.int ((56448 : Int32) + (u0 &&& (127 : Int32)))), .val (.int (f1 ((56448 : Int32) + (u0 &&& (127 : Int32)))))] [(.int (f1 ((56448 : Int32) + (u0 &&& (127 : Int32)))))]))
              refine Goes.of (fun t k => XS.iconst X46.here hx rfl (hb hby at_92) k) ?_
              show Goes _ _ _ _ _ _ _ (T46.setTop (mkF m 93 #[.val (.int u0), .val (.int u1), .val (.int ((56448 : Int32) + (u0 &&& (127 : Int32)))), .val (.int (f1 ((56448 : Int32) + (u0 &&& (127 : Int32)))))] [(.int (1 : Int32)), (.int (f1 ((56448 : Int32) + (u0 &&& (127 : Int32)))))]))
              by_cases hc48 : (1 : Int32) < (f1 ((56448 : Int32) + (u0 &&& (127 : Int32))))
              · refine Goes.of (fun t k => XS.icmpNo X46.here hx rfl (hb hby at_93) rfl (tlt hc48).2.2.2 k) ?_
                show Goes _ _ _ _ _ _ _ (T46.setTop (mkF m 96 #[.val (.int u0), .val (.int u1), .val (.int ((56448 : Int32) + (u0 &&& (127 : Int32)))), .val (.int (f1 ((56448 : Int32) + (u0 &&& (127 : Int32)))))] []))
                refine Goes.of (fun t k => XS.iloadN X46.here hx rfl (hb hby at_96) rfl k) ?_
                show Goes _ _ _ _ _ _ _ (T46.setTop (mkF m 97 #[.val (.int u0), .val (.int u1), .val (.int ((56448 : Int32) + (u0 &&& (127 : Int32)))), .val (.int (f1 ((56448 : Int32) + (u0 &&& (127 : Int32)))))] [(.int ((56448 : Int32) + (u0 &&& (127 : Int32))))]))
                refine Goes.of (fun t k => XS.iconst X46.here hx rfl (hb hby at_97) k) ?_
                show Goes _ _ _ _ _ _ _ (T46.setTop (mkF m 98 #[.val (.int u0), .val (.int u1), .val (.int ((56448 : Int32) + (u0 &&& (127 : Int32)))), .val (.int (f1 ((56448 : Int32) + (u0 &&& (127 : Int32)))))] [(.int (1 : Int32)), (.int ((56448 : Int32) + (u0 &&& (127 : Int32))))]))
                refine Goes.of (fun t k => XS.iloadN X46.here hx rfl (hb hby at_98) rfl k) ?_
                show Goes _ _ _ _ _ _ _ (T46.setTop (mkF m 99 #[.val (.int u0), .val (.int u1), .val (.int ((56448 : Int32) + (u0 &&& (127 : Int32)))), .val (.int (f1 ((56448 : Int32) + (u0 &&& (127 : Int32)))))] [(.int (f1 ((56448 : Int32) + (u0 &&& (127 : Int32))))), (.int (1 : Int32)), (.int ((56448 : Int32) + (u0 &&& (127 : Int32))))]))
                refine Goes.of (fun t k => XS.iconst X46.here hx rfl (hb hby at_99) k) ?_
                show Goes _ _ _ _ _ _ _ (T46.setTop (mkF m 100 #[.val (.int u0), .val (.int u1), .val (.int ((56448 : Int32) + (u0 &&& (127 : Int32)))), .val (.int (f1 ((56448 : Int32) + (u0 &&& (127 : Int32)))))] [(.int (1 : Int32)), (.int (f1 ((56448 : Int32) + (u0 &&& (127 : Int32))))), (.int (1 : Int32)), (.int ((56448 : Int32) + (u0 &&& (127 : Int32))))]))
                refine Goes.of (fun t k => XS.isub X46.here hx rfl (hb hby at_100) rfl k) ?_
                show Goes _ _ _ _ _ _ _ (T46.setTop (mkF m 101 #[.val (.int u0), .val (.int u1), .val (.int ((56448 : Int32) + (u0 &&& (127 : Int32)))), .val (.int (f1 ((56448 : Int32) + (u0 &&& (127 : Int32)))))] [(.int ((f1 ((56448 : Int32) + (u0 &&& (127 : Int32)))) - (1 : Int32))), (.int (1 : Int32)), (.int ((56448 : Int32) + (u0 &&& (127 : Int32))))]))
                obtain ⟨_, _, ⟨T49, L49, k49, n49⟩, -, X49, ⟨Lc49, hQ49, l49, y49, z49⟩, st49⟩ := Jvm.LawKit.callS X46 hx (y := (⟨"com/example/dutiful_logic/dutifullogic/Utf8ReaderLengthPinLaw", "payload", "(I)I"⟩ : MethodName)) hown (mvT hZ (hw _ (List.mem_of_getElem? (i := 13) rfl))) (mvT hZ (hw _ (List.mem_of_getElem? (i := 14) rfl))) (mvT hZ (hw _ (List.mem_of_getElem? (i := 15) rfl))) (mvT hZ (hw _ (List.mem_of_getElem? (i := 16) rfl))) (by decide) (backOf (W := 2) (rm2 l Z a0 hw [] ((f1 ((56448 : Int32) + (u0 &&& (127 : Int32)))) - (1 : Int32)) h0 n0) hZ (hw _ (List.mem_of_getElem? (i := 16) rfl)) (hw _ (List.mem_of_getElem? (i := 15) rfl)) (by decide) (by decide)) (g := (mkF m 101 #[.val (.int u0), .val (.int u1), .val (.int ((56448 : Int32) + (u0 &&& (127 : Int32)))), .val (.int (f1 ((56448 : Int32) + (u0 &&& (127 : Int32)))))] [(.int ((f1 ((56448 : Int32) + (u0 &&& (127 : Int32)))) - (1 : Int32))), (.int (1 : Int32)), (.int ((56448 : Int32) + (u0 &&& (127 : Int32))))])) rfl (by rw [hml]; rfl) (argsL := [(.int ((f1 ((56448 : Int32) + (u0 &&& (127 : Int32)))) - (1 : Int32)))]) (rest := [(.int (1 : Int32)), (.int ((56448 : Int32) + (u0 &&& (127 : Int32))))]) (lenOf pd_0 rfl) rfl (by show 2 * 0 + _ ≤ _; exact Nat.le_of_eq rfl) (hb hby at_101) (fun _ _ => ⟨rfl, e46, (by decide : 0 + 0 ≤ _), (by decide : 0 + 0 ≤ _)⟩)
                dsimp only [Pt.U, Pt.locs, Pt.cells, Pt.slots] at X49 l49 y49 z49 st49 hQ49
                subst l49 y49 z49
                obtain ⟨rfl, N49q, e49⟩ := hQ49
                have N49 := Fr.app N46 N49q
                refine Goes.of st49 ?_
                show Goes _ _ _ _ _ _ _ (T49.setTop (mkF m 104 #[.val (.int u0), .val (.int u1), .val (.int ((56448 : Int32) + (u0 &&& (127 : Int32)))), .val (.int (f1 ((56448 : Int32) + (u0 &&& (127 : Int32)))))] [(.int (f2 ((f1 ((56448 : Int32) + (u0 &&& (127 : Int32)))) - (1 : Int32)))), (.int (1 : Int32)), (.int ((56448 : Int32) + (u0 &&& (127 : Int32))))]))
                refine Goes.of (fun t k => XS.ishl X49.here hx rfl (hb hby at_104) rfl k) ?_
                show Goes _ _ _ _ _ _ _ (T49.setTop (mkF m 105 #[.val (.int u0), .val (.int u1), .val (.int ((56448 : Int32) + (u0 &&& (127 : Int32)))), .val (.int (f1 ((56448 : Int32) + (u0 &&& (127 : Int32)))))] [(.int ((1 : Int32) <<< ((f2 ((f1 ((56448 : Int32) + (u0 &&& (127 : Int32)))) - (1 : Int32))) &&& 31))), (.int ((56448 : Int32) + (u0 &&& (127 : Int32))))]))
                by_cases hc50 : ((56448 : Int32) + (u0 &&& (127 : Int32))) < ((1 : Int32) <<< ((f2 ((f1 ((56448 : Int32) + (u0 &&& (127 : Int32)))) - (1 : Int32))) &&& 31))
                · refine Goes.of (fun t k => XS.icmpNo X49.here hx rfl (hb hby at_105) rfl (tlt hc50).2.1 k) ?_
                  show Goes _ _ _ _ _ _ _ (T49.setTop (mkF m 108 #[.val (.int u0), .val (.int u1), .val (.int ((56448 : Int32) + (u0 &&& (127 : Int32)))), .val (.int (f1 ((56448 : Int32) + (u0 &&& (127 : Int32)))))] []))
                  refine Goes.of (fun t k => XS.iconst X49.here hx rfl (hb hby at_108) k) ?_
                  show Goes _ _ _ _ _ _ _ (T49.setTop (mkF m 109 #[.val (.int u0), .val (.int u1), .val (.int ((56448 : Int32) + (u0 &&& (127 : Int32)))), .val (.int (f1 ((56448 : Int32) + (u0 &&& (127 : Int32)))))] [(.int (0 : Int32))]))
                  exact Goes.fin X49 hlk (v := some (.int (0 : Int32))) (fun h => by rw [Bd.returns] at h; cases h) (fun fs hr => retN X49 hx (t := .boolean) Bd.returns (by simp) (hb hby at_109) hr) ⟨congrArg (fun z => some (Value.int z)) (by rw [f0, if_neg hc13, if_neg hc35, if_pos hc43, if_neg hc44, if_neg hc45, if_pos hc47, if_pos hc48, if_pos hc50] : (0 : Int32) = f0 u0 u1), N49, e49⟩ (by decide) (by decide)
                · refine Goes.of (fun t k => XS.icmpYes X49.here hx rfl (pc0 := 105) (pc' := 110) rfl (hb hby at_105) rfl (flt hc50).2.1 (by decide) (by decide) k) ?_
                  show Goes _ _ _ _ _ _ _ (T49.setTop (mkF m 110 #[.val (.int u0), .val (.int u1), .val (.int ((56448 : Int32) + (u0 &&& (127 : Int32)))), .val (.int (f1 ((56448 : Int32) + (u0 &&& (127 : Int32)))))] []))
                  refine Goes.of (fun t k => XS.iconst X49.here hx rfl (hb hby at_110) k) ?_
                  show Goes _ _ _ _ _ _ _ (T49.setTop (mkF m 111 #[.val (.int u0), .val (.int u1), .val (.int ((56448 : Int32) + (u0 &&& (127 : Int32)))), .val (.int (f1 ((56448 : Int32) + (u0 &&& (127 : Int32)))))] [(.int (1 : Int32))]))
                  exact Goes.fin X49 hlk (v := some (.int (1 : Int32))) (fun h => by rw [Bd.returns] at h; cases h) (fun fs hr => retN X49 hx (t := .boolean) Bd.returns (by simp) (hb hby at_111) hr) ⟨congrArg (fun z => some (Value.int z)) (by rw [f0, if_neg hc13, if_neg hc35, if_pos hc43, if_neg hc44, if_neg hc45, if_pos hc47, if_pos hc48, if_neg hc50] : (1 : Int32) = f0 u0 u1), N49, e49⟩ (by decide) (by decide)
              · refine Goes.of (fun t k => XS.icmpYes X46.here hx rfl (pc0 := 93) (pc' := 110) rfl (hb hby at_93) rfl (flt hc48).2.2.2 (by decide) (by decide) k) ?_
                show Goes _ _ _ _ _ _ _ (T46.setTop (mkF m 110 #[.val (.int u0), .val (.int u1), .val (.int ((56448 : Int32) + (u0 &&& (127 : Int32)))), .val (.int (f1 ((56448 : Int32) + (u0 &&& (127 : Int32)))))] []))
                refine Goes.of (fun t k => XS.iconst X46.here hx rfl (hb hby at_110) k) ?_
                show Goes _ _ _ _ _ _ _ (T46.setTop (mkF m 111 #[.val (.int u0), .val (.int u1), .val (.int ((56448 : Int32) + (u0 &&& (127 : Int32)))), .val (.int (f1 ((56448 : Int32) + (u0 &&& (127 : Int32)))))] [(.int (1 : Int32))]))
                exact Goes.fin X46 hlk (v := some (.int (1 : Int32))) (fun h => by rw [Bd.returns] at h; cases h) (fun fs hr => retN X46 hx (t := .boolean) Bd.returns (by simp) (hb hby at_111) hr) ⟨congrArg (fun z => some (Value.int z)) (by rw [f0, if_neg hc13, if_neg hc35, if_pos hc43, if_neg hc44, if_neg hc45, if_pos hc47, if_neg hc48] : (1 : Int32) = f0 u0 u1), N46, e46⟩ (by decide) (by decide)
            · refine Goes.of (fun t k => XS.icmpNo X46.here hx rfl (hb hby at_86) rfl (flt hc47).1 k) ?_
              show Goes _ _ _ _ _ _ _ (T46.setTop (mkF m 89 #[.val (.int u0), .val (.int u1), .val (.int ((56448 : Int32) + (u0 &&& (127 : Int32)))), .val (.int (f1 ((56448 : Int32) + (u0 &&& (127 : Int32)))))] []))
              refine Goes.of (fun t k => XS.iconst X46.here hx rfl (hb hby at_89) k) ?_
              show Goes _ _ _ _ _ _ _ (T46.setTop (mkF m 90 #[.val (.int u0), .val (.int u1), .val (.int ((56448 : Int32) + (u0 &&& (127 : Int32)))), .val (.int (f1 ((56448 : Int32) + (u0 &&& (127 : Int32)))))] [(.int (0 : Int32))]))
              exact Goes.fin X46 hlk (v := some (.int (0 : Int32))) (fun h => by rw [Bd.returns] at h; cases h) (fun fs hr => retN X46 hx (t := .boolean) Bd.returns (by simp) (hb hby at_90) hr) ⟨congrArg (fun z => some (Value.int z)) (by rw [f0, if_neg hc13, if_neg hc35, if_pos hc43, if_neg hc44, if_neg hc45, if_neg hc47] : (0 : Int32) = f0 u0 u1), N46, e46⟩ (by decide) (by decide)
      · refine Goes.of (fun t k => XS.icmpNo X34.here hx rfl (hb hby at_39) rfl (flt hc43).2.2.1 k) ?_
        show Goes _ _ _ _ _ _ _ (T34.setTop (mkF m 42 #[.val (.int u0), .val (.int u1), .val (.int ((56448 : Int32) + (u0 &&& (127 : Int32)))), .val (.int (f1 ((56448 : Int32) + (u0 &&& (127 : Int32)))))] []))
        refine Goes.of (fun t k => XS.iloadN X34.here hx rfl (hb hby at_42) rfl k) ?_
        show Goes _ _ _ _ _ _ _ (T34.setTop (mkF m 43 #[.val (.int u0), .val (.int u1), .val (.int ((56448 : Int32) + (u0 &&& (127 : Int32)))), .val (.int (f1 ((56448 : Int32) + (u0 &&& (127 : Int32)))))] [(.int ((56448 : Int32) + (u0 &&& (127 : Int32))))]))
        refine Goes.of (fun t k => X34.ldcInt hx hown (mvT hZ (hw _ (List.mem_of_getElem? (i := 0) rfl))) (g := (mkF m 43 #[.val (.int u0), .val (.int u1), .val (.int ((56448 : Int32) + (u0 &&& (127 : Int32)))), .val (.int (f1 ((56448 : Int32) + (u0 &&& (127 : Int32)))))] [(.int ((56448 : Int32) + (u0 &&& (127 : Int32))))])) rfl (hb hby at_43) t k) ?_
        show Goes _ _ _ _ _ _ _ (T34.setTop (mkF m 45 #[.val (.int u0), .val (.int u1), .val (.int ((56448 : Int32) + (u0 &&& (127 : Int32)))), .val (.int (f1 ((56448 : Int32) + (u0 &&& (127 : Int32)))))] [(.int (56448 : Int32)), (.int ((56448 : Int32) + (u0 &&& (127 : Int32))))]))
        by_cases hc51 : ((56448 : Int32) + (u0 &&& (127 : Int32))) < (56448 : Int32)
        · refine Goes.of (fun t k => XS.icmpYes X34.here hx rfl (pc0 := 45) (pc' := 65) rfl (hb hby at_45) rfl (tlt hc51).1 (by decide) (by decide) k) ?_
          show Goes _ _ _ _ _ _ _ (T34.setTop (mkF m 65 #[.val (.int u0), .val (.int u1), .val (.int ((56448 : Int32) + (u0 &&& (127 : Int32)))), .val (.int (f1 ((56448 : Int32) + (u0 &&& (127 : Int32)))))] []))
          refine Goes.of (fun t k => XS.iconst X34.here hx rfl (hb hby at_65) k) ?_
          show Goes _ _ _ _ _ _ _ (T34.setTop (mkF m 66 #[.val (.int u0), .val (.int u1), .val (.int ((56448 : Int32) + (u0 &&& (127 : Int32)))), .val (.int (f1 ((56448 : Int32) + (u0 &&& (127 : Int32)))))] [(.int (1 : Int32))]))
          exact Goes.fin X34 hlk (v := some (.int (1 : Int32))) (fun h => by rw [Bd.returns] at h; cases h) (fun fs hr => retN X34 hx (t := .boolean) Bd.returns (by simp) (hb hby at_66) hr) ⟨congrArg (fun z => some (Value.int z)) (by rw [f0, if_neg hc13, if_neg hc35, if_neg hc43, if_pos hc51] : (1 : Int32) = f0 u0 u1), N34, e34⟩ (by decide) (by decide)
        · refine Goes.of (fun t k => XS.icmpNo X34.here hx rfl (hb hby at_45) rfl (flt hc51).1 k) ?_
          show Goes _ _ _ _ _ _ _ (T34.setTop (mkF m 48 #[.val (.int u0), .val (.int u1), .val (.int ((56448 : Int32) + (u0 &&& (127 : Int32)))), .val (.int (f1 ((56448 : Int32) + (u0 &&& (127 : Int32)))))] []))
          refine Goes.of (fun t k => XS.iloadN X34.here hx rfl (hb hby at_48) rfl k) ?_
          show Goes _ _ _ _ _ _ _ (T34.setTop (mkF m 49 #[.val (.int u0), .val (.int u1), .val (.int ((56448 : Int32) + (u0 &&& (127 : Int32)))), .val (.int (f1 ((56448 : Int32) + (u0 &&& (127 : Int32)))))] [(.int ((56448 : Int32) + (u0 &&& (127 : Int32))))]))
          refine Goes.of (fun t k => X34.ldcInt hx hown (mvT hZ (hw _ (List.mem_of_getElem? (i := 9) rfl))) (g := (mkF m 49 #[.val (.int u0), .val (.int u1), .val (.int ((56448 : Int32) + (u0 &&& (127 : Int32)))), .val (.int (f1 ((56448 : Int32) + (u0 &&& (127 : Int32)))))] [(.int ((56448 : Int32) + (u0 &&& (127 : Int32))))])) rfl (hb hby at_49) t k) ?_
          show Goes _ _ _ _ _ _ _ (T34.setTop (mkF m 51 #[.val (.int u0), .val (.int u1), .val (.int ((56448 : Int32) + (u0 &&& (127 : Int32)))), .val (.int (f1 ((56448 : Int32) + (u0 &&& (127 : Int32)))))] [(.int (56575 : Int32)), (.int ((56448 : Int32) + (u0 &&& (127 : Int32))))]))
          by_cases hc52 : (56575 : Int32) < ((56448 : Int32) + (u0 &&& (127 : Int32)))
          · refine Goes.of (fun t k => XS.icmpYes X34.here hx rfl (pc0 := 51) (pc' := 65) rfl (hb hby at_51) rfl (tlt hc52).2.2.1 (by decide) (by decide) k) ?_
            show Goes _ _ _ _ _ _ _ (T34.setTop (mkF m 65 #[.val (.int u0), .val (.int u1), .val (.int ((56448 : Int32) + (u0 &&& (127 : Int32)))), .val (.int (f1 ((56448 : Int32) + (u0 &&& (127 : Int32)))))] []))
            refine Goes.of (fun t k => XS.iconst X34.here hx rfl (hb hby at_65) k) ?_
            show Goes _ _ _ _ _ _ _ (T34.setTop (mkF m 66 #[.val (.int u0), .val (.int u1), .val (.int ((56448 : Int32) + (u0 &&& (127 : Int32)))), .val (.int (f1 ((56448 : Int32) + (u0 &&& (127 : Int32)))))] [(.int (1 : Int32))]))
            exact Goes.fin X34 hlk (v := some (.int (1 : Int32))) (fun h => by rw [Bd.returns] at h; cases h) (fun fs hr => retN X34 hx (t := .boolean) Bd.returns (by simp) (hb hby at_66) hr) ⟨congrArg (fun z => some (Value.int z)) (by rw [f0, if_neg hc13, if_neg hc35, if_neg hc43, if_neg hc51, if_pos hc52] : (1 : Int32) = f0 u0 u1), N34, e34⟩ (by decide) (by decide)
          · refine Goes.of (fun t k => XS.icmpNo X34.here hx rfl (hb hby at_51) rfl (flt hc52).2.2.1 k) ?_
            show Goes _ _ _ _ _ _ _ (T34.setTop (mkF m 54 #[.val (.int u0), .val (.int u1), .val (.int ((56448 : Int32) + (u0 &&& (127 : Int32)))), .val (.int (f1 ((56448 : Int32) + (u0 &&& (127 : Int32)))))] []))
            refine Goes.of (fun t k => XS.iloadN X34.here hx rfl (hb hby at_54) rfl k) ?_
            show Goes _ _ _ _ _ _ _ (T34.setTop (mkF m 55 #[.val (.int u0), .val (.int u1), .val (.int ((56448 : Int32) + (u0 &&& (127 : Int32)))), .val (.int (f1 ((56448 : Int32) + (u0 &&& (127 : Int32)))))] [(.int (f1 ((56448 : Int32) + (u0 &&& (127 : Int32)))))]))
            refine Goes.of (fun t k => XS.iconst X34.here hx rfl (hb hby at_55) k) ?_
            show Goes _ _ _ _ _ _ _ (T34.setTop (mkF m 56 #[.val (.int u0), .val (.int u1), .val (.int ((56448 : Int32) + (u0 &&& (127 : Int32)))), .val (.int (f1 ((56448 : Int32) + (u0 &&& (127 : Int32)))))] [(.int (1 : Int32)), (.int (f1 ((56448 : Int32) + (u0 &&& (127 : Int32)))))]))
            by_cases hc53 : (f1 ((56448 : Int32) + (u0 &&& (127 : Int32)))) = (1 : Int32)
            · refine Goes.of (fun t k => XS.icmpNo X34.here hx rfl (hb hby at_56) rfl (teq hc53).2 k) ?_
              show Goes _ _ _ _ _ _ _ (T34.setTop (mkF m 59 #[.val (.int u0), .val (.int u1), .val (.int ((56448 : Int32) + (u0 &&& (127 : Int32)))), .val (.int (f1 ((56448 : Int32) + (u0 &&& (127 : Int32)))))] []))
              refine Goes.of (fun t k => XS.iconst X34.here hx rfl (hb hby at_59) k) ?_
              show Goes _ _ _ _ _ _ _ (T34.setTop (mkF m 60 #[.val (.int u0), .val (.int u1), .val (.int ((56448 : Int32) + (u0 &&& (127 : Int32)))), .val (.int (f1 ((56448 : Int32) + (u0 &&& (127 : Int32)))))] [(.int (1 : Int32))]))
              refine Goes.of (fun t k => XS.goto X34.here hx rfl (pc0 := 60) (pc' := 64) rfl (hb hby at_60) (by decide) (by decide) k) ?_
              show Goes _ _ _ _ _ _ _ (T34.setTop (mkF m 64 #[.val (.int u0), .val (.int u1), .val (.int ((56448 : Int32) + (u0 &&& (127 : Int32)))), .val (.int (f1 ((56448 : Int32) + (u0 &&& (127 : Int32)))))] [(.int (1 : Int32))]))
              exact Goes.fin X34 hlk (v := some (.int (1 : Int32))) (fun h => by rw [Bd.returns] at h; cases h) (fun fs hr => retN X34 hx (t := .boolean) Bd.returns (by simp) (hb hby at_64) hr) ⟨congrArg (fun z => some (Value.int z)) (by rw [f0, if_neg hc13, if_neg hc35, if_neg hc43, if_neg hc51, if_neg hc52, if_pos hc53] : (1 : Int32) = f0 u0 u1), N34, e34⟩ (by decide) (by decide)
            · refine Goes.of (fun t k => XS.icmpYes X34.here hx rfl (pc0 := 56) (pc' := 63) rfl (hb hby at_56) rfl (feq hc53).2 (by decide) (by decide) k) ?_
              show Goes _ _ _ _ _ _ _ (T34.setTop (mkF m 63 #[.val (.int u0), .val (.int u1), .val (.int ((56448 : Int32) + (u0 &&& (127 : Int32)))), .val (.int (f1 ((56448 : Int32) + (u0 &&& (127 : Int32)))))] []))
              refine Goes.of (fun t k => XS.iconst X34.here hx rfl (hb hby at_63) k) ?_
              show Goes _ _ _ _ _ _ _ (T34.setTop (mkF m 64 #[.val (.int u0), .val (.int u1), .val (.int ((56448 : Int32) + (u0 &&& (127 : Int32)))), .val (.int (f1 ((56448 : Int32) + (u0 &&& (127 : Int32)))))] [(.int (0 : Int32))]))
              exact Goes.fin X34 hlk (v := some (.int (0 : Int32))) (fun h => by rw [Bd.returns] at h; cases h) (fun fs hr => retN X34 hx (t := .boolean) Bd.returns (by simp) (hb hby at_64) hr) ⟨congrArg (fun z => some (Value.int z)) (by rw [f0, if_neg hc13, if_neg hc35, if_neg hc43, if_neg hc51, if_neg hc52, if_neg hc53] : (0 : Int32) = f0 u0 u1), N34, e34⟩ (by decide) (by decide)
def own_T (c : Int32) : Int32 :=
  (if c < (55296 : Int32) then (if (f1 c) < (1 : Int32) then (0 : Int32)
      else (if (4 : Int32) < (f1 c) then (0 : Int32)
        else (if c < ((1 : Int32) <<< ((f2 (f1 c)) &&& 31)) then (if (1 : Int32) < (f1 c) then (if c < ((1 : Int32) <<< ((f2 ((f1 c) - (1 : Int32))) &&& 31)) then (0 : Int32)
              else (1 : Int32))
            else (1 : Int32))
          else (0 : Int32))))
    else (if (57343 : Int32) < c then (if (f1 c) < (1 : Int32) then (0 : Int32)
        else (if (4 : Int32) < (f1 c) then (0 : Int32)
          else (if c < ((1 : Int32) <<< ((f2 (f1 c)) &&& 31)) then (if (1 : Int32) < (f1 c) then (if c < ((1 : Int32) <<< ((f2 ((f1 c) - (1 : Int32))) &&& 31)) then (0 : Int32)
                else (1 : Int32))
              else (1 : Int32))
            else (0 : Int32))))
      else (if c < (56448 : Int32) then (1 : Int32)
        else (if (56575 : Int32) < c then (1 : Int32)
          else (if (f1 c) = (1 : Int32) then (1 : Int32)
            else (0 : Int32))))))
theorem own_f1 (c : Int32) (h0 : 0 ≤ c.toInt) (h1 : c.toInt < 1114112) : (f1 c = 1 ∧ (c.toInt < 128 ∨ (56447 < c.toInt ∧ c.toInt ≤ 56575))) ∨ (f1 c = 2 ∧ 128 ≤ c.toInt ∧ c.toInt < 2048) ∨
    (f1 c = 3 ∧ 2048 ≤ c.toInt ∧ c.toInt < 65536 ∧ ¬ (56447 < c.toInt ∧ c.toInt ≤ 56575)) ∨ (f1 c = 4 ∧ 65536 ≤ c.toInt) := by
  unfold f1
  simp only [Int32.lt_iff_toInt_lt, Int32.reduceToInt]
  repeat' split
  all_goals first
    | (left; exact ⟨rfl, by omega⟩)
    | (right; left; exact ⟨rfl, by omega⟩)
    | (right; right; left; exact ⟨rfl, by omega⟩)
    | (right; right; right; exact ⟨rfl, by omega⟩)
    | (exfalso; omega)
theorem own_T1 (c : Int32) (h0 : 0 ≤ c.toInt) (h1 : c.toInt < 1114112) : own_T c = 1 := by
  have s1 : (1 : Int32) <<< ((f2 1) &&& 31) = 128 := by decide
  have s2 : (1 : Int32) <<< ((f2 2) &&& 31) = 2048 := by decide
  have s3 : (1 : Int32) <<< ((f2 3) &&& 31) = 65536 := by decide
  have s4 : (1 : Int32) <<< ((f2 4) &&& 31) = 2097152 := by decide
  have d2 : (2 : Int32) - 1 = 1 := by decide
  have d3 : (3 : Int32) - 1 = 2 := by decide
  have d4 : (4 : Int32) - 1 = 3 := by decide
  unfold own_T
  rcases own_f1 c h0 h1 with ⟨e, h⟩ | ⟨e, h⟩ | ⟨e, h⟩ | ⟨e, h⟩
  all_goals
    simp only [e, s1, s2, s3, s4, d2, d3, d4, Int32.lt_iff_toInt_lt, Int32.reduceToInt]
    repeat' split
  all_goals first
    | rfl
    | (exfalso; omega)
    | (exfalso; simp_all; done)
theorem own_law (u0 u1 : Int32) : f0 u0 u1 = 1 := by
  have e : f0 u0 u1 = (if (u1 &&& (1 : Int32)) = (0 : Int32) then own_T ((u0 &&& (2147483647 : Int32)) % (1114112 : Int32)) else own_T ((56448 : Int32) + (u0 &&& (127 : Int32)))) := rfl
  rw [e]
  split
  · have m := c_and u0 2147483647 (by decide)
    have k := (c_irem (u0 &&& 2147483647) 1114112 1114112 rfl).1 m.1
    exact own_T1 _ (by omega) (by omega)
  · have m := c_and u0 127 (by decide)
    have k127 : (127 : Int32).toInt = 127 := rfl
    have kE : (56448 : Int32).toInt = 56448 := rfl
    have a := c_iadd 56448 (u0 &&& 127)
    have r := rng32 (56448 + (u0 &&& 127))
    exact own_T1 _ (by omega) (by omega)
set_option maxRecDepth 65536 in
set_option maxHeartbeats 40000000 in
theorem comes_1 {Post : Tables → Env → Array Value → State → Outcome → State → Prop} (hpost : ∀ tb e args s v u, (limb_1_1.after args s (.returned v) u = true ∧ limb_1_2.after args s (.returned v) u = true ∧ True) → FrameEnd s (.returned v) u (Jvm.fieldLocs frame_1_writes args s ++ Jvm.arrayLocs frame_1_arrays args s ++ Jvm.staticLocs frame_1_statics s) 0 0 → Post tb e args s (.returned v) u) :
    ArmFor flags0 classFile x code maxLocals ret World_1 tables_1 room_1 Calls_1 rest_1 Pre_1 Post := by
  intro l hfl _ _ p e ha hc hk s m args below hf hA hF happ hP
  obtain ⟨hcalls, hrest, hpre⟩ := hP
  obtain ⟨-, -, -, hnamed, -, -, -, hat⟩ := (Spec.applies_iff hf).mp happ
  obtain ⟨hg, hn⟩ := and_e (Cond.before_iff.mp (show (Jvm.Cond.and given_1 narrow_1).before args s = true from hpre))
  obtain ⟨g54, g55⟩ := and_e hg
  obtain ⟨g56, g57⟩ := and_e g55
  obtain ⟨w0, w1, rfl⟩ : ∃ w0 w1 : Value, args = #[w0, w1] := by
    have hs : args.size = 2 := by simpa [Cond.value, given_1] using g54
    obtain ⟨L⟩ := args
    match L, hs with
    | [w0, w1], _ => exact ⟨w0, w1, rfl⟩
  have hw := fun d (hd : d ∈ tables_1) => atoms_spec (ws := Jvm.Cond.code x code maxLocals ret :: tables_1) hat d (List.mem_cons_of_mem _ hd)
  obtain ⟨i0, ei0⟩ := is_v g56
  obtain rfl : w0 = (.int i0) := Option.some.inj ei0
  obtain ⟨i1, ei1⟩ := is_v g57
  obtain rfl : w1 = (.int i1) := Option.some.inj ei1
  obtain ⟨n, o, h1, h2, h3, _, L, rfl, ⟨rfl, N, -⟩, hq⟩ := rm0 l s _ hw tables_1 i0 i1 s.heap s.heap.size p e ha hc hk s m _ below hf ((Spec.applies_iff_loose hf).mp happ).1 ⟨rfl, State.Warmed39.refl s, rfl⟩ trivial
  exact ⟨n, _, h1, h2, h3, hpost _ _ _ _ _ _ ⟨Cond.after_iff.mpr rfl, Cond.after_iff.mpr (eq_i res_at (Term.int_eval (1)) (congrArg Value.int (own_law i0 i1))), trivial⟩ ⟨hq.1, hq.2.1, (hq.2.2.sift fun y hy => Or.inr (N y hy)).mono (by decide) (by decide)⟩⟩
theorem main_1_1 : Claimed_1_1 := comes_1 fun _ _ _ _ _ _ h hF => ⟨h.1, hF⟩
theorem main_1_2 : Claimed_1_2 := comes_1 fun _ _ _ _ _ _ h hF => ⟨h.2.1, hF⟩
end Jvm.Pilot.@@N@@
namespace Jvm.Pilot.@@N@@
open Jvm Jvm.ClassFile Sem Op Lib Jvm.Free Jvm.Stand Jvm.Pilot.@@N@@.Jvm.D
/-! MADE BY PROGRAM (witnessworld.py) out of the Statement's table words and the real class files: 13 classes; the members and pool entries that the words name. The judged class is class 1, her method 2. -/
namespace start1
open Jvm.ClassFile
def u (s : String) : CpInfo := .utf8 (stringToUtf16 s)
/-- a pool by its gaps: so many unusable entries, then the entry; so many at the end -/
def gap : Nat → List CpInfo → List CpInfo
  | 0, r => r
  | n + 1, r => .unusable :: gap n r
def poolList (es : List (Nat × CpInfo)) (last : Nat) : List CpInfo := es.foldr (fun e r => gap e.1 (e.2 :: r)) (gap last [])
def pool (es : List (Nat × CpInfo)) (last : Nat) : Array CpInfo := ⟨poolList es last⟩
def fileOf (pool : Array CpInfo) (this : Nat) (attrs : Array Attribute := #[]) (ms : Array MethodInfo := #[]) (fl : Nat := 33) (sup : Nat := 0) (ifs : Array Nat := #[]) (fds : Array FieldInfo := #[]) : ClassFile where
  minorVersion := 0
  majorVersion := 65
  constantPool := pool
  accessFlags := fl
  thisClass := this
  superClass := sup
  interfaces := ifs
  fields := fds
  methods := ms
  attributes := attrs
def plain (name : String) (sup : Option ClassId) : Class where
  name := name
  kind := .ordinary
  loader := none
  accessFlags := 33
  super := sup
  interfaces := #[]
  cf := none
  fields := #[]
  methods := #[]
  instanceTypes := #[]
  staticTypes := #[]
  resolved := #[]
  callSites := []
  init := .initialized
  statics := none
  mirror := none

def pool0 : Array CpInfo := pool [(5, u "<init>"), (0, u "()V"), (1, .class_ 10), (1, u "java/lang/Object")] 113

def k0m0 : Method := { name := "<init>", desc := "()V", sig := { parameters := [], returnType := none }, accessFlags := 1, code := none }
/-- java/lang/Object -/
def k0 : Class := { plain "java/lang/Object" none with
  accessFlags := 33
  interfaces := #[]
  cf := some (fileOf pool0 8 #[] #[{ accessFlags := 1, nameIndex := 5, descriptorIndex := 6, attributes := #[] }] 33 0 #[] #[])
  fields := #[]
  methods := #[k0m0]
  instanceTypes := #[]
  staticTypes := #[]
  resolved := Array.replicate 124 none
  statics := none }

def pool1 : Array CpInfo := pool [(2, .class_ 4), (1, u "java/lang/Object"), (0, u "<init>"), (0, u "()V"), (0, .integer 56448), (0, .integer 2147483647), (0, .integer 1114112), (0, .methodref 11 12), (0, .class_ 13), (0, .nameAndType 14 15), (0, u "com/example/dutiful_logic/dutifullogic/Utf8Reader"), (0, u "length"), (0, u "(I)I"), (0, .integer 55296), (0, .integer 57343), (0, .integer 56575), (0, .methodref 20 21), (0, .class_ 22), (0, .nameAndType 23 15), (0, u "com/example/dutiful_logic/dutifullogic/Utf8ReaderLengthPinLaw"), (0, u "payload"), (3, u "law"), (0, u "(II)Z")] 2

def k1m0 : Method := { name := "<init>", desc := "()V", sig := { parameters := [], returnType := none }, accessFlags := 2, code := none }
def k1c1 : Code := { maxStack := 2, maxLocals := 1, code := method_2_code, exceptionTable := #[], attributes := #[] }
def k1m1 : Method := { name := "payload", desc := "(I)I", sig := { parameters := [.int], returnType := some .int }, accessFlags := 10, code := some k1c1 }
def k1c2 : Code := { maxStack := 4, maxLocals := 4, code := code, exceptionTable := #[], attributes := #[] }
def k1m2 : Method := { name := "law", desc := "(II)Z", sig := { parameters := [.int, .int], returnType := some .boolean }, accessFlags := 9, code := some k1c2 }
/-- com/example/dutiful_logic/dutifullogic/Utf8ReaderLengthPinLaw -/
def k1 : Class := { plain "com/example/dutiful_logic/dutifullogic/Utf8ReaderLengthPinLaw" (some 0) with
  accessFlags := 49
  interfaces := #[]
  cf := some (fileOf pool1 20 #[] #[{ accessFlags := 2, nameIndex := 5, descriptorIndex := 6, attributes := #[] }, { accessFlags := 10, nameIndex := 23, descriptorIndex := 15, attributes := #[] }, { accessFlags := 9, nameIndex := 27, descriptorIndex := 28, attributes := #[] }] 49 2 #[] #[])
  fields := #[]
  methods := #[k1m0, k1m1, k1m2]
  instanceTypes := #[]
  staticTypes := #[]
  resolved := Array.replicate 31 none
  statics := none }

def pool2 : Array CpInfo := pool [(1, .class_ 2), (0, u "java/lang/Readable"), (0, .class_ 4), (0, u "java/lang/Object")] 7

/-- java/lang/Readable -/
def k2 : Class := { plain "java/lang/Readable" (some 0) with
  accessFlags := 1537
  interfaces := #[]
  cf := some (fileOf pool2 1 #[] #[] 1537 3 #[] #[])
  fields := #[]
  methods := #[]
  instanceTypes := #[]
  staticTypes := #[]
  resolved := Array.replicate 12 none
  statics := none }

def pool3 : Array CpInfo := pool [(1, .class_ 2), (0, u "java/lang/AutoCloseable"), (0, .class_ 4), (0, u "java/lang/Object")] 7

/-- java/lang/AutoCloseable -/
def k3 : Class := { plain "java/lang/AutoCloseable" (some 0) with
  accessFlags := 1537
  interfaces := #[]
  cf := some (fileOf pool3 1 #[] #[] 1537 3 #[] #[])
  fields := #[]
  methods := #[]
  instanceTypes := #[]
  staticTypes := #[]
  resolved := Array.replicate 12 none
  statics := none }

def pool4 : Array CpInfo := pool [(1, .class_ 2), (0, u "java/io/Closeable"), (0, .class_ 4), (0, u "java/lang/Object"), (0, .class_ 6), (0, u "java/lang/AutoCloseable")] 7

/-- java/io/Closeable -/
def k4 : Class := { plain "java/io/Closeable" (some 0) with
  accessFlags := 1537
  interfaces := #[3]
  cf := some (fileOf pool4 1 #[] #[] 1537 3 #[5] #[])
  fields := #[]
  methods := #[]
  instanceTypes := #[]
  staticTypes := #[]
  resolved := Array.replicate 14 none
  statics := none }

def pool5 : Array CpInfo := pool [(1, .class_ 2), (0, u "java/io/Reader$1"), (2, u "<init>"), (0, u "()V"), (1, .class_ 9), (0, u "java/lang/Object"), (1, .class_ 13), (1, u "java/io/Reader"), (0, u "skipBuffer"), (0, u "[C"), (2, u "lock"), (0, u "Ljava/lang/Object;"), (117, .class_ 138), (0, u "java/lang/Readable"), (0, .class_ 140), (0, u "java/io/Closeable"), (0, u "TRANSFER_BUFFER_SIZE"), (0, u "I"), (2, u "maxSkipBufferSize")] 59

def k5m0 : Method := { name := "<init>", desc := "()V", sig := { parameters := [], returnType := none }, accessFlags := 4, code := none }
/-- java/io/Reader -/
def k5 : Class := { plain "java/io/Reader" (some 0) with
  accessFlags := 1057
  interfaces := #[2, 4]
  cf := some (fileOf pool5 11 #[.nestMembers #[1]] #[{ accessFlags := 4, nameIndex := 5, descriptorIndex := 6, attributes := #[] }] 1057 8 #[137, 139] #[{ accessFlags := 26, nameIndex := 141, descriptorIndex := 142, attributes := #[] }, { accessFlags := 4, nameIndex := 18, descriptorIndex := 19, attributes := #[] }, { accessFlags := 26, nameIndex := 145, descriptorIndex := 142, attributes := #[] }, { accessFlags := 2, nameIndex := 14, descriptorIndex := 15, attributes := #[] }])
  fields := #[{ name := "TRANSFER_BUFFER_SIZE", type := .int, accessFlags := 26, slot := 0, constantValue := 0 }, { name := "lock", type := (.object "java/lang/Object"), accessFlags := 4, slot := 0, constantValue := 0 }, { name := "maxSkipBufferSize", type := .int, accessFlags := 26, slot := 1, constantValue := 0 }, { name := "skipBuffer", type := (.array .char), accessFlags := 2, slot := 1, constantValue := 0 }]
  methods := #[k5m0]
  instanceTypes := #[(.object "java/lang/Object"), (.array .char)]
  staticTypes := #[.int, .int]
  resolved := Array.replicate 205 none
  statics := none }

def pool6 : Array CpInfo := pool [(2, .class_ 4), (1, u "java/io/Reader"), (3, .class_ 10), (1, u "com/example/dutiful_logic/dutifullogic/Utf8Reader"), (0, u "pending"), (0, u "I"), (2, u "bytes"), (0, u "Lcom/example/dutiful_logic/dutifullogic/ByteInput;"), (0, .integer 56447), (0, .integer 56575), (2, .integer 65536), (16, u "(I)I"), (12, u "ESCAPE"), (4, u "length")] 8

def k6c0 : Code := { maxStack := 2, maxLocals := 2, code := prog_126_method_2_code, exceptionTable := #[], attributes := #[] }
def k6m0 : Method := { name := "length", desc := "(I)I", sig := { parameters := [.int], returnType := some .int }, accessFlags := 8, code := some k6c0 }
/-- com/example/dutiful_logic/dutifullogic/Utf8Reader -/
def k6 : Class := { plain "com/example/dutiful_logic/dutifullogic/Utf8Reader" (some 5) with
  accessFlags := 32
  interfaces := #[]
  cf := some (fileOf pool6 8 #[] #[{ accessFlags := 8, nameIndex := 56, descriptorIndex := 38, attributes := #[] }] 32 2 #[] #[{ accessFlags := 26, nameIndex := 51, descriptorIndex := 12, attributes := #[] }, { accessFlags := 18, nameIndex := 15, descriptorIndex := 16, attributes := #[] }, { accessFlags := 2, nameIndex := 11, descriptorIndex := 12, attributes := #[] }])
  fields := #[{ name := "ESCAPE", type := .int, accessFlags := 26, slot := 0, constantValue := 0 }, { name := "bytes", type := (.object "com/example/dutiful_logic/dutifullogic/ByteInput"), accessFlags := 18, slot := 2, constantValue := 0 }, { name := "pending", type := .int, accessFlags := 2, slot := 3, constantValue := 0 }]
  methods := #[k6m0]
  instanceTypes := #[(.object "java/lang/Object"), (.array .char), (.object "com/example/dutiful_logic/dutifullogic/ByteInput"), .int]
  staticTypes := #[.int]
  resolved := Array.replicate 65 none
  statics := none }

def pool7 : Array CpInfo := pool [(1, u "java/lang/Cloneable"), (0, .class_ 1), (0, u "java/lang/Object"), (0, .class_ 3)] 3

/-- java/lang/Cloneable -/
def k7 : Class := { plain "java/lang/Cloneable" (some 0) with
  accessFlags := 1537
  interfaces := #[]
  cf := some (fileOf pool7 2 #[] #[] 1537 4 #[] #[])
  fields := #[]
  methods := #[]
  instanceTypes := #[]
  staticTypes := #[]
  resolved := Array.replicate 8 none
  statics := none }

def pool8 : Array CpInfo := pool [(1, u "java/io/Serializable"), (0, .class_ 1), (0, u "java/lang/Object"), (0, .class_ 3)] 3

/-- java/io/Serializable -/
def k8 : Class := { plain "java/io/Serializable" (some 0) with
  accessFlags := 1537
  interfaces := #[]
  cf := some (fileOf pool8 2 #[] #[] 1537 4 #[] #[])
  fields := #[]
  methods := #[]
  instanceTypes := #[]
  staticTypes := #[]
  resolved := Array.replicate 8 none
  statics := none }

/-- the primitive byte -/
def k9 : Class := { plain "byte" none with kind := .primitive 'B', accessFlags := 0x411 }
/-- [B -/
def k10 : Class := { plain "[B" (some 0) with kind := .array 9 .byte, interfaces := #[7, 8], accessFlags := 1041 }

/-- the primitive int -/
def k11 : Class := { plain "int" none with kind := .primitive 'I', accessFlags := 0x411 }
/-- [I -/
def k12 : Class := { plain "[I" (some 0) with kind := .array 11 .int, interfaces := #[7, 8], accessFlags := 1041 }

def heap : Heap := #[]
def classes : Array Class := #[k0, k1, k2, k3, k4, k5, k6, k7, k8, k9, k10, k11, k12]
def interned : List (Array UInt16 × Addr) := []
def slotsUsed : Nat := 0
def theMethod : MethodId := ⟨1, 2⟩
def args0 : Array Value := #[.int 5, .int 7]
def aboutOver (below : List Frame) : State where
  vm := { classes := classes, interned := interned.toArray }
  heap := heap
  slotsUsed := slotsUsed
  threads := #[{ frames := .invoking theMethod args0 :: below }]
def below0 : List Frame := [.native { method := ⟨0, 0⟩, args := #[] }]
def about1 : State := aboutOver below0
def p0 : Program := .bare "" "" ""
def e0 : Env := launch0.env 0 0 0
theorem w_frames : about1.frames = Frame.invoking theMethod args0 :: below0 := rfl
set_option maxRecDepth 65536 in
theorem w_args : argsFit about1.vm theMethod args0 = true := by decide +kernel
set_option maxRecDepth 65536 in
theorem w_heap : heapFits about1 = true := by decide +kernel
set_option maxRecDepth 65536 in
theorem w_runnable : about1.curStatus? = some .runnable := by decide +kernel
set_option maxRecDepth 65536 in
theorem w_alone : about1.alone = true := by decide +kernel
set_option maxRecDepth 65536 in
theorem w_named : about1.methodNamed? x = some theMethod := by decide +kernel
set_option maxRecDepth 65536 in
theorem w_hears : about1.hears theMethod below0 = true := by decide +kernel
set_option maxRecDepth 65536 in
theorem w_ripe : about1.ripe theMethod args0 below0 = true := by decide +kernel
theorem w_running : about1.status = .running := rfl
set_option maxRecDepth 65536 in
theorem w_room : about1.hasRoom e0.platform room_1 = true :=
  launch0.hasRoom_least _ room_1 (by decide +kernel) (by decide +kernel) (by decide +kernel) (by decide +kernel) (by decide +kernel) (by decide +kernel)
theorem allAtoms_all (ts : List Jvm.Cond) (a : Array Jvm.Value) (st : Jvm.State) : (allAtoms ts).before a st = ts.all (fun c => c.before a st) := by
  induction ts with
  | nil => rfl
  | cons c t ih =>
    show (Jvm.Cond.and c (allAtoms t)).before a st = _
    rw [Jvm.Cond.before_and, ih, List.all_cons]
def words1 : List Jvm.Cond := Jvm.Cond.code x code maxLocals ret :: tables_1
/-- a 'code' word, met by the world's own term for the bytes: nothing is compared byte by byte -/
theorem code_word {y : MethodName} {bytes : ByteArray} {mx : Nat} {rt : Option FieldType} {a : Array Value} {s : State} {m : MethodId} {meth : Method} {c : Code} (h1 : s.methodNamed? y = some m) (h2 : s.vm.method? m = some meth) (h3 : meth.code = some c) (h4 : c.code = bytes)
    (h5 : (c.maxLocals == mx && c.exceptionTable.isEmpty && decide (c.maxStack ≤ mostOperands) && decide (meth.sig.returnType = rt) && !meth.locks && decide (parseMethodDescriptor y.desc = some meth.sig)) = true) : (Jvm.Cond.code y bytes mx rt).before a s = true := by
  simp only [Bool.and_eq_true, beq_iff_eq, Bool.not_eq_true', decide_eq_true_eq] at h5
  obtain ⟨⟨⟨⟨⟨g1, g2⟩, g3⟩, g4⟩, g5⟩, g6⟩ := h5
  simp [Cond.before, Cond.holds, Cond.value, h1, h2, h3, h4, g1, g2, g3, g4, g5, g6]
def isCode : Jvm.Cond → Bool
  | .code _ _ _ _ => true
  | _ => false
theorem all_split {L : List Jvm.Cond} {P : Jvm.Cond → Bool} (h1 : L.all (fun c => isCode c || P c) = true) (h2 : ∀ c ∈ L.filter isCode, P c = true) : L.all P = true := by
  refine List.all_eq_true.mpr fun c hc => ?_
  have h := List.all_eq_true.mp h1 c hc
  rcases Bool.eq_false_or_eq_true (isCode c) with hi | hi
  · exact h2 c (List.mem_filter.mpr ⟨hc, hi⟩)
  · simpa [hi] using h
set_option maxRecDepth 65536 in
theorem w_c0 : (Jvm.Cond.code x code maxLocals ret).before args0 about1 = true := code_word (m := ⟨1, 2⟩) (meth := k1m2) (c := k1c2) (by decide +kernel) rfl rfl rfl (by decide +kernel)
set_option maxRecDepth 65536 in
theorem w_c1 : (Jvm.Cond.code ({ cls := "com/example/dutiful_logic/dutifullogic/Utf8Reader", name := "length", desc := "(I)I" } : Jvm.MethodName) prog_126_method_2_code (2 : Nat) (Option.some Jvm.ClassFile.FieldType.int)).before args0 about1 = true := code_word (m := ⟨6, 0⟩) (meth := k6m0) (c := k6c0) (by decide +kernel) rfl rfl rfl (by decide +kernel)
set_option maxRecDepth 65536 in
theorem w_c2 : (Jvm.Cond.code ({ cls := "com/example/dutiful_logic/dutifullogic/Utf8ReaderLengthPinLaw", name := "payload", desc := "(I)I" } : Jvm.MethodName) method_2_code (1 : Nat) (Option.some Jvm.ClassFile.FieldType.int)).before args0 about1 = true := code_word (m := ⟨1, 1⟩) (meth := k1m1) (c := k1c1) (by decide +kernel) rfl rfl rfl (by decide +kernel)
def codes1 : List Jvm.Cond := [Jvm.Cond.code x code maxLocals ret, Jvm.Cond.code ({ cls := "com/example/dutiful_logic/dutifullogic/Utf8Reader", name := "length", desc := "(I)I" } : Jvm.MethodName) prog_126_method_2_code (2 : Nat) (Option.some Jvm.ClassFile.FieldType.int), Jvm.Cond.code ({ cls := "com/example/dutiful_logic/dutifullogic/Utf8ReaderLengthPinLaw", name := "payload", desc := "(I)I" } : Jvm.MethodName) method_2_code (1 : Nat) (Option.some Jvm.ClassFile.FieldType.int)]
set_option maxRecDepth 65536 in
theorem codes_eq : words1.filter isCode = codes1 := rfl
theorem w_codes : ∀ c ∈ words1.filter isCode, c.before args0 about1 = true := by
  rw [codes_eq]
  intro c hc
  simp only [codes1, List.mem_cons, List.not_mem_nil, or_false] at hc
  rcases hc with rfl | rfl | rfl
  · exact w_c0
  · exact w_c1
  · exact w_c2
set_option maxRecDepth 65536 in
theorem w_t1 : words1.all (fun c => isCode c || c.before args0 about1) = true := by decide +kernel
theorem w_tables : (allAtoms (Jvm.Cond.code x code maxLocals ret :: tables_1)).before args0 about1 = true := by
  rw [allAtoms_all]
  show words1.all (fun c => c.before args0 about1) = true
  refine all_split ?_ w_codes
  rw [w_t1]
set_option maxRecDepth 65536 in
theorem w_case : (Jvm.Cond.and given_1 narrow_1).before args0 about1 = true := by decide +kernel
theorem w_applies : (headSpec (Jvm.Cond.code x code maxLocals ret :: tables_1) room_1).applies x e0.platform about1 = true :=
  (Spec.applies_iff w_frames).mpr ⟨w_running, w_runnable, w_alone, w_named, w_hears, w_ripe, w_room, w_tables⟩
theorem atStart : AtStart classFile x code maxLocals ret World_1 tables_1 room_1 Calls_1 rest_1 Pre_1 launch0 p0 e0 about1 theMethod args0 below0 :=
  ⟨lists_1, trivial, launch0.admits_env _ _ _, launch0.least_env, fairChoices_fair.cas, fairChoices_fair.clock, w_frames, w_args, w_heap, w_applies, trivial, trivial, w_case⟩
end start1
theorem witness_1 : WitnessClaimed_1 := ⟨start1.p0, start1.e0, start1.about1, start1.theMethod, start1.args0, start1.below0, start1.atStart⟩
end Jvm.Pilot.@@N@@
