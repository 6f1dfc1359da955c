import JvmDerived
import JvmDerived.Pilot.@@N@@Statement
import JvmDerived.Pilot.@@N@@Code
set_option linter.unusedVariables false
set_option linter.unusedSimpArgs false
namespace Jvm.RoadKit
open Sem ClassFile Op Lib Jvm.Stand Jvm.Free Jvm.LawKit
section New
variable {p : Program} {l : Launch} {e : Env} {R : Room} {s : State} {m : MethodId} {args : Array Value} {below : List Frame} {meth : Method} {c : Code} {T : State} {locs : List Loc} {cells slots : Nat}
theorem retI (X : Stand p l e R s m args below meth c T locs cells slots) (hx : p.tables.exec = Jvm.exec) {pc : Nat} {Ls : Array Slot} {z : Int32} {rest : List Value} (hret : meth.sig.returnType = some .int) (hd : decode c.code pc = .ok (.ireturn, 1)) {fs : List Frame}
    (hl : ∀ (f : JFrame) (acts : List Action), f.method = m → f.locked = none → f.entered = [] → (doReturn e (T.setTop f) acts (some (.int z))).1 = T.setFrames fs) : Steps p.tables e below (T.setTop (mkF m pc Ls (.int z :: rest))) (T.setFrames fs) := by
  have hm' : T.vm.method? m = some meth := X.method'
  have hn : narrow .int (.int z) = .int z := rfl
  show Steps p.tables e below (T.setTop { method := m, pc := pc, locals := Ls, stack := _ :: rest, locked := none }) _
  jvm_step X.here [X.here.top, hx, hd, hm', hret, hn]
  first | (intro acts; rw [hl _ acts rfl rfl rfl]) | rw [hl _ _ rfl rfl rfl]
  exact Steps.refl _
end New
end Jvm.RoadKit
namespace Jvm.Pilot.@@N@@
open Jvm Jvm.ClassFile Sem Op Lib Jvm.Free Jvm.Stand Jvm.LawKit Jvm.RoadKit Bundle Jvm.Pilot.@@N@@.Jvm.D
theorem d1_0 : decode prog_40_method_7_code 0 = .ok (.iload_n 0, 1) := by decide +kernel
theorem d1_1 : decode prog_40_method_7_code 1 = .ok (.ldc 130, 2) := by decide +kernel
theorem d1_3 : decode prog_40_method_7_code 3 = .ok (.if_icmp .lt 9, 3) := by decide +kernel
theorem d1_6 : decode prog_40_method_7_code 6 = .ok (.iload_n 0, 1) := by decide +kernel
theorem d1_7 : decode prog_40_method_7_code 7 = .ok (.sipush 2048, 3) := by decide +kernel
theorem d1_10 : decode prog_40_method_7_code 10 = .ok (.isub, 1) := by decide +kernel
theorem d1_11 : decode prog_40_method_7_code 11 = .ok (.ireturn, 1) := by decide +kernel
theorem pn_1 : plainName "com/example/columnweave/columnweave/format/Text" = true := by first | (simp [plainName, overriddenIn]; done) | decide +kernel
theorem ef_1 (m : MethodId) (x0 : Int32) : entryFrame m #[(.int x0)] 1 = mkF m 0 #[.val (.int x0)] [] := by first | (simp [entryFrame, mkF, argsToLocals, Value.category]; done) | rfl
theorem d1_12 : decode prog_40_method_7_code 12 = .ok (.iload_n 0, 1) := by decide +kernel
theorem d1_13 : decode prog_40_method_7_code 13 = .ok (.ldc 93, 2) := by decide +kernel
theorem d1_15 : decode prog_40_method_7_code 15 = .ok (.if_icmp .lt 9, 3) := by decide +kernel
theorem d1_18 : decode prog_40_method_7_code 18 = .ok (.iload_n 0, 1) := by decide +kernel
theorem d1_19 : decode prog_40_method_7_code 19 = .ok (.sipush 8192, 3) := by decide +kernel
theorem d1_22 : decode prog_40_method_7_code 22 = .ok (.iadd, 1) := by decide +kernel
theorem d1_23 : decode prog_40_method_7_code 23 = .ok (.ireturn, 1) := by decide +kernel
theorem d1_24 : decode prog_40_method_7_code 24 = .ok (.iload_n 0, 1) := by decide +kernel
theorem d1_25 : decode prog_40_method_7_code 25 = .ok (.ireturn, 1) := by decide +kernel
def Q1 (r : Int32) (h0 : Heap) (n0 : Nat) (v : Option Value) (h : Heap) (L : List Loc) : Prop := v = some (.int r) ∧ Fr n0 L ∧ h = h0
set_option maxRecDepth 65536 in
set_option maxHeartbeats 40000000 in
theorem rm1 (l : Launch) (Z : State) (a0 : Array Value) (hw : ∀ d ∈ tables_1, d.before a0 Z = true) (ws : List Jvm.Cond) (p1 : Int32) (r : Int32) (h0 : Heap) (n0 : Nat) (Z0 : n0 ≤ h0.size) (hr0 : r = if p1 < (57344 : Int32) then if p1 < (55296 : Int32) then p1 else (p1 + (8192 : Int32)) else (p1 - (2048 : Int32))) :
    MetFree l (⟨"com/example/columnweave/columnweave/format/Text", "unitOrder", "(C)I"⟩ : MethodName) (head1 (Jvm.Cond.code (⟨"com/example/columnweave/columnweave/format/Text", "unitOrder", "(C)I"⟩ : MethodName) prog_40_method_7_code 1 (some .int) :: ws) ({ frames := 0, cells := 0, slots := 0, locals := 0 } : Room)) (fun a U => a = #[(.int p1)] ∧ Z.Warmed39 U.vm ∧ U.heap = h0) (fun _ _ _ _ _ => True) (fun _ U o U' => ∃ v L, o = .returned v ∧ Q1 r h0 n0 v U'.heap L ∧ FrameEnd U o U' L ({ frames := 0, cells := 0, slots := 0, locals := 0 } : Room).cells ({ frames := 0, cells := 0, slots := 0, locals := 0 } : Room).slots) := by
  by_cases hc3 : p1 < (57344 : Int32)
  · skip
    by_cases hc15 : p1 < (55296 : Int32)
    · rw [show r = p1 by rw [hr0, if_pos hc3, if_pos hc15]]
      refine MetFree.of_bodySF (plainFor_of_name pn_1) hisR ?_
      intro p e s m args below meth c s₁ Bd hml0 hP hK
      obtain ⟨rfl, hZ, hh⟩ := hP
      have hx := Bd.exec
      have hby := Bd.bytes
      have hml : c.maxLocals = 1 := hml0
      have hown : s.vm.findClass "com/example/columnweave/columnweave/format/Text" = some m.cls := findClass_of_methodNamed Bd.named
      have hnm := (name_of_methodNamed Bd.named Bd.method).1
      have X0 : Stand p l e ({ frames := 0, cells := 0, slots := 0, locals := 0 } : Room) s m #[(.int p1)] below meth c s₁ [] 0 0 := Stand.of_body Bd
      have e0 : s₁.heap = h0 := by rw [← hh, Bd.state]; rfl
      have N0 := Fr.nil n0
      have pre0 : ∀ t, Steps p.tables e below (s₁.setTop (mkF m 0 #[.val (.int p1)] [])) t → Steps p.tables e below (s₁.setTop (entryFrame m #[(.int p1)] 1)) t := fun t k => castTop (ef_1 m p1) k
      obtain ⟨fs, hr, hrun, hended, hW, hsame⟩ := X0.leave (v := some (.int p1)) (fun h => by rw [Bd.returns] at h; cases h)
      refine ⟨_, _, pre0 _ ?_, hrun, hended, _, _, rfl, ?_, ⟨_, rfl⟩, hW, hsame.mono (by decide) (by decide)⟩
      · show Steps p.tables e below (s₁.setTop (mkF m 0 #[.val (.int p1)] [])) _
        refine XS.iloadN X0.here hx rfl (hb hby d1_0) rfl ?_
        show Steps p.tables e below (s₁.setTop (mkF m 1 #[.val (.int p1)] [(.int p1)])) _
        refine X0.ldcInt hx hown (mvT hZ (hw _ (List.mem_of_getElem? (i := 4) rfl))) (g := (mkF m 1 #[.val (.int p1)] [(.int p1)])) rfl (hb hby d1_1) _ ?_
        show Steps p.tables e below (s₁.setTop (mkF m 3 #[.val (.int p1)] [(.int (57344 : Int32)), (.int p1)])) _
        refine XS.icmpYes X0.here hx rfl (pc0 := 3) (pc' := 12) rfl (hb hby d1_3) rfl (tlt hc3).1 (by decide) (by decide) ?_
        show Steps p.tables e below (s₁.setTop (mkF m 12 #[.val (.int p1)] [])) _
        refine XS.iloadN X0.here hx rfl (hb hby d1_12) rfl ?_
        show Steps p.tables e below (s₁.setTop (mkF m 13 #[.val (.int p1)] [(.int p1)])) _
        refine X0.ldcInt hx hown (mvT hZ (hw _ (List.mem_of_getElem? (i := 5) rfl))) (g := (mkF m 13 #[.val (.int p1)] [(.int p1)])) rfl (hb hby d1_13) _ ?_
        show Steps p.tables e below (s₁.setTop (mkF m 15 #[.val (.int p1)] [(.int (55296 : Int32)), (.int p1)])) _
        refine XS.icmpYes X0.here hx rfl (pc0 := 15) (pc' := 24) rfl (hb hby d1_15) rfl (tlt hc15).1 (by decide) (by decide) ?_
        show Steps p.tables e below (s₁.setTop (mkF m 24 #[.val (.int p1)] [])) _
        refine XS.iloadN X0.here hx rfl (hb hby d1_24) rfl ?_
        show Steps p.tables e below (s₁.setTop (mkF m 25 #[.val (.int p1)] [(.int p1)])) _
        exact retI X0 hx Bd.returns (hb hby d1_25) hr
      · show Q1 _ h0 n0 _ s₁.heap _
        rw [e0]
        exact ⟨rfl, N0, rfl⟩
    · rw [show r = (p1 + (8192 : Int32)) by rw [hr0, if_pos hc3, if_neg hc15]]
      refine MetFree.of_bodySF (plainFor_of_name pn_1) hisR ?_
      intro p e s m args below meth c s₁ Bd hml0 hP hK
      obtain ⟨rfl, hZ, hh⟩ := hP
      have hx := Bd.exec
      have hby := Bd.bytes
      have hml : c.maxLocals = 1 := hml0
      have hown : s.vm.findClass "com/example/columnweave/columnweave/format/Text" = some m.cls := findClass_of_methodNamed Bd.named
      have hnm := (name_of_methodNamed Bd.named Bd.method).1
      have X0 : Stand p l e ({ frames := 0, cells := 0, slots := 0, locals := 0 } : Room) s m #[(.int p1)] below meth c s₁ [] 0 0 := Stand.of_body Bd
      have e0 : s₁.heap = h0 := by rw [← hh, Bd.state]; rfl
      have N0 := Fr.nil n0
      have pre0 : ∀ t, Steps p.tables e below (s₁.setTop (mkF m 0 #[.val (.int p1)] [])) t → Steps p.tables e below (s₁.setTop (entryFrame m #[(.int p1)] 1)) t := fun t k => castTop (ef_1 m p1) k
      obtain ⟨fs, hr, hrun, hended, hW, hsame⟩ := X0.leave (v := some (.int (p1 + (8192 : Int32)))) (fun h => by rw [Bd.returns] at h; cases h)
      refine ⟨_, _, pre0 _ ?_, hrun, hended, _, _, rfl, ?_, ⟨_, rfl⟩, hW, hsame.mono (by decide) (by decide)⟩
      · show Steps p.tables e below (s₁.setTop (mkF m 0 #[.val (.int p1)] [])) _
        refine XS.iloadN X0.here hx rfl (hb hby d1_0) rfl ?_
        show Steps p.tables e below (s₁.setTop (mkF m 1 #[.val (.int p1)] [(.int p1)])) _
        refine X0.ldcInt hx hown (mvT hZ (hw _ (List.mem_of_getElem? (i := 4) rfl))) (g := (mkF m 1 #[.val (.int p1)] [(.int p1)])) rfl (hb hby d1_1) _ ?_
        show Steps p.tables e below (s₁.setTop (mkF m 3 #[.val (.int p1)] [(.int (57344 : Int32)), (.int p1)])) _
        refine XS.icmpYes X0.here hx rfl (pc0 := 3) (pc' := 12) rfl (hb hby d1_3) rfl (tlt hc3).1 (by decide) (by decide) ?_
        show Steps p.tables e below (s₁.setTop (mkF m 12 #[.val (.int p1)] [])) _
        refine XS.iloadN X0.here hx rfl (hb hby d1_12) rfl ?_
        show Steps p.tables e below (s₁.setTop (mkF m 13 #[.val (.int p1)] [(.int p1)])) _
        refine X0.ldcInt hx hown (mvT hZ (hw _ (List.mem_of_getElem? (i := 5) rfl))) (g := (mkF m 13 #[.val (.int p1)] [(.int p1)])) rfl (hb hby d1_13) _ ?_
        show Steps p.tables e below (s₁.setTop (mkF m 15 #[.val (.int p1)] [(.int (55296 : Int32)), (.int p1)])) _
        refine XS.icmpNo X0.here hx rfl (hb hby d1_15) rfl (flt hc15).1 ?_
        show Steps p.tables e below (s₁.setTop (mkF m 18 #[.val (.int p1)] [])) _
        refine XS.iloadN X0.here hx rfl (hb hby d1_18) rfl ?_
        show Steps p.tables e below (s₁.setTop (mkF m 19 #[.val (.int p1)] [(.int p1)])) _
        refine XS.sipush X0.here hx rfl (hb hby d1_19) ?_
        show Steps p.tables e below (s₁.setTop (mkF m 22 #[.val (.int p1)] [(.int (8192 : Int32)), (.int p1)])) _
        refine XS.iadd X0.here hx rfl (hb hby d1_22) rfl ?_
        show Steps p.tables e below (s₁.setTop (mkF m 23 #[.val (.int p1)] [(.int (p1 + (8192 : Int32)))])) _
        exact retI X0 hx Bd.returns (hb hby d1_23) hr
      · show Q1 _ h0 n0 _ s₁.heap _
        rw [e0]
        exact ⟨rfl, N0, rfl⟩
  · rw [show r = (p1 - (2048 : Int32)) by rw [hr0, if_neg hc3]]
    refine MetFree.of_bodySF (plainFor_of_name pn_1) hisR ?_
    intro p e s m args below meth c s₁ Bd hml0 hP hK
    obtain ⟨rfl, hZ, hh⟩ := hP
    have hx := Bd.exec
    have hby := Bd.bytes
    have hml : c.maxLocals = 1 := hml0
    have hown : s.vm.findClass "com/example/columnweave/columnweave/format/Text" = some m.cls := findClass_of_methodNamed Bd.named
    have hnm := (name_of_methodNamed Bd.named Bd.method).1
    have X0 : Stand p l e ({ frames := 0, cells := 0, slots := 0, locals := 0 } : Room) s m #[(.int p1)] below meth c s₁ [] 0 0 := Stand.of_body Bd
    have e0 : s₁.heap = h0 := by rw [← hh, Bd.state]; rfl
    have N0 := Fr.nil n0
    have pre0 : ∀ t, Steps p.tables e below (s₁.setTop (mkF m 0 #[.val (.int p1)] [])) t → Steps p.tables e below (s₁.setTop (entryFrame m #[(.int p1)] 1)) t := fun t k => castTop (ef_1 m p1) k
    obtain ⟨fs, hr, hrun, hended, hW, hsame⟩ := X0.leave (v := some (.int (p1 - (2048 : Int32)))) (fun h => by rw [Bd.returns] at h; cases h)
    refine ⟨_, _, pre0 _ ?_, hrun, hended, _, _, rfl, ?_, ⟨_, rfl⟩, hW, hsame.mono (by decide) (by decide)⟩
    · show Steps p.tables e below (s₁.setTop (mkF m 0 #[.val (.int p1)] [])) _
      refine XS.iloadN X0.here hx rfl (hb hby d1_0) rfl ?_
      show Steps p.tables e below (s₁.setTop (mkF m 1 #[.val (.int p1)] [(.int p1)])) _
      refine X0.ldcInt hx hown (mvT hZ (hw _ (List.mem_of_getElem? (i := 4) rfl))) (g := (mkF m 1 #[.val (.int p1)] [(.int p1)])) rfl (hb hby d1_1) _ ?_
      show Steps p.tables e below (s₁.setTop (mkF m 3 #[.val (.int p1)] [(.int (57344 : Int32)), (.int p1)])) _
      refine XS.icmpNo X0.here hx rfl (hb hby d1_3) rfl (flt hc3).1 ?_
      show Steps p.tables e below (s₁.setTop (mkF m 6 #[.val (.int p1)] [])) _
      refine XS.iloadN X0.here hx rfl (hb hby d1_6) rfl ?_
      show Steps p.tables e below (s₁.setTop (mkF m 7 #[.val (.int p1)] [(.int p1)])) _
      refine XS.sipush X0.here hx rfl (hb hby d1_7) ?_
      show Steps p.tables e below (s₁.setTop (mkF m 10 #[.val (.int p1)] [(.int (2048 : Int32)), (.int p1)])) _
      refine XS.isub X0.here hx rfl (hb hby d1_10) rfl ?_
      show Steps p.tables e below (s₁.setTop (mkF m 11 #[.val (.int p1)] [(.int (p1 - (2048 : Int32)))])) _
      exact retI X0 hx Bd.returns (hb hby d1_11) hr
    · show Q1 _ h0 n0 _ s₁.heap _
      rw [e0]
      exact ⟨rfl, N0, rfl⟩
theorem d3_0 : decode method_3_code 0 = .ok (.iload_n 0, 1) := by decide +kernel
theorem d3_1 : decode method_3_code 1 = .ok (.ldc 14, 2) := by decide +kernel
theorem d3_3 : decode method_3_code 3 = .ok (.if_icmp .ge 5, 3) := by decide +kernel
theorem d3_6 : decode method_3_code 6 = .ok (.iconst 0, 1) := by decide +kernel
theorem d3_7 : decode method_3_code 7 = .ok (.ireturn, 1) := by decide +kernel
theorem pn_3 : plainName "com/example/columnweave/columnweave/format/TextUnitOrderPinLaw" = true := by first | (simp [plainName, overriddenIn]; done) | decide +kernel
theorem ef_3 (m : MethodId) (x0 : Int32) : entryFrame m #[(.int x0)] 1 = mkF m 0 #[.val (.int x0)] [] := by first | (simp [entryFrame, mkF, argsToLocals, Value.category]; done) | rfl
theorem d3_8 : decode method_3_code 8 = .ok (.iload_n 0, 1) := by decide +kernel
theorem d3_9 : decode method_3_code 9 = .ok (.ldc 21, 2) := by decide +kernel
theorem d3_11 : decode method_3_code 11 = .ok (.if_icmp .lt 5, 3) := by decide +kernel
theorem d3_14 : decode method_3_code 14 = .ok (.iconst 1, 1) := by decide +kernel
theorem d3_15 : decode method_3_code 15 = .ok (.ireturn, 1) := by decide +kernel
theorem d3_16 : decode method_3_code 16 = .ok (.iconst 2, 1) := by decide +kernel
theorem d3_17 : decode method_3_code 17 = .ok (.ireturn, 1) := by decide +kernel
def Q3 (r : Int32) (h0 : Heap) (n0 : Nat) (v : Option Value) (h : Heap) (L : List Loc) : Prop := v = some (.int r) ∧ Fr n0 L ∧ h = h0
set_option maxRecDepth 65536 in
set_option maxHeartbeats 40000000 in
theorem rm3 (l : Launch) (Z : State) (a0 : Array Value) (hw : ∀ d ∈ tables_1, d.before a0 Z = true) (ws : List Jvm.Cond) (p1 : Int32) (r : Int32) (h0 : Heap) (n0 : Nat) (Z0 : n0 ≤ h0.size) (hr0 : r = if p1 < (55296 : Int32) then (0 : Int32) else if p1 < (57344 : Int32) then (2 : Int32) else (1 : Int32)) :
    MetFree l (⟨"com/example/columnweave/columnweave/format/TextUnitOrderPinLaw", "rank", "(C)I"⟩ : MethodName) (head1 (Jvm.Cond.code (⟨"com/example/columnweave/columnweave/format/TextUnitOrderPinLaw", "rank", "(C)I"⟩ : MethodName) method_3_code 1 (some .int) :: ws) ({ frames := 0, cells := 0, slots := 0, locals := 0 } : Room)) (fun a U => a = #[(.int p1)] ∧ Z.Warmed39 U.vm ∧ U.heap = h0) (fun _ _ _ _ _ => True) (fun _ U o U' => ∃ v L, o = .returned v ∧ Q3 r h0 n0 v U'.heap L ∧ FrameEnd U o U' L ({ frames := 0, cells := 0, slots := 0, locals := 0 } : Room).cells ({ frames := 0, cells := 0, slots := 0, locals := 0 } : Room).slots) := by
  by_cases hc3 : p1 < (55296 : Int32)
  · rw [show r = (0 : Int32) by rw [hr0, if_pos hc3]]
    refine MetFree.of_bodySF (plainFor_of_name pn_3) hisR ?_
    intro p e s m args below meth c s₁ Bd hml0 hP hK
    obtain ⟨rfl, hZ, hh⟩ := hP
    have hx := Bd.exec
    have hby := Bd.bytes
    have hml : c.maxLocals = 1 := hml0
    have hown : s.vm.findClass "com/example/columnweave/columnweave/format/TextUnitOrderPinLaw" = some m.cls := findClass_of_methodNamed Bd.named
    have hnm := (name_of_methodNamed Bd.named Bd.method).1
    have X0 : Stand p l e ({ frames := 0, cells := 0, slots := 0, locals := 0 } : Room) s m #[(.int p1)] below meth c s₁ [] 0 0 := Stand.of_body Bd
    have e0 : s₁.heap = h0 := by rw [← hh, Bd.state]; rfl
    have N0 := Fr.nil n0
    have pre0 : ∀ t, Steps p.tables e below (s₁.setTop (mkF m 0 #[.val (.int p1)] [])) t → Steps p.tables e below (s₁.setTop (entryFrame m #[(.int p1)] 1)) t := fun t k => castTop (ef_3 m p1) k
    obtain ⟨fs, hr, hrun, hended, hW, hsame⟩ := X0.leave (v := some (.int (0 : Int32))) (fun h => by rw [Bd.returns] at h; cases h)
    refine ⟨_, _, pre0 _ ?_, hrun, hended, _, _, rfl, ?_, ⟨_, rfl⟩, hW, hsame.mono (by decide) (by decide)⟩
    · show Steps p.tables e below (s₁.setTop (mkF m 0 #[.val (.int p1)] [])) _
      refine XS.iloadN X0.here hx rfl (hb hby d3_0) rfl ?_
      show Steps p.tables e below (s₁.setTop (mkF m 1 #[.val (.int p1)] [(.int p1)])) _
      refine X0.ldcInt hx hown (mvT hZ (hw _ (List.mem_of_getElem? (i := 7) rfl))) (g := (mkF m 1 #[.val (.int p1)] [(.int p1)])) rfl (hb hby d3_1) _ ?_
      show Steps p.tables e below (s₁.setTop (mkF m 3 #[.val (.int p1)] [(.int (55296 : Int32)), (.int p1)])) _
      refine XS.icmpNo X0.here hx rfl (hb hby d3_3) rfl (tlt hc3).2.1 ?_
      show Steps p.tables e below (s₁.setTop (mkF m 6 #[.val (.int p1)] [])) _
      refine XS.iconst X0.here hx rfl (hb hby d3_6) ?_
      show Steps p.tables e below (s₁.setTop (mkF m 7 #[.val (.int p1)] [(.int (0 : Int32))])) _
      exact retI X0 hx Bd.returns (hb hby d3_7) hr
    · show Q3 _ h0 n0 _ s₁.heap _
      rw [e0]
      exact ⟨rfl, N0, rfl⟩
  · skip
    by_cases hc11 : p1 < (57344 : Int32)
    · rw [show r = (2 : Int32) by rw [hr0, if_neg hc3, if_pos hc11]]
      refine MetFree.of_bodySF (plainFor_of_name pn_3) hisR ?_
      intro p e s m args below meth c s₁ Bd hml0 hP hK
      obtain ⟨rfl, hZ, hh⟩ := hP
      have hx := Bd.exec
      have hby := Bd.bytes
      have hml : c.maxLocals = 1 := hml0
      have hown : s.vm.findClass "com/example/columnweave/columnweave/format/TextUnitOrderPinLaw" = some m.cls := findClass_of_methodNamed Bd.named
      have hnm := (name_of_methodNamed Bd.named Bd.method).1
      have X0 : Stand p l e ({ frames := 0, cells := 0, slots := 0, locals := 0 } : Room) s m #[(.int p1)] below meth c s₁ [] 0 0 := Stand.of_body Bd
      have e0 : s₁.heap = h0 := by rw [← hh, Bd.state]; rfl
      have N0 := Fr.nil n0
      have pre0 : ∀ t, Steps p.tables e below (s₁.setTop (mkF m 0 #[.val (.int p1)] [])) t → Steps p.tables e below (s₁.setTop (entryFrame m #[(.int p1)] 1)) t := fun t k => castTop (ef_3 m p1) k
      obtain ⟨fs, hr, hrun, hended, hW, hsame⟩ := X0.leave (v := some (.int (2 : Int32))) (fun h => by rw [Bd.returns] at h; cases h)
      refine ⟨_, _, pre0 _ ?_, hrun, hended, _, _, rfl, ?_, ⟨_, rfl⟩, hW, hsame.mono (by decide) (by decide)⟩
      · show Steps p.tables e below (s₁.setTop (mkF m 0 #[.val (.int p1)] [])) _
        refine XS.iloadN X0.here hx rfl (hb hby d3_0) rfl ?_
        show Steps p.tables e below (s₁.setTop (mkF m 1 #[.val (.int p1)] [(.int p1)])) _
        refine X0.ldcInt hx hown (mvT hZ (hw _ (List.mem_of_getElem? (i := 7) rfl))) (g := (mkF m 1 #[.val (.int p1)] [(.int p1)])) rfl (hb hby d3_1) _ ?_
        show Steps p.tables e below (s₁.setTop (mkF m 3 #[.val (.int p1)] [(.int (55296 : Int32)), (.int p1)])) _
        refine XS.icmpYes X0.here hx rfl (pc0 := 3) (pc' := 8) rfl (hb hby d3_3) rfl (flt hc3).2.1 (by decide) (by decide) ?_
        show Steps p.tables e below (s₁.setTop (mkF m 8 #[.val (.int p1)] [])) _
        refine XS.iloadN X0.here hx rfl (hb hby d3_8) rfl ?_
        show Steps p.tables e below (s₁.setTop (mkF m 9 #[.val (.int p1)] [(.int p1)])) _
        refine X0.ldcInt hx hown (mvT hZ (hw _ (List.mem_of_getElem? (i := 15) rfl))) (g := (mkF m 9 #[.val (.int p1)] [(.int p1)])) rfl (hb hby d3_9) _ ?_
        show Steps p.tables e below (s₁.setTop (mkF m 11 #[.val (.int p1)] [(.int (57344 : Int32)), (.int p1)])) _
        refine XS.icmpYes X0.here hx rfl (pc0 := 11) (pc' := 16) rfl (hb hby d3_11) rfl (tlt hc11).1 (by decide) (by decide) ?_
        show Steps p.tables e below (s₁.setTop (mkF m 16 #[.val (.int p1)] [])) _
        refine XS.iconst X0.here hx rfl (hb hby d3_16) ?_
        show Steps p.tables e below (s₁.setTop (mkF m 17 #[.val (.int p1)] [(.int (2 : Int32))])) _
        exact retI X0 hx Bd.returns (hb hby d3_17) hr
      · show Q3 _ h0 n0 _ s₁.heap _
        rw [e0]
        exact ⟨rfl, N0, rfl⟩
    · rw [show r = (1 : Int32) by rw [hr0, if_neg hc3, if_neg hc11]]
      refine MetFree.of_bodySF (plainFor_of_name pn_3) hisR ?_
      intro p e s m args below meth c s₁ Bd hml0 hP hK
      obtain ⟨rfl, hZ, hh⟩ := hP
      have hx := Bd.exec
      have hby := Bd.bytes
      have hml : c.maxLocals = 1 := hml0
      have hown : s.vm.findClass "com/example/columnweave/columnweave/format/TextUnitOrderPinLaw" = some m.cls := findClass_of_methodNamed Bd.named
      have hnm := (name_of_methodNamed Bd.named Bd.method).1
      have X0 : Stand p l e ({ frames := 0, cells := 0, slots := 0, locals := 0 } : Room) s m #[(.int p1)] below meth c s₁ [] 0 0 := Stand.of_body Bd
      have e0 : s₁.heap = h0 := by rw [← hh, Bd.state]; rfl
      have N0 := Fr.nil n0
      have pre0 : ∀ t, Steps p.tables e below (s₁.setTop (mkF m 0 #[.val (.int p1)] [])) t → Steps p.tables e below (s₁.setTop (entryFrame m #[(.int p1)] 1)) t := fun t k => castTop (ef_3 m p1) k
      obtain ⟨fs, hr, hrun, hended, hW, hsame⟩ := X0.leave (v := some (.int (1 : Int32))) (fun h => by rw [Bd.returns] at h; cases h)
      refine ⟨_, _, pre0 _ ?_, hrun, hended, _, _, rfl, ?_, ⟨_, rfl⟩, hW, hsame.mono (by decide) (by decide)⟩
      · show Steps p.tables e below (s₁.setTop (mkF m 0 #[.val (.int p1)] [])) _
        refine XS.iloadN X0.here hx rfl (hb hby d3_0) rfl ?_
        show Steps p.tables e below (s₁.setTop (mkF m 1 #[.val (.int p1)] [(.int p1)])) _
        refine X0.ldcInt hx hown (mvT hZ (hw _ (List.mem_of_getElem? (i := 7) rfl))) (g := (mkF m 1 #[.val (.int p1)] [(.int p1)])) rfl (hb hby d3_1) _ ?_
        show Steps p.tables e below (s₁.setTop (mkF m 3 #[.val (.int p1)] [(.int (55296 : Int32)), (.int p1)])) _
        refine XS.icmpYes X0.here hx rfl (pc0 := 3) (pc' := 8) rfl (hb hby d3_3) rfl (flt hc3).2.1 (by decide) (by decide) ?_
        show Steps p.tables e below (s₁.setTop (mkF m 8 #[.val (.int p1)] [])) _
        refine XS.iloadN X0.here hx rfl (hb hby d3_8) rfl ?_
        show Steps p.tables e below (s₁.setTop (mkF m 9 #[.val (.int p1)] [(.int p1)])) _
        refine X0.ldcInt hx hown (mvT hZ (hw _ (List.mem_of_getElem? (i := 15) rfl))) (g := (mkF m 9 #[.val (.int p1)] [(.int p1)])) rfl (hb hby d3_9) _ ?_
        show Steps p.tables e below (s₁.setTop (mkF m 11 #[.val (.int p1)] [(.int (57344 : Int32)), (.int p1)])) _
        refine XS.icmpNo X0.here hx rfl (hb hby d3_11) rfl (flt hc11).1 ?_
        show Steps p.tables e below (s₁.setTop (mkF m 14 #[.val (.int p1)] [])) _
        refine XS.iconst X0.here hx rfl (hb hby d3_14) ?_
        show Steps p.tables e below (s₁.setTop (mkF m 15 #[.val (.int p1)] [(.int (1 : Int32))])) _
        exact retI X0 hx Bd.returns (hb hby d3_15) hr
      · show Q3 _ h0 n0 _ s₁.heap _
        rw [e0]
        exact ⟨rfl, N0, rfl⟩
theorem d2_0 : decode method_4_code 0 = .ok (.iload_n 0, 1) := by decide +kernel
theorem d2_1 : decode method_4_code 1 = .ok (.invokestatic 22, 3) := by decide +kernel
theorem d2_4 : decode method_4_code 4 = .ok (.istore_n 2, 1) := by decide +kernel
theorem d2_5 : decode method_4_code 5 = .ok (.iload_n 1, 1) := by decide +kernel
theorem d2_6 : decode method_4_code 6 = .ok (.invokestatic 22, 3) := by decide +kernel
theorem d2_9 : decode method_4_code 9 = .ok (.istore_n 3, 1) := by decide +kernel
theorem d2_10 : decode method_4_code 10 = .ok (.iload_n 2, 1) := by decide +kernel
theorem d2_11 : decode method_4_code 11 = .ok (.iload_n 3, 1) := by decide +kernel
theorem d2_12 : decode method_4_code 12 = .ok (.if_icmp .eq 14, 3) := by decide +kernel
theorem d2_26 : decode method_4_code 26 = .ok (.iload_n 0, 1) := by decide +kernel
theorem d2_27 : decode method_4_code 27 = .ok (.iload_n 1, 1) := by decide +kernel
theorem d2_28 : decode method_4_code 28 = .ok (.if_icmp .ge 7, 3) := by decide +kernel
theorem d2_31 : decode method_4_code 31 = .ok (.iconst 1, 1) := by decide +kernel
theorem d2_32 : decode method_4_code 32 = .ok (.goto 4, 3) := by decide +kernel
theorem d2_36 : decode method_4_code 36 = .ok (.ireturn, 1) := by decide +kernel
theorem pn_2 : plainName "com/example/columnweave/columnweave/format/TextUnitOrderPinLaw" = true := by first | (simp [plainName, overriddenIn]; done) | decide +kernel
theorem pd_2_0 : parseMethodDescriptor "(C)I" = some ⟨[.char], some .int⟩ := by decide +kernel
theorem ef_2 (m : MethodId) (x0 : Int32) (x1 : Int32) : entryFrame m #[(.int x0), (.int x1)] 4 = mkF m 0 #[.val (.int x0), .val (.int x1), .unset, .unset] [] := by first | (simp [entryFrame, mkF, argsToLocals, Value.category]; done) | rfl
theorem d2_35 : decode method_4_code 35 = .ok (.iconst 0, 1) := by decide +kernel
theorem d2_15 : decode method_4_code 15 = .ok (.iload_n 2, 1) := by decide +kernel
theorem d2_16 : decode method_4_code 16 = .ok (.iload_n 3, 1) := by decide +kernel
theorem d2_17 : decode method_4_code 17 = .ok (.if_icmp .ge 7, 3) := by decide +kernel
theorem d2_20 : decode method_4_code 20 = .ok (.iconst 1, 1) := by decide +kernel
theorem d2_21 : decode method_4_code 21 = .ok (.goto 4, 3) := by decide +kernel
theorem d2_25 : decode method_4_code 25 = .ok (.ireturn, 1) := by decide +kernel
theorem d2_24 : decode method_4_code 24 = .ok (.iconst 0, 1) := by decide +kernel
def Q2 (r : Int32) (h0 : Heap) (n0 : Nat) (v : Option Value) (h : Heap) (L : List Loc) : Prop := v = some (.int r) ∧ Fr n0 L ∧ h = h0
set_option maxRecDepth 65536 in
set_option maxHeartbeats 40000000 in
theorem rm2 (l : Launch) (Z : State) (a0 : Array Value) (hw : ∀ d ∈ tables_1, d.before a0 Z = true) (ws : List Jvm.Cond) (p1 : Int32) (p2 : Int32) (ra rb r : Int32) (h0 : Heap) (n0 : Nat) (Z0 : n0 ≤ h0.size) (hra : ra = if p1 < (55296 : Int32) then (0 : Int32) else if p1 < (57344 : Int32) then (2 : Int32) else (1 : Int32)) (hrb : rb = if p2 < (55296 : Int32) then (0 : Int32) else if p2 < (57344 : Int32) then (2 : Int32) else (1 : Int32)) (hr0 : r = if ra = rb then (if p1 < p2 then (1 : Int32) else (0 : Int32)) else (if ra < rb then (1 : Int32) else (0 : Int32))) :
    MetFree l (⟨"com/example/columnweave/columnweave/format/TextUnitOrderPinLaw", "before", "(CC)Z"⟩ : MethodName) (head1 (Jvm.Cond.code (⟨"com/example/columnweave/columnweave/format/TextUnitOrderPinLaw", "before", "(CC)Z"⟩ : MethodName) method_4_code 4 (some .boolean) :: ws) ({ frames := 1, cells := 0, slots := 0, locals := 12 } : Room)) (fun a U => a = #[(.int p1), (.int p2)] ∧ Z.Warmed39 U.vm ∧ U.heap = h0) (fun _ _ _ _ _ => True) (fun _ U o U' => ∃ v L, o = .returned v ∧ Q2 r h0 n0 v U'.heap L ∧ FrameEnd U o U' L ({ frames := 1, cells := 0, slots := 0, locals := 12 } : Room).cells ({ frames := 1, cells := 0, slots := 0, locals := 12 } : Room).slots) := by
  by_cases h12 : ra = rb
  · by_cases hc28 : p1 < p2
    · obtain rfl : r = (1 : Int32) := by rw [hr0, if_pos h12, if_pos hc28]
      refine MetFree.of_bodySF (plainFor_of_name pn_2) hisR ?_
      intro p e s m args below meth c s₁ Bd hml0 hP hK
      obtain ⟨rfl, hZ, hh⟩ := hP
      have hx := Bd.exec
      have hby := Bd.bytes
      have hml : c.maxLocals = 4 := hml0
      have hown : s.vm.findClass "com/example/columnweave/columnweave/format/TextUnitOrderPinLaw" = some m.cls := findClass_of_methodNamed Bd.named
      have hnm := (name_of_methodNamed Bd.named Bd.method).1
      have X0 : Stand p l e ({ frames := 1, cells := 0, slots := 0, locals := 12 } : Room) s m #[(.int p1), (.int p2)] below meth c s₁ [] 0 0 := Stand.of_body Bd
      have e0 : s₁.heap = h0 := by rw [← hh, Bd.state]; rfl
      have N0 := Fr.nil n0
      have pre0 : ∀ t, Steps p.tables e below (s₁.setTop (mkF m 0 #[.val (.int p1), .val (.int p2), .unset, .unset] [])) t → Steps p.tables e below (s₁.setTop (entryFrame m #[(.int p1), (.int p2)] 4)) t := fun t k => castTop (ef_2 m p1 p2) k
      obtain ⟨_, _, ⟨T3, L3, k3, n3⟩, -, X3, ⟨Lc3, hQ3, l3, y3, z3⟩, st3⟩ := Jvm.LawKit.callS X0 hx (y := (⟨"com/example/columnweave/columnweave/format/TextUnitOrderPinLaw", "rank", "(C)I"⟩ : MethodName)) hown (mvT hZ (hw _ (List.mem_of_getElem? (i := 12) rfl))) (mvT hZ (hw _ (List.mem_of_getElem? (i := 13) rfl))) (mvT hZ (hw _ (List.mem_of_getElem? (i := 10) rfl))) (mvT hZ (hw _ (List.mem_of_getElem? (i := 14) rfl))) (by decide) (backOf (W := 0) (rm3 l Z a0 hw [] p1 ra h0 n0 Z0 hra) hZ (hw _ (List.mem_of_getElem? (i := 14) rfl)) (hw _ (List.mem_of_getElem? (i := 10) rfl)) (by decide) (by decide)) (g := (mkF m 1 #[.val (.int p1), .val (.int p2), .unset, .unset] [(.int p1)])) rfl (by rw [hml]; rfl) (argsL := [(.int p1)]) (rest := []) (lenOf pd_2_0 rfl) rfl (by show 2 * 0 + _ ≤ _; exact Nat.le_of_eq rfl) (hb hby d2_1) (fun _ _ => ⟨rfl, e0, (by decide : 0 + 0 ≤ _), (by decide : 0 + 0 ≤ _)⟩)
      dsimp only [Pt.U, Pt.locs, Pt.cells, Pt.slots] at X3 l3 y3 z3 st3 hQ3
      subst l3 y3 z3
      obtain ⟨rfl, N3q, e3⟩ := hQ3
      have N3 := Fr.app N0 N3q
      obtain ⟨_, _, ⟨T4, L4, k4, n4⟩, -, X4, ⟨Lc4, hQ4, l4, y4, z4⟩, st4⟩ := Jvm.LawKit.callS X3 hx (y := (⟨"com/example/columnweave/columnweave/format/TextUnitOrderPinLaw", "rank", "(C)I"⟩ : MethodName)) hown (mvT hZ (hw _ (List.mem_of_getElem? (i := 12) rfl))) (mvT hZ (hw _ (List.mem_of_getElem? (i := 13) rfl))) (mvT hZ (hw _ (List.mem_of_getElem? (i := 10) rfl))) (mvT hZ (hw _ (List.mem_of_getElem? (i := 14) rfl))) (by decide) (backOf (W := 0) (rm3 l Z a0 hw [] p2 rb h0 n0 Z0 hrb) hZ (hw _ (List.mem_of_getElem? (i := 14) rfl)) (hw _ (List.mem_of_getElem? (i := 10) rfl)) (by decide) (by decide)) (g := (mkF m 6 #[.val (.int p1), .val (.int p2), .val (.int ra), .unset] [(.int p2)])) rfl (by rw [hml]; rfl) (argsL := [(.int p2)]) (rest := []) (lenOf pd_2_0 rfl) rfl (by show 2 * 0 + _ ≤ _; exact Nat.le_of_eq rfl) (hb hby d2_6) (fun _ _ => ⟨rfl, e3, (by decide : 0 + 0 ≤ _), (by decide : 0 + 0 ≤ _)⟩)
      dsimp only [Pt.U, Pt.locs, Pt.cells, Pt.slots] at X4 l4 y4 z4 st4 hQ4
      subst l4 y4 z4
      obtain ⟨rfl, N4q, e4⟩ := hQ4
      have N4 := Fr.app N3 N4q
      obtain ⟨fs, hr, hrun, hended, hW, hsame⟩ := X4.leave (v := some (.int (1 : Int32))) (fun h => by rw [Bd.returns] at h; cases h)
      refine ⟨_, _, pre0 _ ?_, hrun, hended, _, _, rfl, ?_, ⟨_, rfl⟩, hW, hsame.mono (by decide) (by decide)⟩
      · show Steps p.tables e below (s₁.setTop (mkF m 0 #[.val (.int p1), .val (.int p2), .unset, .unset] [])) _
        refine XS.iloadN X0.here hx rfl (hb hby d2_0) rfl ?_
        show Steps p.tables e below (s₁.setTop (mkF m 1 #[.val (.int p1), .val (.int p2), .unset, .unset] [(.int p1)])) _
        refine st3 _ ?_
        show Steps p.tables e below (T3.setTop (mkF m 4 #[.val (.int p1), .val (.int p2), .unset, .unset] [(.int ra)])) _
        refine XS.istoreN X3.here hx rfl (hb hby d2_4) rfl (l' := #[.val (.int p1), .val (.int p2), .val (.int ra), .unset]) rfl ?_
        show Steps p.tables e below (T3.setTop (mkF m 5 #[.val (.int p1), .val (.int p2), .val (.int ra), .unset] [])) _
        refine XS.iloadN X3.here hx rfl (hb hby d2_5) rfl ?_
        show Steps p.tables e below (T3.setTop (mkF m 6 #[.val (.int p1), .val (.int p2), .val (.int ra), .unset] [(.int p2)])) _
        refine st4 _ ?_
        show Steps p.tables e below (T4.setTop (mkF m 9 #[.val (.int p1), .val (.int p2), .val (.int ra), .unset] [(.int rb)])) _
        refine XS.istoreN X4.here hx rfl (hb hby d2_9) rfl (l' := #[.val (.int p1), .val (.int p2), .val (.int ra), .val (.int rb)]) rfl ?_
        show Steps p.tables e below (T4.setTop (mkF m 10 #[.val (.int p1), .val (.int p2), .val (.int ra), .val (.int rb)] [])) _
        refine XS.iloadN X4.here hx rfl (hb hby d2_10) rfl ?_
        show Steps p.tables e below (T4.setTop (mkF m 11 #[.val (.int p1), .val (.int p2), .val (.int ra), .val (.int rb)] [(.int ra)])) _
        refine XS.iloadN X4.here hx rfl (hb hby d2_11) rfl ?_
        show Steps p.tables e below (T4.setTop (mkF m 12 #[.val (.int p1), .val (.int p2), .val (.int ra), .val (.int rb)] [(.int rb), (.int ra)])) _
        refine XS.icmpYes X4.here hx rfl (pc0 := 12) (pc' := 26) rfl (hb hby d2_12) rfl (teq h12).1 (by decide) (by decide) ?_
        show Steps p.tables e below (T4.setTop (mkF m 26 #[.val (.int p1), .val (.int p2), .val (.int ra), .val (.int rb)] [])) _
        refine XS.iloadN X4.here hx rfl (hb hby d2_26) rfl ?_
        show Steps p.tables e below (T4.setTop (mkF m 27 #[.val (.int p1), .val (.int p2), .val (.int ra), .val (.int rb)] [(.int p1)])) _
        refine XS.iloadN X4.here hx rfl (hb hby d2_27) rfl ?_
        show Steps p.tables e below (T4.setTop (mkF m 28 #[.val (.int p1), .val (.int p2), .val (.int ra), .val (.int rb)] [(.int p2), (.int p1)])) _
        refine XS.icmpNo X4.here hx rfl (hb hby d2_28) rfl (tlt hc28).2.1 ?_
        show Steps p.tables e below (T4.setTop (mkF m 31 #[.val (.int p1), .val (.int p2), .val (.int ra), .val (.int rb)] [])) _
        refine XS.iconst X4.here hx rfl (hb hby d2_31) ?_
        show Steps p.tables e below (T4.setTop (mkF m 32 #[.val (.int p1), .val (.int p2), .val (.int ra), .val (.int rb)] [(.int (1 : Int32))])) _
        refine XS.goto X4.here hx rfl (pc0 := 32) (pc' := 36) rfl (hb hby d2_32) (by decide) (by decide) ?_
        show Steps p.tables e below (T4.setTop (mkF m 36 #[.val (.int p1), .val (.int p2), .val (.int ra), .val (.int rb)] [(.int (1 : Int32))])) _
        exact retN X4 hx (t := .boolean) Bd.returns (by simp) (hb hby d2_36) hr
      · show Q2 _ h0 n0 _ T4.heap _
        rw [e4]
        exact ⟨rfl, N4, rfl⟩
    · obtain rfl : r = (0 : Int32) := by rw [hr0, if_pos h12, if_neg hc28]
      refine MetFree.of_bodySF (plainFor_of_name pn_2) hisR ?_
      intro p e s m args below meth c s₁ Bd hml0 hP hK
      obtain ⟨rfl, hZ, hh⟩ := hP
      have hx := Bd.exec
      have hby := Bd.bytes
      have hml : c.maxLocals = 4 := hml0
      have hown : s.vm.findClass "com/example/columnweave/columnweave/format/TextUnitOrderPinLaw" = some m.cls := findClass_of_methodNamed Bd.named
      have hnm := (name_of_methodNamed Bd.named Bd.method).1
      have X0 : Stand p l e ({ frames := 1, cells := 0, slots := 0, locals := 12 } : Room) s m #[(.int p1), (.int p2)] below meth c s₁ [] 0 0 := Stand.of_body Bd
      have e0 : s₁.heap = h0 := by rw [← hh, Bd.state]; rfl
      have N0 := Fr.nil n0
      have pre0 : ∀ t, Steps p.tables e below (s₁.setTop (mkF m 0 #[.val (.int p1), .val (.int p2), .unset, .unset] [])) t → Steps p.tables e below (s₁.setTop (entryFrame m #[(.int p1), (.int p2)] 4)) t := fun t k => castTop (ef_2 m p1 p2) k
      obtain ⟨_, _, ⟨T3, L3, k3, n3⟩, -, X3, ⟨Lc3, hQ3, l3, y3, z3⟩, st3⟩ := Jvm.LawKit.callS X0 hx (y := (⟨"com/example/columnweave/columnweave/format/TextUnitOrderPinLaw", "rank", "(C)I"⟩ : MethodName)) hown (mvT hZ (hw _ (List.mem_of_getElem? (i := 12) rfl))) (mvT hZ (hw _ (List.mem_of_getElem? (i := 13) rfl))) (mvT hZ (hw _ (List.mem_of_getElem? (i := 10) rfl))) (mvT hZ (hw _ (List.mem_of_getElem? (i := 14) rfl))) (by decide) (backOf (W := 0) (rm3 l Z a0 hw [] p1 ra h0 n0 Z0 hra) hZ (hw _ (List.mem_of_getElem? (i := 14) rfl)) (hw _ (List.mem_of_getElem? (i := 10) rfl)) (by decide) (by decide)) (g := (mkF m 1 #[.val (.int p1), .val (.int p2), .unset, .unset] [(.int p1)])) rfl (by rw [hml]; rfl) (argsL := [(.int p1)]) (rest := []) (lenOf pd_2_0 rfl) rfl (by show 2 * 0 + _ ≤ _; exact Nat.le_of_eq rfl) (hb hby d2_1) (fun _ _ => ⟨rfl, e0, (by decide : 0 + 0 ≤ _), (by decide : 0 + 0 ≤ _)⟩)
      dsimp only [Pt.U, Pt.locs, Pt.cells, Pt.slots] at X3 l3 y3 z3 st3 hQ3
      subst l3 y3 z3
      obtain ⟨rfl, N3q, e3⟩ := hQ3
      have N3 := Fr.app N0 N3q
      obtain ⟨_, _, ⟨T4, L4, k4, n4⟩, -, X4, ⟨Lc4, hQ4, l4, y4, z4⟩, st4⟩ := Jvm.LawKit.callS X3 hx (y := (⟨"com/example/columnweave/columnweave/format/TextUnitOrderPinLaw", "rank", "(C)I"⟩ : MethodName)) hown (mvT hZ (hw _ (List.mem_of_getElem? (i := 12) rfl))) (mvT hZ (hw _ (List.mem_of_getElem? (i := 13) rfl))) (mvT hZ (hw _ (List.mem_of_getElem? (i := 10) rfl))) (mvT hZ (hw _ (List.mem_of_getElem? (i := 14) rfl))) (by decide) (backOf (W := 0) (rm3 l Z a0 hw [] p2 rb h0 n0 Z0 hrb) hZ (hw _ (List.mem_of_getElem? (i := 14) rfl)) (hw _ (List.mem_of_getElem? (i := 10) rfl)) (by decide) (by decide)) (g := (mkF m 6 #[.val (.int p1), .val (.int p2), .val (.int ra), .unset] [(.int p2)])) rfl (by rw [hml]; rfl) (argsL := [(.int p2)]) (rest := []) (lenOf pd_2_0 rfl) rfl (by show 2 * 0 + _ ≤ _; exact Nat.le_of_eq rfl) (hb hby d2_6) (fun _ _ => ⟨rfl, e3, (by decide : 0 + 0 ≤ _), (by decide : 0 + 0 ≤ _)⟩)
      dsimp only [Pt.U, Pt.locs, Pt.cells, Pt.slots] at X4 l4 y4 z4 st4 hQ4
      subst l4 y4 z4
      obtain ⟨rfl, N4q, e4⟩ := hQ4
      have N4 := Fr.app N3 N4q
      obtain ⟨fs, hr, hrun, hended, hW, hsame⟩ := X4.leave (v := some (.int (0 : Int32))) (fun h => by rw [Bd.returns] at h; cases h)
      refine ⟨_, _, pre0 _ ?_, hrun, hended, _, _, rfl, ?_, ⟨_, rfl⟩, hW, hsame.mono (by decide) (by decide)⟩
      · show Steps p.tables e below (s₁.setTop (mkF m 0 #[.val (.int p1), .val (.int p2), .unset, .unset] [])) _
        refine XS.iloadN X0.here hx rfl (hb hby d2_0) rfl ?_
        show Steps p.tables e below (s₁.setTop (mkF m 1 #[.val (.int p1), .val (.int p2), .unset, .unset] [(.int p1)])) _
        refine st3 _ ?_
        show Steps p.tables e below (T3.setTop (mkF m 4 #[.val (.int p1), .val (.int p2), .unset, .unset] [(.int ra)])) _
        refine XS.istoreN X3.here hx rfl (hb hby d2_4) rfl (l' := #[.val (.int p1), .val (.int p2), .val (.int ra), .unset]) rfl ?_
        show Steps p.tables e below (T3.setTop (mkF m 5 #[.val (.int p1), .val (.int p2), .val (.int ra), .unset] [])) _
        refine XS.iloadN X3.here hx rfl (hb hby d2_5) rfl ?_
        show Steps p.tables e below (T3.setTop (mkF m 6 #[.val (.int p1), .val (.int p2), .val (.int ra), .unset] [(.int p2)])) _
        refine st4 _ ?_
        show Steps p.tables e below (T4.setTop (mkF m 9 #[.val (.int p1), .val (.int p2), .val (.int ra), .unset] [(.int rb)])) _
        refine XS.istoreN X4.here hx rfl (hb hby d2_9) rfl (l' := #[.val (.int p1), .val (.int p2), .val (.int ra), .val (.int rb)]) rfl ?_
        show Steps p.tables e below (T4.setTop (mkF m 10 #[.val (.int p1), .val (.int p2), .val (.int ra), .val (.int rb)] [])) _
        refine XS.iloadN X4.here hx rfl (hb hby d2_10) rfl ?_
        show Steps p.tables e below (T4.setTop (mkF m 11 #[.val (.int p1), .val (.int p2), .val (.int ra), .val (.int rb)] [(.int ra)])) _
        refine XS.iloadN X4.here hx rfl (hb hby d2_11) rfl ?_
        show Steps p.tables e below (T4.setTop (mkF m 12 #[.val (.int p1), .val (.int p2), .val (.int ra), .val (.int rb)] [(.int rb), (.int ra)])) _
        refine XS.icmpYes X4.here hx rfl (pc0 := 12) (pc' := 26) rfl (hb hby d2_12) rfl (teq h12).1 (by decide) (by decide) ?_
        show Steps p.tables e below (T4.setTop (mkF m 26 #[.val (.int p1), .val (.int p2), .val (.int ra), .val (.int rb)] [])) _
        refine XS.iloadN X4.here hx rfl (hb hby d2_26) rfl ?_
        show Steps p.tables e below (T4.setTop (mkF m 27 #[.val (.int p1), .val (.int p2), .val (.int ra), .val (.int rb)] [(.int p1)])) _
        refine XS.iloadN X4.here hx rfl (hb hby d2_27) rfl ?_
        show Steps p.tables e below (T4.setTop (mkF m 28 #[.val (.int p1), .val (.int p2), .val (.int ra), .val (.int rb)] [(.int p2), (.int p1)])) _
        refine XS.icmpYes X4.here hx rfl (pc0 := 28) (pc' := 35) rfl (hb hby d2_28) rfl (flt hc28).2.1 (by decide) (by decide) ?_
        show Steps p.tables e below (T4.setTop (mkF m 35 #[.val (.int p1), .val (.int p2), .val (.int ra), .val (.int rb)] [])) _
        refine XS.iconst X4.here hx rfl (hb hby d2_35) ?_
        show Steps p.tables e below (T4.setTop (mkF m 36 #[.val (.int p1), .val (.int p2), .val (.int ra), .val (.int rb)] [(.int (0 : Int32))])) _
        exact retN X4 hx (t := .boolean) Bd.returns (by simp) (hb hby d2_36) hr
      · show Q2 _ h0 n0 _ T4.heap _
        rw [e4]
        exact ⟨rfl, N4, rfl⟩
  · by_cases h17 : ra < rb
    · obtain rfl : r = (1 : Int32) := by rw [hr0, if_neg h12, if_pos h17]
      refine MetFree.of_bodySF (plainFor_of_name pn_2) hisR ?_
      intro p e s m args below meth c s₁ Bd hml0 hP hK
      obtain ⟨rfl, hZ, hh⟩ := hP
      have hx := Bd.exec
      have hby := Bd.bytes
      have hml : c.maxLocals = 4 := hml0
      have hown : s.vm.findClass "com/example/columnweave/columnweave/format/TextUnitOrderPinLaw" = some m.cls := findClass_of_methodNamed Bd.named
      have hnm := (name_of_methodNamed Bd.named Bd.method).1
      have X0 : Stand p l e ({ frames := 1, cells := 0, slots := 0, locals := 12 } : Room) s m #[(.int p1), (.int p2)] below meth c s₁ [] 0 0 := Stand.of_body Bd
      have e0 : s₁.heap = h0 := by rw [← hh, Bd.state]; rfl
      have N0 := Fr.nil n0
      have pre0 : ∀ t, Steps p.tables e below (s₁.setTop (mkF m 0 #[.val (.int p1), .val (.int p2), .unset, .unset] [])) t → Steps p.tables e below (s₁.setTop (entryFrame m #[(.int p1), (.int p2)] 4)) t := fun t k => castTop (ef_2 m p1 p2) k
      obtain ⟨_, _, ⟨T3, L3, k3, n3⟩, -, X3, ⟨Lc3, hQ3, l3, y3, z3⟩, st3⟩ := Jvm.LawKit.callS X0 hx (y := (⟨"com/example/columnweave/columnweave/format/TextUnitOrderPinLaw", "rank", "(C)I"⟩ : MethodName)) hown (mvT hZ (hw _ (List.mem_of_getElem? (i := 12) rfl))) (mvT hZ (hw _ (List.mem_of_getElem? (i := 13) rfl))) (mvT hZ (hw _ (List.mem_of_getElem? (i := 10) rfl))) (mvT hZ (hw _ (List.mem_of_getElem? (i := 14) rfl))) (by decide) (backOf (W := 0) (rm3 l Z a0 hw [] p1 ra h0 n0 Z0 hra) hZ (hw _ (List.mem_of_getElem? (i := 14) rfl)) (hw _ (List.mem_of_getElem? (i := 10) rfl)) (by decide) (by decide)) (g := (mkF m 1 #[.val (.int p1), .val (.int p2), .unset, .unset] [(.int p1)])) rfl (by rw [hml]; rfl) (argsL := [(.int p1)]) (rest := []) (lenOf pd_2_0 rfl) rfl (by show 2 * 0 + _ ≤ _; exact Nat.le_of_eq rfl) (hb hby d2_1) (fun _ _ => ⟨rfl, e0, (by decide : 0 + 0 ≤ _), (by decide : 0 + 0 ≤ _)⟩)
      dsimp only [Pt.U, Pt.locs, Pt.cells, Pt.slots] at X3 l3 y3 z3 st3 hQ3
      subst l3 y3 z3
      obtain ⟨rfl, N3q, e3⟩ := hQ3
      have N3 := Fr.app N0 N3q
      obtain ⟨_, _, ⟨T4, L4, k4, n4⟩, -, X4, ⟨Lc4, hQ4, l4, y4, z4⟩, st4⟩ := Jvm.LawKit.callS X3 hx (y := (⟨"com/example/columnweave/columnweave/format/TextUnitOrderPinLaw", "rank", "(C)I"⟩ : MethodName)) hown (mvT hZ (hw _ (List.mem_of_getElem? (i := 12) rfl))) (mvT hZ (hw _ (List.mem_of_getElem? (i := 13) rfl))) (mvT hZ (hw _ (List.mem_of_getElem? (i := 10) rfl))) (mvT hZ (hw _ (List.mem_of_getElem? (i := 14) rfl))) (by decide) (backOf (W := 0) (rm3 l Z a0 hw [] p2 rb h0 n0 Z0 hrb) hZ (hw _ (List.mem_of_getElem? (i := 14) rfl)) (hw _ (List.mem_of_getElem? (i := 10) rfl)) (by decide) (by decide)) (g := (mkF m 6 #[.val (.int p1), .val (.int p2), .val (.int ra), .unset] [(.int p2)])) rfl (by rw [hml]; rfl) (argsL := [(.int p2)]) (rest := []) (lenOf pd_2_0 rfl) rfl (by show 2 * 0 + _ ≤ _; exact Nat.le_of_eq rfl) (hb hby d2_6) (fun _ _ => ⟨rfl, e3, (by decide : 0 + 0 ≤ _), (by decide : 0 + 0 ≤ _)⟩)
      dsimp only [Pt.U, Pt.locs, Pt.cells, Pt.slots] at X4 l4 y4 z4 st4 hQ4
      subst l4 y4 z4
      obtain ⟨rfl, N4q, e4⟩ := hQ4
      have N4 := Fr.app N3 N4q
      obtain ⟨fs, hr, hrun, hended, hW, hsame⟩ := X4.leave (v := some (.int (1 : Int32))) (fun h => by rw [Bd.returns] at h; cases h)
      refine ⟨_, _, pre0 _ ?_, hrun, hended, _, _, rfl, ?_, ⟨_, rfl⟩, hW, hsame.mono (by decide) (by decide)⟩
      · show Steps p.tables e below (s₁.setTop (mkF m 0 #[.val (.int p1), .val (.int p2), .unset, .unset] [])) _
        refine XS.iloadN X0.here hx rfl (hb hby d2_0) rfl ?_
        show Steps p.tables e below (s₁.setTop (mkF m 1 #[.val (.int p1), .val (.int p2), .unset, .unset] [(.int p1)])) _
        refine st3 _ ?_
        show Steps p.tables e below (T3.setTop (mkF m 4 #[.val (.int p1), .val (.int p2), .unset, .unset] [(.int ra)])) _
        refine XS.istoreN X3.here hx rfl (hb hby d2_4) rfl (l' := #[.val (.int p1), .val (.int p2), .val (.int ra), .unset]) rfl ?_
        show Steps p.tables e below (T3.setTop (mkF m 5 #[.val (.int p1), .val (.int p2), .val (.int ra), .unset] [])) _
        refine XS.iloadN X3.here hx rfl (hb hby d2_5) rfl ?_
        show Steps p.tables e below (T3.setTop (mkF m 6 #[.val (.int p1), .val (.int p2), .val (.int ra), .unset] [(.int p2)])) _
        refine st4 _ ?_
        show Steps p.tables e below (T4.setTop (mkF m 9 #[.val (.int p1), .val (.int p2), .val (.int ra), .unset] [(.int rb)])) _
        refine XS.istoreN X4.here hx rfl (hb hby d2_9) rfl (l' := #[.val (.int p1), .val (.int p2), .val (.int ra), .val (.int rb)]) rfl ?_
        show Steps p.tables e below (T4.setTop (mkF m 10 #[.val (.int p1), .val (.int p2), .val (.int ra), .val (.int rb)] [])) _
        refine XS.iloadN X4.here hx rfl (hb hby d2_10) rfl ?_
        show Steps p.tables e below (T4.setTop (mkF m 11 #[.val (.int p1), .val (.int p2), .val (.int ra), .val (.int rb)] [(.int ra)])) _
        refine XS.iloadN X4.here hx rfl (hb hby d2_11) rfl ?_
        show Steps p.tables e below (T4.setTop (mkF m 12 #[.val (.int p1), .val (.int p2), .val (.int ra), .val (.int rb)] [(.int rb), (.int ra)])) _
        refine XS.icmpNo X4.here hx rfl (hb hby d2_12) rfl (feq h12).1 ?_
        show Steps p.tables e below (T4.setTop (mkF m 15 #[.val (.int p1), .val (.int p2), .val (.int ra), .val (.int rb)] [])) _
        refine XS.iloadN X4.here hx rfl (hb hby d2_15) rfl ?_
        show Steps p.tables e below (T4.setTop (mkF m 16 #[.val (.int p1), .val (.int p2), .val (.int ra), .val (.int rb)] [(.int ra)])) _
        refine XS.iloadN X4.here hx rfl (hb hby d2_16) rfl ?_
        show Steps p.tables e below (T4.setTop (mkF m 17 #[.val (.int p1), .val (.int p2), .val (.int ra), .val (.int rb)] [(.int rb), (.int ra)])) _
        refine XS.icmpNo X4.here hx rfl (hb hby d2_17) rfl (tlt h17).2.1 ?_
        show Steps p.tables e below (T4.setTop (mkF m 20 #[.val (.int p1), .val (.int p2), .val (.int ra), .val (.int rb)] [])) _
        refine XS.iconst X4.here hx rfl (hb hby d2_20) ?_
        show Steps p.tables e below (T4.setTop (mkF m 21 #[.val (.int p1), .val (.int p2), .val (.int ra), .val (.int rb)] [(.int (1 : Int32))])) _
        refine XS.goto X4.here hx rfl (pc0 := 21) (pc' := 25) rfl (hb hby d2_21) (by decide) (by decide) ?_
        show Steps p.tables e below (T4.setTop (mkF m 25 #[.val (.int p1), .val (.int p2), .val (.int ra), .val (.int rb)] [(.int (1 : Int32))])) _
        exact retN X4 hx (t := .boolean) Bd.returns (by simp) (hb hby d2_25) hr
      · show Q2 _ h0 n0 _ T4.heap _
        rw [e4]
        exact ⟨rfl, N4, rfl⟩
    · obtain rfl : r = (0 : Int32) := by rw [hr0, if_neg h12, if_neg h17]
      refine MetFree.of_bodySF (plainFor_of_name pn_2) hisR ?_
      intro p e s m args below meth c s₁ Bd hml0 hP hK
      obtain ⟨rfl, hZ, hh⟩ := hP
      have hx := Bd.exec
      have hby := Bd.bytes
      have hml : c.maxLocals = 4 := hml0
      have hown : s.vm.findClass "com/example/columnweave/columnweave/format/TextUnitOrderPinLaw" = some m.cls := findClass_of_methodNamed Bd.named
      have hnm := (name_of_methodNamed Bd.named Bd.method).1
      have X0 : Stand p l e ({ frames := 1, cells := 0, slots := 0, locals := 12 } : Room) s m #[(.int p1), (.int p2)] below meth c s₁ [] 0 0 := Stand.of_body Bd
      have e0 : s₁.heap = h0 := by rw [← hh, Bd.state]; rfl
      have N0 := Fr.nil n0
      have pre0 : ∀ t, Steps p.tables e below (s₁.setTop (mkF m 0 #[.val (.int p1), .val (.int p2), .unset, .unset] [])) t → Steps p.tables e below (s₁.setTop (entryFrame m #[(.int p1), (.int p2)] 4)) t := fun t k => castTop (ef_2 m p1 p2) k
      obtain ⟨_, _, ⟨T3, L3, k3, n3⟩, -, X3, ⟨Lc3, hQ3, l3, y3, z3⟩, st3⟩ := Jvm.LawKit.callS X0 hx (y := (⟨"com/example/columnweave/columnweave/format/TextUnitOrderPinLaw", "rank", "(C)I"⟩ : MethodName)) hown (mvT hZ (hw _ (List.mem_of_getElem? (i := 12) rfl))) (mvT hZ (hw _ (List.mem_of_getElem? (i := 13) rfl))) (mvT hZ (hw _ (List.mem_of_getElem? (i := 10) rfl))) (mvT hZ (hw _ (List.mem_of_getElem? (i := 14) rfl))) (by decide) (backOf (W := 0) (rm3 l Z a0 hw [] p1 ra h0 n0 Z0 hra) hZ (hw _ (List.mem_of_getElem? (i := 14) rfl)) (hw _ (List.mem_of_getElem? (i := 10) rfl)) (by decide) (by decide)) (g := (mkF m 1 #[.val (.int p1), .val (.int p2), .unset, .unset] [(.int p1)])) rfl (by rw [hml]; rfl) (argsL := [(.int p1)]) (rest := []) (lenOf pd_2_0 rfl) rfl (by show 2 * 0 + _ ≤ _; exact Nat.le_of_eq rfl) (hb hby d2_1) (fun _ _ => ⟨rfl, e0, (by decide : 0 + 0 ≤ _), (by decide : 0 + 0 ≤ _)⟩)
      dsimp only [Pt.U, Pt.locs, Pt.cells, Pt.slots] at X3 l3 y3 z3 st3 hQ3
      subst l3 y3 z3
      obtain ⟨rfl, N3q, e3⟩ := hQ3
      have N3 := Fr.app N0 N3q
      obtain ⟨_, _, ⟨T4, L4, k4, n4⟩, -, X4, ⟨Lc4, hQ4, l4, y4, z4⟩, st4⟩ := Jvm.LawKit.callS X3 hx (y := (⟨"com/example/columnweave/columnweave/format/TextUnitOrderPinLaw", "rank", "(C)I"⟩ : MethodName)) hown (mvT hZ (hw _ (List.mem_of_getElem? (i := 12) rfl))) (mvT hZ (hw _ (List.mem_of_getElem? (i := 13) rfl))) (mvT hZ (hw _ (List.mem_of_getElem? (i := 10) rfl))) (mvT hZ (hw _ (List.mem_of_getElem? (i := 14) rfl))) (by decide) (backOf (W := 0) (rm3 l Z a0 hw [] p2 rb h0 n0 Z0 hrb) hZ (hw _ (List.mem_of_getElem? (i := 14) rfl)) (hw _ (List.mem_of_getElem? (i := 10) rfl)) (by decide) (by decide)) (g := (mkF m 6 #[.val (.int p1), .val (.int p2), .val (.int ra), .unset] [(.int p2)])) rfl (by rw [hml]; rfl) (argsL := [(.int p2)]) (rest := []) (lenOf pd_2_0 rfl) rfl (by show 2 * 0 + _ ≤ _; exact Nat.le_of_eq rfl) (hb hby d2_6) (fun _ _ => ⟨rfl, e3, (by decide : 0 + 0 ≤ _), (by decide : 0 + 0 ≤ _)⟩)
      dsimp only [Pt.U, Pt.locs, Pt.cells, Pt.slots] at X4 l4 y4 z4 st4 hQ4
      subst l4 y4 z4
      obtain ⟨rfl, N4q, e4⟩ := hQ4
      have N4 := Fr.app N3 N4q
      obtain ⟨fs, hr, hrun, hended, hW, hsame⟩ := X4.leave (v := some (.int (0 : Int32))) (fun h => by rw [Bd.returns] at h; cases h)
      refine ⟨_, _, pre0 _ ?_, hrun, hended, _, _, rfl, ?_, ⟨_, rfl⟩, hW, hsame.mono (by decide) (by decide)⟩
      · show Steps p.tables e below (s₁.setTop (mkF m 0 #[.val (.int p1), .val (.int p2), .unset, .unset] [])) _
        refine XS.iloadN X0.here hx rfl (hb hby d2_0) rfl ?_
        show Steps p.tables e below (s₁.setTop (mkF m 1 #[.val (.int p1), .val (.int p2), .unset, .unset] [(.int p1)])) _
        refine st3 _ ?_
        show Steps p.tables e below (T3.setTop (mkF m 4 #[.val (.int p1), .val (.int p2), .unset, .unset] [(.int ra)])) _
        refine XS.istoreN X3.here hx rfl (hb hby d2_4) rfl (l' := #[.val (.int p1), .val (.int p2), .val (.int ra), .unset]) rfl ?_
        show Steps p.tables e below (T3.setTop (mkF m 5 #[.val (.int p1), .val (.int p2), .val (.int ra), .unset] [])) _
        refine XS.iloadN X3.here hx rfl (hb hby d2_5) rfl ?_
        show Steps p.tables e below (T3.setTop (mkF m 6 #[.val (.int p1), .val (.int p2), .val (.int ra), .unset] [(.int p2)])) _
        refine st4 _ ?_
        show Steps p.tables e below (T4.setTop (mkF m 9 #[.val (.int p1), .val (.int p2), .val (.int ra), .unset] [(.int rb)])) _
        refine XS.istoreN X4.here hx rfl (hb hby d2_9) rfl (l' := #[.val (.int p1), .val (.int p2), .val (.int ra), .val (.int rb)]) rfl ?_
        show Steps p.tables e below (T4.setTop (mkF m 10 #[.val (.int p1), .val (.int p2), .val (.int ra), .val (.int rb)] [])) _
        refine XS.iloadN X4.here hx rfl (hb hby d2_10) rfl ?_
        show Steps p.tables e below (T4.setTop (mkF m 11 #[.val (.int p1), .val (.int p2), .val (.int ra), .val (.int rb)] [(.int ra)])) _
        refine XS.iloadN X4.here hx rfl (hb hby d2_11) rfl ?_
        show Steps p.tables e below (T4.setTop (mkF m 12 #[.val (.int p1), .val (.int p2), .val (.int ra), .val (.int rb)] [(.int rb), (.int ra)])) _
        refine XS.icmpNo X4.here hx rfl (hb hby d2_12) rfl (feq h12).1 ?_
        show Steps p.tables e below (T4.setTop (mkF m 15 #[.val (.int p1), .val (.int p2), .val (.int ra), .val (.int rb)] [])) _
        refine XS.iloadN X4.here hx rfl (hb hby d2_15) rfl ?_
        show Steps p.tables e below (T4.setTop (mkF m 16 #[.val (.int p1), .val (.int p2), .val (.int ra), .val (.int rb)] [(.int ra)])) _
        refine XS.iloadN X4.here hx rfl (hb hby d2_16) rfl ?_
        show Steps p.tables e below (T4.setTop (mkF m 17 #[.val (.int p1), .val (.int p2), .val (.int ra), .val (.int rb)] [(.int rb), (.int ra)])) _
        refine XS.icmpYes X4.here hx rfl (pc0 := 17) (pc' := 24) rfl (hb hby d2_17) rfl (flt h17).2.1 (by decide) (by decide) ?_
        show Steps p.tables e below (T4.setTop (mkF m 24 #[.val (.int p1), .val (.int p2), .val (.int ra), .val (.int rb)] [])) _
        refine XS.iconst X4.here hx rfl (hb hby d2_24) ?_
        show Steps p.tables e below (T4.setTop (mkF m 25 #[.val (.int p1), .val (.int p2), .val (.int ra), .val (.int rb)] [(.int (0 : Int32))])) _
        exact retN X4 hx (t := .boolean) Bd.returns (by simp) (hb hby d2_25) hr
      · show Q2 _ h0 n0 _ T4.heap _
        rw [e4]
        exact ⟨rfl, N4, rfl⟩
theorem own_cls {c o k : Int32} (h0 : 0 ≤ c.toInt) (h1 : c.toInt < 65536) (ho : o = if c < (57344 : Int32) then if c < (55296 : Int32) then c else (c + (8192 : Int32)) else (c - (2048 : Int32))) (hk : k = if c < (55296 : Int32) then (0 : Int32) else if c < (57344 : Int32) then (2 : Int32) else (1 : Int32)) :
    (c.toInt < 55296 ∧ o.toInt = c.toInt ∧ k.toInt = 0) ∨ (55296 ≤ c.toInt ∧ c.toInt < 57344 ∧ o.toInt = c.toInt + 8192 ∧ k.toInt = 2) ∨ (57344 ≤ c.toInt ∧ o.toInt = c.toInt - 2048 ∧ k.toInt = 1) := by
  have e1 : (57344 : Int32).toInt = 57344 := rfl
  have e2 : (55296 : Int32).toInt = 55296 := rfl
  have e3 : (8192 : Int32).toInt = 8192 := rfl
  have e4 : (2048 : Int32).toInt = 2048 := rfl
  have z0 : (0 : Int32).toInt = 0 := rfl
  have z1 : (1 : Int32).toInt = 1 := rfl
  have z2 : (2 : Int32).toInt = 2 := rfl
  have a := c_iadd c 8192
  have ar := rng32 (c + 8192)
  have b := c_isub c 2048
  have br := rng32 (c - 2048)
  simp only [Int32.lt_iff_toInt_lt, e1, e2] at ho hk
  by_cases p : c.toInt < 55296
  · rw [if_pos (by omega), if_pos p] at ho
    rw [if_pos p] at hk
    subst ho hk
    exact Or.inl ⟨p, rfl, z0⟩
  · by_cases q : c.toInt < 57344
    · rw [if_pos q, if_neg p] at ho
      rw [if_neg p, if_pos q] at hk
      subst ho hk
      exact Or.inr (Or.inl ⟨by omega, q, by omega, z2⟩)
    · rw [if_neg q] at ho
      rw [if_neg p, if_neg q] at hk
      subst ho hk
      exact Or.inr (Or.inr ⟨by omega, by omega, z1⟩)
theorem own_all {a b oa ob ra rb r f g1 g2 : Int32} (a0 : 0 ≤ a.toInt) (a1 : a.toInt < 65536) (b0 : 0 ≤ b.toInt) (b1 : b.toInt < 65536) (hoa : oa = if a < (57344 : Int32) then if a < (55296 : Int32) then a else (a + (8192 : Int32)) else (a - (2048 : Int32))) (hob : ob = if b < (57344 : Int32) then if b < (55296 : Int32) then b else (b + (8192 : Int32)) else (b - (2048 : Int32))) (hra : ra = if a < (55296 : Int32) then (0 : Int32) else if a < (57344 : Int32) then (2 : Int32) else (1 : Int32)) (hrb : rb = if b < (55296 : Int32) then (0 : Int32) else if b < (57344 : Int32) then (2 : Int32) else (1 : Int32)) (hr : r = if ra = rb then (if a < b then (1 : Int32) else (0 : Int32)) else (if ra < rb then (1 : Int32) else (0 : Int32)))
    (hf : f = if oa < ob then (1 : Int32) else (0 : Int32)) (h1 : g1 = if oa = ob then (1 : Int32) else (0 : Int32)) (h2 : g2 = if a = b then (1 : Int32) else (0 : Int32)) :
    ¬ (oa < (0 : Int32)) ∧ ¬ ((65535 : Int32) < oa) ∧ ¬ (ob < (0 : Int32)) ∧ ¬ ((65535 : Int32) < ob) ∧ (a < (55296 : Int32) → oa = a) ∧ (b < (55296 : Int32) → ob = b) ∧ f = r ∧ g1 = g2 := by
  have e2 : (55296 : Int32).toInt = 55296 := rfl
  have e5 : (65535 : Int32).toInt = 65535 := rfl
  have z0 : (0 : Int32).toInt = 0 := rfl
  have ca := own_cls a0 a1 hoa hra
  have cb := own_cls b0 b1 hob hrb
  clear hoa hob hra hrb
  subst hr hf h1 h2
  simp only [Int32.lt_iff_toInt_lt, ← Int32.toInt_inj (x := oa), ← Int32.toInt_inj (x := ob), ← Int32.toInt_inj (x := ra), ← Int32.toInt_inj (x := a), e2, e5, z0]
  refine ⟨by omega, by omega, by omega, by omega, by omega, by omega, ?_, ?_⟩
  · by_cases p : oa.toInt < ob.toInt
    · rw [if_pos p]
      by_cases q : ra.toInt = rb.toInt
      · rw [if_pos q, if_pos (by omega)]
      · rw [if_neg q, if_pos (by omega)]
    · rw [if_neg p]
      by_cases q : ra.toInt = rb.toInt
      · rw [if_pos q, if_neg (by omega)]
      · rw [if_neg q, if_neg (by omega)]
  · by_cases p : oa.toInt = ob.toInt
    · rw [if_pos p, if_pos (by omega)]
    · rw [if_neg p, if_neg (by omega)]
theorem pn_0 : plainName "com/example/columnweave/columnweave/format/TextUnitOrderPinLaw" = true := by first | (simp [plainName, overriddenIn]; done) | decide +kernel
theorem pd_0_0 : parseMethodDescriptor "(C)I" = some ⟨[.char], some .int⟩ := by decide +kernel
theorem pd_0_1 : parseMethodDescriptor "(CC)Z" = some ⟨[.char, .char], some .boolean⟩ := by decide +kernel
theorem ef_0 (m : MethodId) (x0 : Int32) (x1 : Int32) : entryFrame m #[(.int x0), (.int x1)] maxLocals = mkF m 0 #[.val (.int x0), .val (.int x1), .unset, .unset, .unset, .unset] [] := by first | (simp [entryFrame, mkF, argsToLocals, Value.category, maxLocals]; done) | rfl
def Q0 (Z : State) (p1 : Int32) (p2 : Int32) (h0 : Heap) (n0 : Nat) (v : Option Value) (h : Heap) (L : List Loc) : Prop := v = some (.int (1 : Int32)) ∧ Fr n0 L
set_option maxRecDepth 65536 in
set_option maxHeartbeats 40000000 in
theorem rm0 (l : Launch) (Z : State) (a0 : Array Value) (hw : ∀ d ∈ tables_1, d.before a0 Z = true) (ws : List Jvm.Cond) (p1 : Int32) (p2 : Int32) (h0 : Heap) (n0 : Nat) (Z0 : n0 ≤ h0.size) :
    MetFree l x (head1 (Jvm.Cond.code x code maxLocals ret :: ws) room_1) (fun a U => a = #[(.int p1), (.int p2)] ∧ Z.Warmed39 U.vm ∧ U.heap = h0) (fun _ _ _ _ _ => True) (fun _ U o U' => ∃ v L, o = .returned v ∧ Q0 Z p1 p2 h0 n0 v U'.heap L ∧ FrameEnd U o U' L room_1.cells room_1.slots) := by
  refine MetFree.of_bodySF (plainFor_of_name pn_0) hisR ?_
  intro p e s m args below meth c s₁ Bd hml0 hP hK
  obtain ⟨rfl, hZ, hh⟩ := hP
  have hx := Bd.exec
  have hby := Bd.bytes
  have hml : c.maxLocals = 6 := hml0
  have hown : s.vm.findClass "com/example/columnweave/columnweave/format/TextUnitOrderPinLaw" = some m.cls := findClass_of_methodNamed Bd.named
  have hnm := (name_of_methodNamed Bd.named Bd.method).1
  have X0 : Stand p l e room_1 s m #[(.int p1), (.int p2)] below meth c s₁ [] 0 0 := Stand.of_body Bd
  have e0 : s₁.heap = h0 := by rw [← hh, Bd.state]; rfl
  have N0 := Fr.nil n0
  have pre0 : ∀ t, Steps p.tables e below (s₁.setTop (mkF m 0 #[.val (.int p1), .val (.int p2), .unset, .unset, .unset, .unset] [])) t → Steps p.tables e below (s₁.setTop (entryFrame m #[(.int p1), (.int p2)] maxLocals)) t := fun t k => castTop (ef_0 m p1 p2) k
  obtain ⟨ca, cb, ca0, ca1, cb0, cb1, pre1⟩ : ∃ ca cb : Int32, 0 ≤ ca.toInt ∧ ca.toInt < 65536 ∧ 0 ≤ cb.toInt ∧ cb.toInt < 65536 ∧ (∀ t, Steps p.tables e below (s₁.setTop (mkF m 6 #[.val (.int p1), .val (.int p2), .val (.int ca), .val (.int cb), .unset, .unset] [])) t → Steps p.tables e below (s₁.setTop (mkF m 0 #[.val (.int p1), .val (.int p2), .unset, .unset, .unset, .unset] [])) t) := by
    refine ⟨(p1.toUInt32.toUInt16.toUInt32.toInt32), (p2.toUInt32.toUInt16.toUInt32.toInt32), (c_i2c p1).2.1, (c_i2c p1).2.2, (c_i2c p2).2.1, (c_i2c p2).2.2, fun t kt => ?_⟩
    show Steps p.tables e below (s₁.setTop (mkF m 0 #[.val (.int p1), .val (.int p2), .unset, .unset, .unset, .unset] [])) _
    refine XS.iloadN X0.here hx rfl (hb hby at_0) rfl ?_
    show Steps p.tables e below (s₁.setTop (mkF m 1 #[.val (.int p1), .val (.int p2), .unset, .unset, .unset, .unset] [(.int p1)])) _
    refine XS.i2c X0.here hx rfl (hb hby at_1) rfl ?_
    show Steps p.tables e below (s₁.setTop (mkF m 2 #[.val (.int p1), .val (.int p2), .unset, .unset, .unset, .unset] [(.int (p1.toUInt32.toUInt16.toUInt32.toInt32))])) _
    refine XS.istoreN X0.here hx rfl (hb hby at_2) rfl (l' := #[.val (.int p1), .val (.int p2), .val (.int (p1.toUInt32.toUInt16.toUInt32.toInt32)), .unset, .unset, .unset]) rfl ?_
    show Steps p.tables e below (s₁.setTop (mkF m 3 #[.val (.int p1), .val (.int p2), .val (.int (p1.toUInt32.toUInt16.toUInt32.toInt32)), .unset, .unset, .unset] [])) _
    refine XS.iloadN X0.here hx rfl (hb hby at_3) rfl ?_
    show Steps p.tables e below (s₁.setTop (mkF m 4 #[.val (.int p1), .val (.int p2), .val (.int (p1.toUInt32.toUInt16.toUInt32.toInt32)), .unset, .unset, .unset] [(.int p2)])) _
    refine XS.i2c X0.here hx rfl (hb hby at_4) rfl ?_
    show Steps p.tables e below (s₁.setTop (mkF m 5 #[.val (.int p1), .val (.int p2), .val (.int (p1.toUInt32.toUInt16.toUInt32.toInt32)), .unset, .unset, .unset] [(.int (p2.toUInt32.toUInt16.toUInt32.toInt32))])) _
    refine XS.istoreN X0.here hx rfl (hb hby at_5) rfl (l' := #[.val (.int p1), .val (.int p2), .val (.int (p1.toUInt32.toUInt16.toUInt32.toInt32)), .val (.int (p2.toUInt32.toUInt16.toUInt32.toInt32)), .unset, .unset]) rfl ?_
    exact kt
  obtain ⟨oa, hoa⟩ : ∃ z : Int32, z = if ca < (57344 : Int32) then if ca < (55296 : Int32) then ca else (ca + (8192 : Int32)) else (ca - (2048 : Int32)) := ⟨_, rfl⟩
  obtain ⟨ob, hob⟩ : ∃ z : Int32, z = if cb < (57344 : Int32) then if cb < (55296 : Int32) then cb else (cb + (8192 : Int32)) else (cb - (2048 : Int32)) := ⟨_, rfl⟩
  obtain ⟨ra, hra⟩ : ∃ z : Int32, z = if ca < (55296 : Int32) then (0 : Int32) else if ca < (57344 : Int32) then (2 : Int32) else (1 : Int32) := ⟨_, rfl⟩
  obtain ⟨rb, hrb⟩ : ∃ z : Int32, z = if cb < (55296 : Int32) then (0 : Int32) else if cb < (57344 : Int32) then (2 : Int32) else (1 : Int32) := ⟨_, rfl⟩
  obtain ⟨r3, hr3⟩ : ∃ z : Int32, z = if ra = rb then (if ca < cb then (1 : Int32) else (0 : Int32)) else (if ra < rb then (1 : Int32) else (0 : Int32)) := ⟨_, rfl⟩
  obtain ⟨f1, hf1⟩ : ∃ z : Int32, z = if oa < ob then (1 : Int32) else (0 : Int32) := ⟨_, rfl⟩
  obtain ⟨g1, hg1⟩ : ∃ z : Int32, z = if oa = ob then (1 : Int32) else (0 : Int32) := ⟨_, rfl⟩
  obtain ⟨g2, hg2⟩ : ∃ z : Int32, z = if ca = cb then (1 : Int32) else (0 : Int32) := ⟨_, rfl⟩
  have hq := own_all ca0 ca1 cb0 cb1 hoa hob hra hrb hr3 hf1 hg1 hg2
  obtain ⟨_, _, ⟨T3, L3, k3, n3⟩, -, X3, ⟨Lc3, hQ3, l3, y3, z3⟩, st3⟩ := Jvm.LawKit.callS X0 hx (y := (⟨"com/example/columnweave/columnweave/format/Text", "unitOrder", "(C)I"⟩ : MethodName)) hown (mvT hZ (hw _ (List.mem_of_getElem? (i := 0) rfl))) (mvT hZ (hw _ (List.mem_of_getElem? (i := 1) rfl))) (mvT hZ (hw _ (List.mem_of_getElem? (i := 2) rfl))) (mvT hZ (hw _ (List.mem_of_getElem? (i := 3) rfl))) (by decide) (backOf (W := 0) (rm1 l Z a0 hw [] ca oa h0 n0 Z0 hoa) hZ (hw _ (List.mem_of_getElem? (i := 3) rfl)) (hw _ (List.mem_of_getElem? (i := 2) rfl)) (by decide) (by decide)) (g := (mkF m 7 #[.val (.int p1), .val (.int p2), .val (.int ca), .val (.int cb), .unset, .unset] [(.int ca)])) rfl (by rw [hml]; rfl) (argsL := [(.int ca)]) (rest := []) (lenOf pd_0_0 rfl) rfl (by show 2 * 0 + _ ≤ _; exact Nat.le_of_eq rfl) (hb hby at_7) (fun _ _ => ⟨rfl, e0, (by decide : 0 + 0 ≤ _), (by decide : 0 + 0 ≤ _)⟩)
  dsimp only [Pt.U, Pt.locs, Pt.cells, Pt.slots] at X3 l3 y3 z3 st3 hQ3
  subst l3 y3 z3
  obtain ⟨rfl, N3q, e3⟩ := hQ3
  have N3 := Fr.app N0 N3q
  obtain ⟨_, _, ⟨T4, L4, k4, n4⟩, -, X4, ⟨Lc4, hQ4, l4, y4, z4⟩, st4⟩ := Jvm.LawKit.callS X3 hx (y := (⟨"com/example/columnweave/columnweave/format/Text", "unitOrder", "(C)I"⟩ : MethodName)) hown (mvT hZ (hw _ (List.mem_of_getElem? (i := 0) rfl))) (mvT hZ (hw _ (List.mem_of_getElem? (i := 1) rfl))) (mvT hZ (hw _ (List.mem_of_getElem? (i := 2) rfl))) (mvT hZ (hw _ (List.mem_of_getElem? (i := 3) rfl))) (by decide) (backOf (W := 0) (rm1 l Z a0 hw [] cb ob h0 n0 Z0 hob) hZ (hw _ (List.mem_of_getElem? (i := 3) rfl)) (hw _ (List.mem_of_getElem? (i := 2) rfl)) (by decide) (by decide)) (g := (mkF m 13 #[.val (.int p1), .val (.int p2), .val (.int ca), .val (.int cb), .val (.int oa), .unset] [(.int cb)])) rfl (by rw [hml]; rfl) (argsL := [(.int cb)]) (rest := []) (lenOf pd_0_0 rfl) rfl (by show 2 * 0 + _ ≤ _; exact Nat.le_of_eq rfl) (hb hby at_13) (fun _ _ => ⟨rfl, e3, (by decide : 0 + 0 ≤ _), (by decide : 0 + 0 ≤ _)⟩)
  dsimp only [Pt.U, Pt.locs, Pt.cells, Pt.slots] at X4 l4 y4 z4 st4 hQ4
  subst l4 y4 z4
  obtain ⟨rfl, N4q, e4⟩ := hQ4
  have N4 := Fr.app N3 N4q
  obtain ⟨_, _, ⟨T5, L5, k5, n5⟩, -, X5, ⟨Lc5, hQ5, l5, y5, z5⟩, st5⟩ := Jvm.LawKit.callS X4 hx (y := (⟨"com/example/columnweave/columnweave/format/TextUnitOrderPinLaw", "before", "(CC)Z"⟩ : MethodName)) hown (mvT hZ (hw _ (List.mem_of_getElem? (i := 8) rfl))) (mvT hZ (hw _ (List.mem_of_getElem? (i := 9) rfl))) (mvT hZ (hw _ (List.mem_of_getElem? (i := 10) rfl))) (mvT hZ (hw _ (List.mem_of_getElem? (i := 11) rfl))) (by decide) (backOf (W := 1) (rm2 l Z a0 hw [] ca cb ra rb r3 h0 n0 Z0 hra hrb hr3) hZ (hw _ (List.mem_of_getElem? (i := 11) rfl)) (hw _ (List.mem_of_getElem? (i := 10) rfl)) (by decide) (by decide)) (g := (mkF m 86 #[.val (.int p1), .val (.int p2), .val (.int ca), .val (.int cb), .val (.int oa), .val (.int ob)] [(.int cb), (.int ca), (.int f1)])) rfl (by rw [hml]; rfl) (argsL := [(.int ca), (.int cb)]) (rest := [(.int f1)]) (lenOf pd_0_1 rfl) rfl (by show 2 * 0 + _ ≤ _; exact Nat.le_of_eq rfl) (hb hby at_86) (fun _ _ => ⟨rfl, e4, (by decide : 0 + 0 ≤ _), (by decide : 0 + 0 ≤ _)⟩)
  dsimp only [Pt.U, Pt.locs, Pt.cells, Pt.slots] at X5 l5 y5 z5 st5 hQ5
  subst l5 y5 z5
  obtain ⟨rfl, N5q, e5⟩ := hQ5
  have N5 := Fr.app N4 N5q
  have mA1 : ∀ t, Steps p.tables e below (T4.setTop (mkF m 44 #[.val (.int p1), .val (.int p2), .val (.int ca), .val (.int cb), .val (.int oa), .val (.int ob)] [])) t → Steps p.tables e below (T4.setTop (mkF m 18 #[.val (.int p1), .val (.int p2), .val (.int ca), .val (.int cb), .val (.int oa), .val (.int ob)] [])) t := fun t kt => by
    have hc20 := hq.1
    have hc27 := hq.2.1
    have hc32 := hq.2.2.1
    have hc39 := hq.2.2.2.1
    show Steps p.tables e below (T4.setTop (mkF m 18 #[.val (.int p1), .val (.int p2), .val (.int ca), .val (.int cb), .val (.int oa), .val (.int ob)] [])) _
    refine XS.iload X4.here hx rfl (hb hby at_18) rfl ?_
    show Steps p.tables e below (T4.setTop (mkF m 20 #[.val (.int p1), .val (.int p2), .val (.int ca), .val (.int cb), .val (.int oa), .val (.int ob)] [(.int oa)])) _
    refine XS.ifNo X4.here hx rfl (hb hby at_20) rfl ((if0 _ _).trans (flt hc20).1) ?_
    show Steps p.tables e below (T4.setTop (mkF m 23 #[.val (.int p1), .val (.int p2), .val (.int ca), .val (.int cb), .val (.int oa), .val (.int ob)] [])) _
    refine XS.iload X4.here hx rfl (hb hby at_23) rfl ?_
    show Steps p.tables e below (T4.setTop (mkF m 25 #[.val (.int p1), .val (.int p2), .val (.int ca), .val (.int cb), .val (.int oa), .val (.int ob)] [(.int oa)])) _
    refine X4.ldcInt hx hown (mvT hZ (hw _ (List.mem_of_getElem? (i := 6) rfl))) (g := (mkF m 25 #[.val (.int p1), .val (.int p2), .val (.int ca), .val (.int cb), .val (.int oa), .val (.int ob)] [(.int oa)])) rfl (hb hby at_25) _ ?_
    show Steps p.tables e below (T4.setTop (mkF m 27 #[.val (.int p1), .val (.int p2), .val (.int ca), .val (.int cb), .val (.int oa), .val (.int ob)] [(.int (65535 : Int32)), (.int oa)])) _
    refine XS.icmpNo X4.here hx rfl (hb hby at_27) rfl (flt hc27).2.2.1 ?_
    show Steps p.tables e below (T4.setTop (mkF m 30 #[.val (.int p1), .val (.int p2), .val (.int ca), .val (.int cb), .val (.int oa), .val (.int ob)] [])) _
    refine XS.iload X4.here hx rfl (hb hby at_30) rfl ?_
    show Steps p.tables e below (T4.setTop (mkF m 32 #[.val (.int p1), .val (.int p2), .val (.int ca), .val (.int cb), .val (.int oa), .val (.int ob)] [(.int ob)])) _
    refine XS.ifNo X4.here hx rfl (hb hby at_32) rfl ((if0 _ _).trans (flt hc32).1) ?_
    show Steps p.tables e below (T4.setTop (mkF m 35 #[.val (.int p1), .val (.int p2), .val (.int ca), .val (.int cb), .val (.int oa), .val (.int ob)] [])) _
    refine XS.iload X4.here hx rfl (hb hby at_35) rfl ?_
    show Steps p.tables e below (T4.setTop (mkF m 37 #[.val (.int p1), .val (.int p2), .val (.int ca), .val (.int cb), .val (.int oa), .val (.int ob)] [(.int ob)])) _
    refine X4.ldcInt hx hown (mvT hZ (hw _ (List.mem_of_getElem? (i := 6) rfl))) (g := (mkF m 37 #[.val (.int p1), .val (.int p2), .val (.int ca), .val (.int cb), .val (.int oa), .val (.int ob)] [(.int ob)])) rfl (hb hby at_37) _ ?_
    show Steps p.tables e below (T4.setTop (mkF m 39 #[.val (.int p1), .val (.int p2), .val (.int ca), .val (.int cb), .val (.int oa), .val (.int ob)] [(.int (65535 : Int32)), (.int ob)])) _
    refine XS.icmpYes X4.here hx rfl (pc0 := 39) (pc' := 44) rfl (hb hby at_39) rfl (flt hc39).2.2.2 (by decide) (by decide) ?_
    exact kt
  have mA2 : ∀ t, Steps p.tables e below (T4.setTop (mkF m 58 #[.val (.int p1), .val (.int p2), .val (.int ca), .val (.int cb), .val (.int oa), .val (.int ob)] [])) t → Steps p.tables e below (T4.setTop (mkF m 44 #[.val (.int p1), .val (.int p2), .val (.int ca), .val (.int cb), .val (.int oa), .val (.int ob)] [])) t := fun t kt => by
    by_cases hc47 : ca < (55296 : Int32)
    · skip
      have hc53 := hq.2.2.2.2.1 hc47
      show Steps p.tables e below (T4.setTop (mkF m 44 #[.val (.int p1), .val (.int p2), .val (.int ca), .val (.int cb), .val (.int oa), .val (.int ob)] [])) _
      refine XS.iloadN X4.here hx rfl (hb hby at_44) rfl ?_
      show Steps p.tables e below (T4.setTop (mkF m 45 #[.val (.int p1), .val (.int p2), .val (.int ca), .val (.int cb), .val (.int oa), .val (.int ob)] [(.int ca)])) _
      refine X4.ldcInt hx hown (mvT hZ (hw _ (List.mem_of_getElem? (i := 7) rfl))) (g := (mkF m 45 #[.val (.int p1), .val (.int p2), .val (.int ca), .val (.int cb), .val (.int oa), .val (.int ob)] [(.int ca)])) rfl (hb hby at_45) _ ?_
      show Steps p.tables e below (T4.setTop (mkF m 47 #[.val (.int p1), .val (.int p2), .val (.int ca), .val (.int cb), .val (.int oa), .val (.int ob)] [(.int (55296 : Int32)), (.int ca)])) _
      refine XS.icmpNo X4.here hx rfl (hb hby at_47) rfl (tlt hc47).2.1 ?_
      show Steps p.tables e below (T4.setTop (mkF m 50 #[.val (.int p1), .val (.int p2), .val (.int ca), .val (.int cb), .val (.int oa), .val (.int ob)] [])) _
      refine XS.iload X4.here hx rfl (hb hby at_50) rfl ?_
      show Steps p.tables e below (T4.setTop (mkF m 52 #[.val (.int p1), .val (.int p2), .val (.int ca), .val (.int cb), .val (.int oa), .val (.int ob)] [(.int oa)])) _
      refine XS.iloadN X4.here hx rfl (hb hby at_52) rfl ?_
      show Steps p.tables e below (T4.setTop (mkF m 53 #[.val (.int p1), .val (.int p2), .val (.int ca), .val (.int cb), .val (.int oa), .val (.int ob)] [(.int ca), (.int oa)])) _
      refine XS.icmpYes X4.here hx rfl (pc0 := 53) (pc' := 58) rfl (hb hby at_53) rfl (teq hc53).1 (by decide) (by decide) ?_
      exact kt
    · skip
      show Steps p.tables e below (T4.setTop (mkF m 44 #[.val (.int p1), .val (.int p2), .val (.int ca), .val (.int cb), .val (.int oa), .val (.int ob)] [])) _
      refine XS.iloadN X4.here hx rfl (hb hby at_44) rfl ?_
      show Steps p.tables e below (T4.setTop (mkF m 45 #[.val (.int p1), .val (.int p2), .val (.int ca), .val (.int cb), .val (.int oa), .val (.int ob)] [(.int ca)])) _
      refine X4.ldcInt hx hown (mvT hZ (hw _ (List.mem_of_getElem? (i := 7) rfl))) (g := (mkF m 45 #[.val (.int p1), .val (.int p2), .val (.int ca), .val (.int cb), .val (.int oa), .val (.int ob)] [(.int ca)])) rfl (hb hby at_45) _ ?_
      show Steps p.tables e below (T4.setTop (mkF m 47 #[.val (.int p1), .val (.int p2), .val (.int ca), .val (.int cb), .val (.int oa), .val (.int ob)] [(.int (55296 : Int32)), (.int ca)])) _
      refine XS.icmpYes X4.here hx rfl (pc0 := 47) (pc' := 58) rfl (hb hby at_47) rfl (flt hc47).2.1 (by decide) (by decide) ?_
      exact kt
  have mA3 : ∀ t, Steps p.tables e below (T4.setTop (mkF m 72 #[.val (.int p1), .val (.int p2), .val (.int ca), .val (.int cb), .val (.int oa), .val (.int ob)] [])) t → Steps p.tables e below (T4.setTop (mkF m 58 #[.val (.int p1), .val (.int p2), .val (.int ca), .val (.int cb), .val (.int oa), .val (.int ob)] [])) t := fun t kt => by
    by_cases hc61 : cb < (55296 : Int32)
    · skip
      have hc67 := hq.2.2.2.2.2.1 hc61
      show Steps p.tables e below (T4.setTop (mkF m 58 #[.val (.int p1), .val (.int p2), .val (.int ca), .val (.int cb), .val (.int oa), .val (.int ob)] [])) _
      refine XS.iloadN X4.here hx rfl (hb hby at_58) rfl ?_
      show Steps p.tables e below (T4.setTop (mkF m 59 #[.val (.int p1), .val (.int p2), .val (.int ca), .val (.int cb), .val (.int oa), .val (.int ob)] [(.int cb)])) _
      refine X4.ldcInt hx hown (mvT hZ (hw _ (List.mem_of_getElem? (i := 7) rfl))) (g := (mkF m 59 #[.val (.int p1), .val (.int p2), .val (.int ca), .val (.int cb), .val (.int oa), .val (.int ob)] [(.int cb)])) rfl (hb hby at_59) _ ?_
      show Steps p.tables e below (T4.setTop (mkF m 61 #[.val (.int p1), .val (.int p2), .val (.int ca), .val (.int cb), .val (.int oa), .val (.int ob)] [(.int (55296 : Int32)), (.int cb)])) _
      refine XS.icmpNo X4.here hx rfl (hb hby at_61) rfl (tlt hc61).2.1 ?_
      show Steps p.tables e below (T4.setTop (mkF m 64 #[.val (.int p1), .val (.int p2), .val (.int ca), .val (.int cb), .val (.int oa), .val (.int ob)] [])) _
      refine XS.iload X4.here hx rfl (hb hby at_64) rfl ?_
      show Steps p.tables e below (T4.setTop (mkF m 66 #[.val (.int p1), .val (.int p2), .val (.int ca), .val (.int cb), .val (.int oa), .val (.int ob)] [(.int ob)])) _
      refine XS.iloadN X4.here hx rfl (hb hby at_66) rfl ?_
      show Steps p.tables e below (T4.setTop (mkF m 67 #[.val (.int p1), .val (.int p2), .val (.int ca), .val (.int cb), .val (.int oa), .val (.int ob)] [(.int cb), (.int ob)])) _
      refine XS.icmpYes X4.here hx rfl (pc0 := 67) (pc' := 72) rfl (hb hby at_67) rfl (teq hc67).1 (by decide) (by decide) ?_
      exact kt
    · skip
      show Steps p.tables e below (T4.setTop (mkF m 58 #[.val (.int p1), .val (.int p2), .val (.int ca), .val (.int cb), .val (.int oa), .val (.int ob)] [])) _
      refine XS.iloadN X4.here hx rfl (hb hby at_58) rfl ?_
      show Steps p.tables e below (T4.setTop (mkF m 59 #[.val (.int p1), .val (.int p2), .val (.int ca), .val (.int cb), .val (.int oa), .val (.int ob)] [(.int cb)])) _
      refine X4.ldcInt hx hown (mvT hZ (hw _ (List.mem_of_getElem? (i := 7) rfl))) (g := (mkF m 59 #[.val (.int p1), .val (.int p2), .val (.int ca), .val (.int cb), .val (.int oa), .val (.int ob)] [(.int cb)])) rfl (hb hby at_59) _ ?_
      show Steps p.tables e below (T4.setTop (mkF m 61 #[.val (.int p1), .val (.int p2), .val (.int ca), .val (.int cb), .val (.int oa), .val (.int ob)] [(.int (55296 : Int32)), (.int cb)])) _
      refine XS.icmpYes X4.here hx rfl (pc0 := 61) (pc' := 72) rfl (hb hby at_61) rfl (flt hc61).2.1 (by decide) (by decide) ?_
      exact kt
  have midA : ∀ t, Steps p.tables e below (T4.setTop (mkF m 72 #[.val (.int p1), .val (.int p2), .val (.int ca), .val (.int cb), .val (.int oa), .val (.int ob)] [])) t → Steps p.tables e below (T4.setTop (mkF m 18 #[.val (.int p1), .val (.int p2), .val (.int ca), .val (.int cb), .val (.int oa), .val (.int ob)] [])) t := fun t kt => mA1 t (mA2 t (mA3 t kt))
  have midB : ∀ t, Steps p.tables e below (T4.setTop (mkF m 84 #[.val (.int p1), .val (.int p2), .val (.int ca), .val (.int cb), .val (.int oa), .val (.int ob)] [(.int f1)])) t → Steps p.tables e below (T4.setTop (mkF m 72 #[.val (.int p1), .val (.int p2), .val (.int ca), .val (.int cb), .val (.int oa), .val (.int ob)] [])) t := fun t kt => by
    by_cases hc76 : oa < ob
    · rw [show f1 = (1 : Int32) by rw [hf1, if_pos hc76]] at kt
      show Steps p.tables e below (T4.setTop (mkF m 72 #[.val (.int p1), .val (.int p2), .val (.int ca), .val (.int cb), .val (.int oa), .val (.int ob)] [])) _
      refine XS.iload X4.here hx rfl (hb hby at_72) rfl ?_
      show Steps p.tables e below (T4.setTop (mkF m 74 #[.val (.int p1), .val (.int p2), .val (.int ca), .val (.int cb), .val (.int oa), .val (.int ob)] [(.int oa)])) _
      refine XS.iload X4.here hx rfl (hb hby at_74) rfl ?_
      show Steps p.tables e below (T4.setTop (mkF m 76 #[.val (.int p1), .val (.int p2), .val (.int ca), .val (.int cb), .val (.int oa), .val (.int ob)] [(.int ob), (.int oa)])) _
      refine XS.icmpNo X4.here hx rfl (hb hby at_76) rfl (tlt hc76).2.1 ?_
      show Steps p.tables e below (T4.setTop (mkF m 79 #[.val (.int p1), .val (.int p2), .val (.int ca), .val (.int cb), .val (.int oa), .val (.int ob)] [])) _
      refine XS.iconst X4.here hx rfl (hb hby at_79) ?_
      show Steps p.tables e below (T4.setTop (mkF m 80 #[.val (.int p1), .val (.int p2), .val (.int ca), .val (.int cb), .val (.int oa), .val (.int ob)] [(.int (1 : Int32))])) _
      refine XS.goto X4.here hx rfl (pc0 := 80) (pc' := 84) rfl (hb hby at_80) (by decide) (by decide) ?_
      exact kt
    · rw [show f1 = (0 : Int32) by rw [hf1, if_neg hc76]] at kt
      show Steps p.tables e below (T4.setTop (mkF m 72 #[.val (.int p1), .val (.int p2), .val (.int ca), .val (.int cb), .val (.int oa), .val (.int ob)] [])) _
      refine XS.iload X4.here hx rfl (hb hby at_72) rfl ?_
      show Steps p.tables e below (T4.setTop (mkF m 74 #[.val (.int p1), .val (.int p2), .val (.int ca), .val (.int cb), .val (.int oa), .val (.int ob)] [(.int oa)])) _
      refine XS.iload X4.here hx rfl (hb hby at_74) rfl ?_
      show Steps p.tables e below (T4.setTop (mkF m 76 #[.val (.int p1), .val (.int p2), .val (.int ca), .val (.int cb), .val (.int oa), .val (.int ob)] [(.int ob), (.int oa)])) _
      refine XS.icmpYes X4.here hx rfl (pc0 := 76) (pc' := 83) rfl (hb hby at_76) rfl (flt hc76).2.1 (by decide) (by decide) ?_
      show Steps p.tables e below (T4.setTop (mkF m 83 #[.val (.int p1), .val (.int p2), .val (.int ca), .val (.int cb), .val (.int oa), .val (.int ob)] [])) _
      refine XS.iconst X4.here hx rfl (hb hby at_83) ?_
      exact kt
  have mC1 : ∀ t, Steps p.tables e below (T5.setTop (mkF m 106 #[.val (.int p1), .val (.int p2), .val (.int ca), .val (.int cb), .val (.int oa), .val (.int ob)] [(.int g1)])) t → Steps p.tables e below (T5.setTop (mkF m 94 #[.val (.int p1), .val (.int p2), .val (.int ca), .val (.int cb), .val (.int oa), .val (.int ob)] [])) t := fun t kt => by
    by_cases hc98 : oa = ob
    · rw [show g1 = (1 : Int32) by rw [hg1, if_pos hc98]] at kt
      show Steps p.tables e below (T5.setTop (mkF m 94 #[.val (.int p1), .val (.int p2), .val (.int ca), .val (.int cb), .val (.int oa), .val (.int ob)] [])) _
      refine XS.iload X5.here hx rfl (hb hby at_94) rfl ?_
      show Steps p.tables e below (T5.setTop (mkF m 96 #[.val (.int p1), .val (.int p2), .val (.int ca), .val (.int cb), .val (.int oa), .val (.int ob)] [(.int oa)])) _
      refine XS.iload X5.here hx rfl (hb hby at_96) rfl ?_
      show Steps p.tables e below (T5.setTop (mkF m 98 #[.val (.int p1), .val (.int p2), .val (.int ca), .val (.int cb), .val (.int oa), .val (.int ob)] [(.int ob), (.int oa)])) _
      refine XS.icmpNo X5.here hx rfl (hb hby at_98) rfl (teq hc98).2 ?_
      show Steps p.tables e below (T5.setTop (mkF m 101 #[.val (.int p1), .val (.int p2), .val (.int ca), .val (.int cb), .val (.int oa), .val (.int ob)] [])) _
      refine XS.iconst X5.here hx rfl (hb hby at_101) ?_
      show Steps p.tables e below (T5.setTop (mkF m 102 #[.val (.int p1), .val (.int p2), .val (.int ca), .val (.int cb), .val (.int oa), .val (.int ob)] [(.int (1 : Int32))])) _
      refine XS.goto X5.here hx rfl (pc0 := 102) (pc' := 106) rfl (hb hby at_102) (by decide) (by decide) ?_
      exact kt
    · rw [show g1 = (0 : Int32) by rw [hg1, if_neg hc98]] at kt
      show Steps p.tables e below (T5.setTop (mkF m 94 #[.val (.int p1), .val (.int p2), .val (.int ca), .val (.int cb), .val (.int oa), .val (.int ob)] [])) _
      refine XS.iload X5.here hx rfl (hb hby at_94) rfl ?_
      show Steps p.tables e below (T5.setTop (mkF m 96 #[.val (.int p1), .val (.int p2), .val (.int ca), .val (.int cb), .val (.int oa), .val (.int ob)] [(.int oa)])) _
      refine XS.iload X5.here hx rfl (hb hby at_96) rfl ?_
      show Steps p.tables e below (T5.setTop (mkF m 98 #[.val (.int p1), .val (.int p2), .val (.int ca), .val (.int cb), .val (.int oa), .val (.int ob)] [(.int ob), (.int oa)])) _
      refine XS.icmpYes X5.here hx rfl (pc0 := 98) (pc' := 105) rfl (hb hby at_98) rfl (feq hc98).2 (by decide) (by decide) ?_
      show Steps p.tables e below (T5.setTop (mkF m 105 #[.val (.int p1), .val (.int p2), .val (.int ca), .val (.int cb), .val (.int oa), .val (.int ob)] [])) _
      refine XS.iconst X5.here hx rfl (hb hby at_105) ?_
      exact kt
  have mC2 : ∀ t, Steps p.tables e below (T5.setTop (mkF m 116 #[.val (.int p1), .val (.int p2), .val (.int ca), .val (.int cb), .val (.int oa), .val (.int ob)] [(.int g2), (.int g1)])) t → Steps p.tables e below (T5.setTop (mkF m 106 #[.val (.int p1), .val (.int p2), .val (.int ca), .val (.int cb), .val (.int oa), .val (.int ob)] [(.int g1)])) t := fun t kt => by
    by_cases hc108 : ca = cb
    · rw [show g2 = (1 : Int32) by rw [hg2, if_pos hc108]] at kt
      show Steps p.tables e below (T5.setTop (mkF m 106 #[.val (.int p1), .val (.int p2), .val (.int ca), .val (.int cb), .val (.int oa), .val (.int ob)] [(.int g1)])) _
      refine XS.iloadN X5.here hx rfl (hb hby at_106) rfl ?_
      show Steps p.tables e below (T5.setTop (mkF m 107 #[.val (.int p1), .val (.int p2), .val (.int ca), .val (.int cb), .val (.int oa), .val (.int ob)] [(.int ca), (.int g1)])) _
      refine XS.iloadN X5.here hx rfl (hb hby at_107) rfl ?_
      show Steps p.tables e below (T5.setTop (mkF m 108 #[.val (.int p1), .val (.int p2), .val (.int ca), .val (.int cb), .val (.int oa), .val (.int ob)] [(.int cb), (.int ca), (.int g1)])) _
      refine XS.icmpNo X5.here hx rfl (hb hby at_108) rfl (teq hc108).2 ?_
      show Steps p.tables e below (T5.setTop (mkF m 111 #[.val (.int p1), .val (.int p2), .val (.int ca), .val (.int cb), .val (.int oa), .val (.int ob)] [(.int g1)])) _
      refine XS.iconst X5.here hx rfl (hb hby at_111) ?_
      show Steps p.tables e below (T5.setTop (mkF m 112 #[.val (.int p1), .val (.int p2), .val (.int ca), .val (.int cb), .val (.int oa), .val (.int ob)] [(.int (1 : Int32)), (.int g1)])) _
      refine XS.goto X5.here hx rfl (pc0 := 112) (pc' := 116) rfl (hb hby at_112) (by decide) (by decide) ?_
      exact kt
    · rw [show g2 = (0 : Int32) by rw [hg2, if_neg hc108]] at kt
      show Steps p.tables e below (T5.setTop (mkF m 106 #[.val (.int p1), .val (.int p2), .val (.int ca), .val (.int cb), .val (.int oa), .val (.int ob)] [(.int g1)])) _
      refine XS.iloadN X5.here hx rfl (hb hby at_106) rfl ?_
      show Steps p.tables e below (T5.setTop (mkF m 107 #[.val (.int p1), .val (.int p2), .val (.int ca), .val (.int cb), .val (.int oa), .val (.int ob)] [(.int ca), (.int g1)])) _
      refine XS.iloadN X5.here hx rfl (hb hby at_107) rfl ?_
      show Steps p.tables e below (T5.setTop (mkF m 108 #[.val (.int p1), .val (.int p2), .val (.int ca), .val (.int cb), .val (.int oa), .val (.int ob)] [(.int cb), (.int ca), (.int g1)])) _
      refine XS.icmpYes X5.here hx rfl (pc0 := 108) (pc' := 115) rfl (hb hby at_108) rfl (feq hc108).2 (by decide) (by decide) ?_
      show Steps p.tables e below (T5.setTop (mkF m 115 #[.val (.int p1), .val (.int p2), .val (.int ca), .val (.int cb), .val (.int oa), .val (.int ob)] [(.int g1)])) _
      refine XS.iconst X5.here hx rfl (hb hby at_115) ?_
      exact kt
  have midC : ∀ t, Steps p.tables e below (T5.setTop (mkF m 116 #[.val (.int p1), .val (.int p2), .val (.int ca), .val (.int cb), .val (.int oa), .val (.int ob)] [(.int g2), (.int g1)])) t → Steps p.tables e below (T5.setTop (mkF m 94 #[.val (.int p1), .val (.int p2), .val (.int ca), .val (.int cb), .val (.int oa), .val (.int ob)] [])) t := fun t kt => mC1 t (mC2 t kt)
  obtain ⟨fs, hr, hrun, hended, hW, hsame⟩ := X5.leave (v := some (.int (1 : Int32))) (fun h => by rw [Bd.returns] at h; cases h)
  refine ⟨_, _, pre0 _ (pre1 _ ?_), hrun, hended, _, _, rfl, ?_, ⟨_, rfl⟩, hW, hsame.mono (by decide) (by decide)⟩
  · show Steps p.tables e below (s₁.setTop (mkF m 6 #[.val (.int p1), .val (.int p2), .val (.int ca), .val (.int cb), .unset, .unset] [])) _
    refine XS.iloadN X0.here hx rfl (hb hby at_6) rfl ?_
    show Steps p.tables e below (s₁.setTop (mkF m 7 #[.val (.int p1), .val (.int p2), .val (.int ca), .val (.int cb), .unset, .unset] [(.int ca)])) _
    refine st3 _ ?_
    show Steps p.tables e below (T3.setTop (mkF m 10 #[.val (.int p1), .val (.int p2), .val (.int ca), .val (.int cb), .unset, .unset] [(.int oa)])) _
    refine XS.istore X3.here hx rfl (hb hby at_10) rfl (l' := #[.val (.int p1), .val (.int p2), .val (.int ca), .val (.int cb), .val (.int oa), .unset]) rfl ?_
    show Steps p.tables e below (T3.setTop (mkF m 12 #[.val (.int p1), .val (.int p2), .val (.int ca), .val (.int cb), .val (.int oa), .unset] [])) _
    refine XS.iloadN X3.here hx rfl (hb hby at_12) rfl ?_
    show Steps p.tables e below (T3.setTop (mkF m 13 #[.val (.int p1), .val (.int p2), .val (.int ca), .val (.int cb), .val (.int oa), .unset] [(.int cb)])) _
    refine st4 _ ?_
    show Steps p.tables e below (T4.setTop (mkF m 16 #[.val (.int p1), .val (.int p2), .val (.int ca), .val (.int cb), .val (.int oa), .unset] [(.int ob)])) _
    refine XS.istore X4.here hx rfl (hb hby at_16) rfl (l' := #[.val (.int p1), .val (.int p2), .val (.int ca), .val (.int cb), .val (.int oa), .val (.int ob)]) rfl ?_
    show Steps p.tables e below (T4.setTop (mkF m 18 #[.val (.int p1), .val (.int p2), .val (.int ca), .val (.int cb), .val (.int oa), .val (.int ob)] [])) _
    refine midA _ ?_
    show Steps p.tables e below (T4.setTop (mkF m 72 #[.val (.int p1), .val (.int p2), .val (.int ca), .val (.int cb), .val (.int oa), .val (.int ob)] [])) _
    refine midB _ ?_
    show Steps p.tables e below (T4.setTop (mkF m 84 #[.val (.int p1), .val (.int p2), .val (.int ca), .val (.int cb), .val (.int oa), .val (.int ob)] [(.int f1)])) _
    refine XS.iloadN X4.here hx rfl (hb hby at_84) rfl ?_
    show Steps p.tables e below (T4.setTop (mkF m 85 #[.val (.int p1), .val (.int p2), .val (.int ca), .val (.int cb), .val (.int oa), .val (.int ob)] [(.int ca), (.int f1)])) _
    refine XS.iloadN X4.here hx rfl (hb hby at_85) rfl ?_
    show Steps p.tables e below (T4.setTop (mkF m 86 #[.val (.int p1), .val (.int p2), .val (.int ca), .val (.int cb), .val (.int oa), .val (.int ob)] [(.int cb), (.int ca), (.int f1)])) _
    refine st5 _ ?_
    show Steps p.tables e below (T5.setTop (mkF m 89 #[.val (.int p1), .val (.int p2), .val (.int ca), .val (.int cb), .val (.int oa), .val (.int ob)] [(.int r3), (.int f1)])) _
    refine XS.icmpYes X5.here hx rfl (pc0 := 89) (pc' := 94) rfl (hb hby at_89) rfl (teq hq.2.2.2.2.2.2.1).1 (by decide) (by decide) ?_
    show Steps p.tables e below (T5.setTop (mkF m 94 #[.val (.int p1), .val (.int p2), .val (.int ca), .val (.int cb), .val (.int oa), .val (.int ob)] [])) _
    refine midC _ ?_
    show Steps p.tables e below (T5.setTop (mkF m 116 #[.val (.int p1), .val (.int p2), .val (.int ca), .val (.int cb), .val (.int oa), .val (.int ob)] [(.int g2), (.int g1)])) _
    refine XS.icmpYes X5.here hx rfl (pc0 := 116) (pc' := 121) rfl (hb hby at_116) rfl (teq hq.2.2.2.2.2.2.2).1 (by decide) (by decide) ?_
    show Steps p.tables e below (T5.setTop (mkF m 121 #[.val (.int p1), .val (.int p2), .val (.int ca), .val (.int cb), .val (.int oa), .val (.int ob)] [])) _
    refine XS.iconst X5.here hx rfl (hb hby at_121) ?_
    show Steps p.tables e below (T5.setTop (mkF m 122 #[.val (.int p1), .val (.int p2), .val (.int ca), .val (.int cb), .val (.int oa), .val (.int ob)] [(.int (1 : Int32))])) _
    exact retN X5 hx (t := .boolean) Bd.returns (by simp) (hb hby at_122) hr
  · show Q0 Z p1 p2 h0 n0 _ T5.heap _
    rw [e5]
    exact ⟨rfl, N5⟩
set_option maxRecDepth 65536 in
set_option maxHeartbeats 40000000 in
theorem comes_1 {Post : Tables → Env → Array Value → State → Outcome → State → Prop} (hpost : ∀ tb e args s v u, (limb_1_1.after args s (.returned v) u = true ∧ limb_1_2.after args s (.returned v) u = true ∧ True) → FrameEnd s (.returned v) u (Jvm.fieldLocs frame_1_writes args s ++ Jvm.arrayLocs frame_1_arrays args s ++ Jvm.staticLocs frame_1_statics s) 0 0 → Post tb e args s (.returned v) u) :
    ArmFor flags0 classFile x code maxLocals ret World_1 tables_1 room_1 Calls_1 rest_1 Pre_1 Post := by
  intro l hfl _ _ p e ha hc hk s m args below hf hA hF happ hP
  obtain ⟨hcalls, hrest, hpre⟩ := hP
  obtain ⟨-, -, -, hnamed, -, -, -, hat⟩ := (Spec.applies_iff hf).mp happ
  obtain ⟨hg, hn⟩ := and_e (Cond.before_iff.mp (show (Jvm.Cond.and given_1 narrow_1).before args s = true from hpre))
  obtain ⟨g6, g7⟩ := and_e hg
  obtain ⟨g8, g9⟩ := and_e g7
  obtain ⟨w0, w1, rfl⟩ : ∃ w0 w1 : Value, args = #[w0, w1] := by
    have hs : args.size = 2 := by simpa [Cond.value, given_1] using g6
    obtain ⟨L⟩ := args
    match L, hs with
    | [w0, w1], _ => exact ⟨w0, w1, rfl⟩
  have hw := fun d (hd : d ∈ tables_1) => atoms_spec (ws := Jvm.Cond.code x code maxLocals ret :: tables_1) hat d (List.mem_cons_of_mem _ hd)
  have hfit : Fit s := fun {y c} hc i hi => by
    obtain ⟨ha, rfl⟩ := Array.getElem?_eq_some_iff.mp hc
    have q := List.all_eq_true.mp ((Array.all_eq_true_iff_forall_mem.mp hF) _ (Array.getElem_mem ha)) i (List.mem_range.mpr hi)
    simpa [Array.getElem?_eq_getElem hi] using q
  obtain ⟨i0, ei0⟩ := is_v g8
  obtain rfl : w0 = (.int i0) := Option.some.inj ei0
  obtain ⟨i1, ei1⟩ := is_v g9
  obtain rfl : w1 = (.int i1) := Option.some.inj ei1
  obtain ⟨n, o, h1, h2, h3, _, L, rfl, ⟨rfl, N⟩, hq⟩ := rm0 l s _ hw tables_1 i0 i1 s.heap s.heap.size (Nat.le_refl _) p e ha hc hk s m _ below hf ((Spec.applies_iff_loose hf).mp happ).1 ⟨rfl, State.Warmed39.refl s, rfl⟩ trivial
  refine ⟨n, _, h1, h2, h3, hpost _ _ _ _ _ _ ⟨Cond.after_iff.mpr rfl, Cond.after_iff.mpr (eq_i res_at (Term.int_eval (1)) rfl), trivial⟩ ⟨hq.1, hq.2.1, (hq.2.2.sift fun y hy => Or.inr (N y hy)).mono (by decide) (by decide)⟩⟩
theorem main_1_1 : Claimed_1_1 := comes_1 fun _ _ _ _ _ _ h hF => ⟨h.1, hF⟩
theorem main_1_2 : Claimed_1_2 := comes_1 fun _ _ _ _ _ _ h hF => ⟨h.2.1, hF⟩
end Jvm.Pilot.@@N@@
namespace Jvm.Pilot.@@N@@
open Jvm Jvm.ClassFile Sem Op Lib Jvm.Free Jvm.Stand Jvm.Pilot.@@N@@.Jvm.D
/-! MADE BY PROGRAM (witnessworld.py) out of the Statement's table words and the real class files: 9 classes; the members and pool entries that the words name. The judged class is class 1, her method 1. -/
namespace start1
open Jvm.ClassFile
def u (s : String) : CpInfo := .utf8 (stringToUtf16 s)
/-- a pool by its gaps: so many unusable entries, then the entry; so many at the end -/
def gap : Nat → List CpInfo → List CpInfo
  | 0, r => r
  | n + 1, r => .unusable :: gap n r
def poolList (es : List (Nat × CpInfo)) (last : Nat) : List CpInfo := es.foldr (fun e r => gap e.1 (e.2 :: r)) (gap last [])
def pool (es : List (Nat × CpInfo)) (last : Nat) : Array CpInfo := ⟨poolList es last⟩
def fileOf (pool : Array CpInfo) (this : Nat) (attrs : Array Attribute := #[]) (ms : Array MethodInfo := #[]) (fl : Nat := 33) (sup : Nat := 0) (ifs : Array Nat := #[]) (fds : Array FieldInfo := #[]) : ClassFile where
  minorVersion := 0
  majorVersion := 65
  constantPool := pool
  accessFlags := fl
  thisClass := this
  superClass := sup
  interfaces := ifs
  fields := fds
  methods := ms
  attributes := attrs
def plain (name : String) (sup : Option ClassId) : Class where
  name := name
  kind := .ordinary
  loader := none
  accessFlags := 33
  super := sup
  interfaces := #[]
  cf := none
  fields := #[]
  methods := #[]
  instanceTypes := #[]
  staticTypes := #[]
  resolved := #[]
  callSites := []
  init := .initialized
  statics := none
  mirror := none

def pool0 : Array CpInfo := pool [(5, u "<init>"), (0, u "()V"), (1, .class_ 10), (1, u "java/lang/Object")] 113

def k0m0 : Method := { name := "<init>", desc := "()V", sig := { parameters := [], returnType := none }, accessFlags := 1, code := none }
/-- java/lang/Object -/
def k0 : Class := { plain "java/lang/Object" none with
  accessFlags := 33
  interfaces := #[]
  cf := some (fileOf pool0 8 #[] #[{ accessFlags := 1, nameIndex := 5, descriptorIndex := 6, attributes := #[] }] 33 0 #[] #[])
  fields := #[]
  methods := #[k0m0]
  instanceTypes := #[]
  staticTypes := #[]
  resolved := Array.replicate 124 none
  statics := none }

def pool1 : Array CpInfo := pool [(2, .class_ 4), (1, u "java/lang/Object"), (0, u "<init>"), (0, u "()V"), (0, .methodref 8 9), (0, .class_ 10), (0, .nameAndType 11 12), (0, u "com/example/columnweave/columnweave/format/Text"), (0, u "unitOrder"), (0, u "(C)I"), (0, .integer 65535), (0, .integer 55296), (0, .methodref 16 17), (0, .class_ 18), (0, .nameAndType 19 20), (0, u "com/example/columnweave/columnweave/format/TextUnitOrderPinLaw"), (0, u "before"), (0, u "(CC)Z"), (0, .integer 57344), (0, .methodref 16 23), (0, .nameAndType 24 12), (0, u "rank"), (2, u "law"), (0, u "(II)Z")] 3

def k1m0 : Method := { name := "<init>", desc := "()V", sig := { parameters := [], returnType := none }, accessFlags := 2, code := none }
def k1c1 : Code := { maxStack := 3, maxLocals := 6, code := code, exceptionTable := #[], attributes := #[] }
def k1m1 : Method := { name := "law", desc := "(II)Z", sig := { parameters := [.int, .int], returnType := some .boolean }, accessFlags := 9, code := some k1c1 }
def k1c2 : Code := { maxStack := 2, maxLocals := 1, code := method_3_code, exceptionTable := #[], attributes := #[] }
def k1m2 : Method := { name := "rank", desc := "(C)I", sig := { parameters := [.char], returnType := some .int }, accessFlags := 10, code := some k1c2 }
def k1c3 : Code := { maxStack := 2, maxLocals := 4, code := method_4_code, exceptionTable := #[], attributes := #[] }
def k1m3 : Method := { name := "before", desc := "(CC)Z", sig := { parameters := [.char, .char], returnType := some .boolean }, accessFlags := 10, code := some k1c3 }
/-- com/example/columnweave/columnweave/format/TextUnitOrderPinLaw -/
def k1 : Class := { plain "com/example/columnweave/columnweave/format/TextUnitOrderPinLaw" (some 0) with
  accessFlags := 49
  interfaces := #[]
  cf := some (fileOf pool1 16 #[] #[{ accessFlags := 2, nameIndex := 5, descriptorIndex := 6, attributes := #[] }, { accessFlags := 9, nameIndex := 27, descriptorIndex := 28, attributes := #[] }, { accessFlags := 10, nameIndex := 24, descriptorIndex := 12, attributes := #[] }, { accessFlags := 10, nameIndex := 19, descriptorIndex := 20, attributes := #[] }] 49 2 #[] #[])
  fields := #[]
  methods := #[k1m0, k1m1, k1m2, k1m3]
  instanceTypes := #[]
  staticTypes := #[]
  resolved := Array.replicate 32 none
  statics := none }

def pool2 : Array CpInfo := pool [(2, .class_ 4), (1, u "java/lang/Object"), (0, u "<init>"), (0, u "()V"), (6, .class_ 14), (0, u "com/example/columnweave/columnweave/format/Text"), (78, .integer 55296), (34, u "unitOrder"), (0, u "(C)I"), (0, .integer 57344), (0, u "MAX_QUOTED"), (0, u "I")] 32

def k2m0 : Method := { name := "<init>", desc := "()V", sig := { parameters := [], returnType := none }, accessFlags := 2, code := none }
def k2c1 : Code := { maxStack := 2, maxLocals := 1, code := prog_40_method_7_code, exceptionTable := #[], attributes := #[] }
def k2m1 : Method := { name := "unitOrder", desc := "(C)I", sig := { parameters := [.char], returnType := some .int }, accessFlags := 9, code := some k2c1 }
/-- com/example/columnweave/columnweave/format/Text -/
def k2 : Class := { plain "com/example/columnweave/columnweave/format/Text" (some 0) with
  accessFlags := 49
  interfaces := #[]
  cf := some (fileOf pool2 13 #[] #[{ accessFlags := 2, nameIndex := 5, descriptorIndex := 6, attributes := #[] }, { accessFlags := 9, nameIndex := 128, descriptorIndex := 129, attributes := #[] }] 49 2 #[] #[{ accessFlags := 26, nameIndex := 131, descriptorIndex := 132, attributes := #[] }])
  fields := #[{ name := "MAX_QUOTED", type := .int, accessFlags := 26, slot := 0, constantValue := 0 }]
  methods := #[k2m0, k2m1]
  instanceTypes := #[]
  staticTypes := #[.int]
  resolved := Array.replicate 165 none
  statics := none }

def pool3 : Array CpInfo := pool [(1, u "java/lang/Cloneable"), (0, .class_ 1), (0, u "java/lang/Object"), (0, .class_ 3)] 3

/-- java/lang/Cloneable -/
def k3 : Class := { plain "java/lang/Cloneable" (some 0) with
  accessFlags := 1537
  interfaces := #[]
  cf := some (fileOf pool3 2 #[] #[] 1537 4 #[] #[])
  fields := #[]
  methods := #[]
  instanceTypes := #[]
  staticTypes := #[]
  resolved := Array.replicate 8 none
  statics := none }

def pool4 : Array CpInfo := pool [(1, u "java/io/Serializable"), (0, .class_ 1), (0, u "java/lang/Object"), (0, .class_ 3)] 3

/-- java/io/Serializable -/
def k4 : Class := { plain "java/io/Serializable" (some 0) with
  accessFlags := 1537
  interfaces := #[]
  cf := some (fileOf pool4 2 #[] #[] 1537 4 #[] #[])
  fields := #[]
  methods := #[]
  instanceTypes := #[]
  staticTypes := #[]
  resolved := Array.replicate 8 none
  statics := none }

/-- the primitive byte -/
def k5 : Class := { plain "byte" none with kind := .primitive 'B', accessFlags := 0x411 }
/-- [B -/
def k6 : Class := { plain "[B" (some 0) with kind := .array 5 .byte, interfaces := #[3, 4], accessFlags := 1041 }

/-- the primitive int -/
def k7 : Class := { plain "int" none with kind := .primitive 'I', accessFlags := 0x411 }
/-- [I -/
def k8 : Class := { plain "[I" (some 0) with kind := .array 7 .int, interfaces := #[3, 4], accessFlags := 1041 }

def heap : Heap := #[]
def classes : Array Class := #[k0, k1, k2, k3, k4, k5, k6, k7, k8]
def interned : List (Array UInt16 × Addr) := []
def slotsUsed : Nat := 0
def theMethod : MethodId := ⟨1, 1⟩
def args0 : Array Value := #[.int 5, .int 7]
def aboutOver (below : List Frame) : State where
  vm := { classes := classes, interned := interned.toArray }
  heap := heap
  slotsUsed := slotsUsed
  threads := #[{ frames := .invoking theMethod args0 :: below }]
def below0 : List Frame := [.native { method := ⟨0, 0⟩, args := #[] }]
def about1 : State := aboutOver below0
def p0 : Program := .bare "" "" ""
def e0 : Env := launch0.env 0 0 0
theorem w_frames : about1.frames = Frame.invoking theMethod args0 :: below0 := rfl
set_option maxRecDepth 65536 in
theorem w_args : argsFit about1.vm theMethod args0 = true := by decide +kernel
set_option maxRecDepth 65536 in
theorem w_heap : heapFits about1 = true := by decide +kernel
set_option maxRecDepth 65536 in
theorem w_runnable : about1.curStatus? = some .runnable := by decide +kernel
set_option maxRecDepth 65536 in
theorem w_alone : about1.alone = true := by decide +kernel
set_option maxRecDepth 65536 in
theorem w_named : about1.methodNamed? x = some theMethod := by decide +kernel
set_option maxRecDepth 65536 in
theorem w_hears : about1.hears theMethod below0 = true := by decide +kernel
set_option maxRecDepth 65536 in
theorem w_ripe : about1.ripe theMethod args0 below0 = true := by decide +kernel
theorem w_running : about1.status = .running := rfl
set_option maxRecDepth 65536 in
theorem w_room : about1.hasRoom e0.platform room_1 = true :=
  launch0.hasRoom_least _ room_1 (by decide +kernel) (by decide +kernel) (by decide +kernel) (by decide +kernel) (by decide +kernel) (by decide +kernel)
theorem allAtoms_all (ts : List Jvm.Cond) (a : Array Jvm.Value) (st : Jvm.State) : (allAtoms ts).before a st = ts.all (fun c => c.before a st) := by
  induction ts with
  | nil => rfl
  | cons c t ih =>
    show (Jvm.Cond.and c (allAtoms t)).before a st = _
    rw [Jvm.Cond.before_and, ih, List.all_cons]
def words1 : List Jvm.Cond := Jvm.Cond.code x code maxLocals ret :: tables_1
/-- a 'code' word, met by the world's own term for the bytes: nothing is compared byte by byte -/
theorem code_word {y : MethodName} {bytes : ByteArray} {mx : Nat} {rt : Option FieldType} {a : Array Value} {s : State} {m : MethodId} {meth : Method} {c : Code} (h1 : s.methodNamed? y = some m) (h2 : s.vm.method? m = some meth) (h3 : meth.code = some c) (h4 : c.code = bytes)
    (h5 : (c.maxLocals == mx && c.exceptionTable.isEmpty && decide (c.maxStack ≤ mostOperands) && decide (meth.sig.returnType = rt) && !meth.locks && decide (parseMethodDescriptor y.desc = some meth.sig)) = true) : (Jvm.Cond.code y bytes mx rt).before a s = true := by
  simp only [Bool.and_eq_true, beq_iff_eq, Bool.not_eq_true', decide_eq_true_eq] at h5
  obtain ⟨⟨⟨⟨⟨g1, g2⟩, g3⟩, g4⟩, g5⟩, g6⟩ := h5
  simp [Cond.before, Cond.holds, Cond.value, h1, h2, h3, h4, g1, g2, g3, g4, g5, g6]
def isCode : Jvm.Cond → Bool
  | .code _ _ _ _ => true
  | _ => false
theorem all_split {L : List Jvm.Cond} {P : Jvm.Cond → Bool} (h1 : L.all (fun c => isCode c || P c) = true) (h2 : ∀ c ∈ L.filter isCode, P c = true) : L.all P = true := by
  refine List.all_eq_true.mpr fun c hc => ?_
  have h := List.all_eq_true.mp h1 c hc
  rcases Bool.eq_false_or_eq_true (isCode c) with hi | hi
  · exact h2 c (List.mem_filter.mpr ⟨hc, hi⟩)
  · simpa [hi] using h
set_option maxRecDepth 65536 in
theorem w_c0 : (Jvm.Cond.code x code maxLocals ret).before args0 about1 = true := code_word (m := ⟨1, 1⟩) (meth := k1m1) (c := k1c1) (by decide +kernel) rfl rfl rfl (by decide +kernel)
set_option maxRecDepth 65536 in
theorem w_c1 : (Jvm.Cond.code ({ cls := "com/example/columnweave/columnweave/format/Text", name := "unitOrder", desc := "(C)I" } : Jvm.MethodName) prog_40_method_7_code (1 : Nat) (Option.some Jvm.ClassFile.FieldType.int)).before args0 about1 = true := code_word (m := ⟨2, 1⟩) (meth := k2m1) (c := k2c1) (by decide +kernel) rfl rfl rfl (by decide +kernel)
set_option maxRecDepth 65536 in
theorem w_c2 : (Jvm.Cond.code ({ cls := "com/example/columnweave/columnweave/format/TextUnitOrderPinLaw", name := "before", desc := "(CC)Z" } : Jvm.MethodName) method_4_code (4 : Nat) (Option.some Jvm.ClassFile.FieldType.boolean)).before args0 about1 = true := code_word (m := ⟨1, 3⟩) (meth := k1m3) (c := k1c3) (by decide +kernel) rfl rfl rfl (by decide +kernel)
set_option maxRecDepth 65536 in
theorem w_c3 : (Jvm.Cond.code ({ cls := "com/example/columnweave/columnweave/format/TextUnitOrderPinLaw", name := "rank", desc := "(C)I" } : Jvm.MethodName) method_3_code (1 : Nat) (Option.some Jvm.ClassFile.FieldType.int)).before args0 about1 = true := code_word (m := ⟨1, 2⟩) (meth := k1m2) (c := k1c2) (by decide +kernel) rfl rfl rfl (by decide +kernel)
def codes1 : List Jvm.Cond := [Jvm.Cond.code x code maxLocals ret, Jvm.Cond.code ({ cls := "com/example/columnweave/columnweave/format/Text", name := "unitOrder", desc := "(C)I" } : Jvm.MethodName) prog_40_method_7_code (1 : Nat) (Option.some Jvm.ClassFile.FieldType.int), Jvm.Cond.code ({ cls := "com/example/columnweave/columnweave/format/TextUnitOrderPinLaw", name := "before", desc := "(CC)Z" } : Jvm.MethodName) method_4_code (4 : Nat) (Option.some Jvm.ClassFile.FieldType.boolean), Jvm.Cond.code ({ cls := "com/example/columnweave/columnweave/format/TextUnitOrderPinLaw", name := "rank", desc := "(C)I" } : Jvm.MethodName) method_3_code (1 : Nat) (Option.some Jvm.ClassFile.FieldType.int)]
set_option maxRecDepth 65536 in
theorem codes_eq : words1.filter isCode = codes1 := rfl
theorem w_codes : ∀ c ∈ words1.filter isCode, c.before args0 about1 = true := by
  rw [codes_eq]
  intro c hc
  simp only [codes1, List.mem_cons, List.not_mem_nil, or_false] at hc
  rcases hc with rfl | rfl | rfl | rfl
  · exact w_c0
  · exact w_c1
  · exact w_c2
  · exact w_c3
set_option maxRecDepth 65536 in
theorem w_t1 : words1.all (fun c => isCode c || c.before args0 about1) = true := by decide +kernel
theorem w_tables : (allAtoms (Jvm.Cond.code x code maxLocals ret :: tables_1)).before args0 about1 = true := by
  rw [allAtoms_all]
  show words1.all (fun c => c.before args0 about1) = true
  refine all_split ?_ w_codes
  rw [w_t1]
set_option maxRecDepth 65536 in
theorem w_case : (Jvm.Cond.and given_1 narrow_1).before args0 about1 = true := by decide +kernel
theorem w_applies : (headSpec (Jvm.Cond.code x code maxLocals ret :: tables_1) room_1).applies x e0.platform about1 = true :=
  (Spec.applies_iff w_frames).mpr ⟨w_running, w_runnable, w_alone, w_named, w_hears, w_ripe, w_room, w_tables⟩
theorem atStart : AtStart classFile x code maxLocals ret World_1 tables_1 room_1 Calls_1 rest_1 Pre_1 launch0 p0 e0 about1 theMethod args0 below0 :=
  ⟨lists_1, trivial, launch0.admits_env _ _ _, launch0.least_env, fairChoices_fair.cas, fairChoices_fair.clock, w_frames, w_args, w_heap, w_applies, trivial, trivial, w_case⟩
end start1
theorem witness_1 : WitnessClaimed_1 := ⟨start1.p0, start1.e0, start1.about1, start1.theMethod, start1.args0, start1.below0, start1.atStart⟩
end Jvm.Pilot.@@N@@
