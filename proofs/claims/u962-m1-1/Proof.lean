import JvmDerived
import JvmDerived.Pilot.@@N@@Statement
import JvmDerived.Pilot.@@N@@Code
set_option linter.unusedVariables false
set_option linter.unusedSimpArgs false
namespace Jvm.RoadKit
open Sem ClassFile Op Lib Jvm.Stand Jvm.Free Jvm.LawKit
section New
variable {p : Program} {l : Launch} {e : Env} {R : Room} {s : State} {m : MethodId} {args : Array Value} {below : List Frame} {meth : Method} {c : Code} {T : State} {locs : List Loc} {cells slots : Nat}
theorem retI (X : Stand p l e R s m args below meth c T locs cells slots) (hx : p.tables.exec = Jvm.exec) {pc : Nat} {Ls : Array Slot} {z : Int32} {rest : List Value} (hret : meth.sig.returnType = some .int) (hd : decode c.code pc = .ok (.ireturn, 1)) {fs : List Frame}
    (hl : ∀ (f : JFrame) (acts : List Action), f.method = m → f.locked = none → f.entered = [] → (doReturn e (T.setTop f) acts (some (.int z))).1 = T.setFrames fs) : Steps p.tables e below (T.setTop (mkF m pc Ls (.int z :: rest))) (T.setFrames fs) := by
  have hm' : T.vm.method? m = some meth := X.method'
  have hn : narrow .int (.int z) = .int z := rfl
  show Steps p.tables e below (T.setTop { method := m, pc := pc, locals := Ls, stack := _ :: rest, locked := none }) _
  jvm_step X.here [X.here.top, hx, hd, hm', hret, hn]
  first | (intro acts; rw [hl _ acts rfl rfl rfl]) | rw [hl _ _ rfl rfl rfl]
  exact Steps.refl _
end New
end Jvm.RoadKit
namespace Jvm.Pilot.@@N@@
open Jvm Jvm.ClassFile Sem Op Lib Jvm.Free Jvm.Stand Jvm.LawKit Jvm.RoadKit Bundle Jvm.Pilot.@@N@@.Jvm.D
theorem d1_0 : decode prog_48_method_1_code 0 = .ok (.aload_n 0, 1) := by decide +kernel
theorem d1_1 : decode prog_48_method_1_code 1 = .ok (.invokespecial 1, 3) := by decide +kernel
theorem d1_4 : decode prog_48_method_1_code 4 = .ok (.aload_n 0, 1) := by decide +kernel
theorem d1_5 : decode prog_48_method_1_code 5 = .ok (.aload_n 1, 1) := by decide +kernel
theorem d1_6 : decode prog_48_method_1_code 6 = .ok (.putfield 7, 3) := by decide +kernel
theorem d1_9 : decode prog_48_method_1_code 9 = .ok (.aload_n 0, 1) := by decide +kernel
theorem d1_10 : decode prog_48_method_1_code 10 = .ok (.iload_n 2, 1) := by decide +kernel
theorem d1_11 : decode prog_48_method_1_code 11 = .ok (.putfield 13, 3) := by decide +kernel
theorem d1_14 : decode prog_48_method_1_code 14 = .ok (.return_, 1) := by decide +kernel
theorem pn_1 : plainName "com/example/plainwire/plainwire/store/RecordReader" = true := by first | (simp [plainName, overriddenIn]; done) | decide +kernel
theorem ef_1 (m : MethodId) (x0 : Addr) (x1 : Addr) (x2 : Int32) : entryFrame m #[(.ref x0), (.ref x1), (.int x2)] 3 = mkF m 0 #[.val (.ref x0), .val (.ref x1), .val (.int x2)] [] := by first | (simp [entryFrame, mkF, argsToLocals, Value.category]; done) | rfl
def Q1 (Z : State) (a1 : Addr) (a2 : Addr) (p3 : Int32) (u_record_a1 : Value) (u_format_a1 : Value) (h0 : Heap) (n0 : Nat) (v : Option Value) (h : Heap) (L : List Loc) : Prop := v = none ∧ Fr n0 L ∧ Keep h0 h [a1] ∧ Exa Z h a1 "com/example/plainwire/plainwire/store/RecordReader" ∧ Fld Z h a1 "com/example/plainwire/plainwire/store/RecordReader" "record" "[B" (.ref a2) ∧ Fld Z h a1 "com/example/plainwire/plainwire/store/RecordReader" "format" "I" (.int p3)
set_option maxRecDepth 65536 in
set_option maxHeartbeats 40000000 in
theorem rm1 (l : Launch) (Z : State) (a0 : Array Value) (hw : ∀ d ∈ tables_1, d.before a0 Z = true) (ws : List Jvm.Cond) (a1 : Addr) (a2 : Addr) (p3 : Int32) (u_record_a1 : Value) (u_format_a1 : Value) (h0 : Heap) (n0 : Nat) (Z0 : n0 ≤ h0.size) (E_a1 : Exa Z h0 a1 "com/example/plainwire/plainwire/store/RecordReader") (F_record_a1 : Fld Z h0 a1 "com/example/plainwire/plainwire/store/RecordReader" "record" "[B" u_record_a1) (g_a1 : n0 ≤ a1) (F_format_a1 : Fld Z h0 a1 "com/example/plainwire/plainwire/store/RecordReader" "format" "I" u_format_a1) :
    MetFree l (⟨"com/example/plainwire/plainwire/store/RecordReader", "<init>", "([BI)V"⟩ : MethodName) (head1 (Jvm.Cond.code (⟨"com/example/plainwire/plainwire/store/RecordReader", "<init>", "([BI)V"⟩ : MethodName) prog_48_method_1_code 3 none :: ws) ({ frames := 1, cells := 0, slots := 0, locals := 12 } : Room)) (fun a U => a = #[(.ref a1), (.ref a2), (.int p3)] ∧ Z.Warmed39 U.vm ∧ U.heap = h0) (fun _ _ _ _ _ => True) (fun _ U o U' => ∃ v L, o = .returned v ∧ Q1 Z a1 a2 p3 u_record_a1 u_format_a1 h0 n0 v U'.heap L ∧ FrameEnd U o U' L ({ frames := 1, cells := 0, slots := 0, locals := 12 } : Room).cells ({ frames := 1, cells := 0, slots := 0, locals := 12 } : Room).slots) := by
  refine MetFree.of_bodySF (plainFor_of_name pn_1) hisR ?_
  intro p e s m args below meth c s₁ Bd hml0 hP hK
  obtain ⟨rfl, hZ, hh⟩ := hP
  have hx := Bd.exec
  have hby := Bd.bytes
  have hml : c.maxLocals = 3 := hml0
  have hown : s.vm.findClass "com/example/plainwire/plainwire/store/RecordReader" = some m.cls := findClass_of_methodNamed Bd.named
  have hnm := (name_of_methodNamed Bd.named Bd.method).1
  have X0 : Stand p l e ({ frames := 1, cells := 0, slots := 0, locals := 12 } : Room) s m #[(.ref a1), (.ref a2), (.int p3)] below meth c s₁ [] 0 0 := Stand.of_body Bd
  have e0 : s₁.heap = h0 := by rw [← hh, Bd.state]; rfl
  have N0 := Fr.nil n0
  have pre0 : ∀ t, Steps p.tables e below (s₁.setTop (mkF m 0 #[.val (.ref a1), .val (.ref a2), .val (.int p3)] [])) t → Steps p.tables e below (s₁.setTop (entryFrame m #[(.ref a1), (.ref a2), (.int p3)] 3)) t := fun t k => castTop (ef_1 m a1 a2 p3) k
  obtain ⟨T4, X4, e4, st4⟩ := initO X0 hx hZ hown (hw _ (List.mem_of_getElem? (i := 9) rfl)) (hw _ (List.mem_of_getElem? (i := 10) rfl)) (hw _ (List.mem_of_getElem? (i := 11) rfl)) e0 (g := (mkF m 1 #[.val (.ref a1), .val (.ref a2), .val (.int p3)] [(.ref a1)])) rfl (by rw [hml]; rfl) rfl (hb hby d1_1) (by decide) (W := 0) (by show 2 * 0 + _ ≤ _; exact Nat.le_of_eq rfl) (by decide)
  obtain ⟨T5, h5, X5, e5, W5, st5⟩ := putF X4 hx hZ hown (host := "") (Or.inl (hw _ (List.mem_of_getElem? (i := 12) rfl))) Via.refl e4 F_record_a1 E_a1 (Or.inr ⟨(hw _ (List.mem_of_getElem? (i := 13) rfl)), rfl, hnm⟩) (hw _ (List.mem_of_getElem? (i := 4) rfl)) (ty := (.array .byte)) (by decide) rfl rfl (g := (mkF m 6 #[.val (.ref a1), .val (.ref a2), .val (.int p3)] [(.ref a2), (.ref a1)])) rfl rfl (hb hby d1_6)
  have Fw5 := F_record_a1.same W5
  have K5 : Keep h0 h5 [a1] := (Keep.refl h0 [a1]).wr W5 (Or.inl (List.mem_of_getElem? (i := 0) rfl))
  have N5 := Fr.snoc X5 N0 g_a1
  obtain ⟨T6, h6, X6, e6, W6, st6⟩ := putF X5 hx hZ hown (host := "") (Or.inl (hw _ (List.mem_of_getElem? (i := 14) rfl))) Via.refl e5 (F_format_a1.other W5 (Or.inr (slot_ne (Or.inr (hw _ (List.mem_of_getElem? (i := 15) rfl))) (Or.inr (hw _ (List.mem_of_getElem? (i := 13) rfl))) (by decide) (t := .int) (t' := (.array .byte)) (by decide) (by decide)))) (E_a1.wr W5) (Or.inr ⟨(hw _ (List.mem_of_getElem? (i := 15) rfl)), rfl, hnm⟩) (hw _ (List.mem_of_getElem? (i := 4) rfl)) (ty := .int) (by decide) rfl rfl (g := (mkF m 11 #[.val (.ref a1), .val (.ref a2), .val (.int p3)] [(.int p3), (.ref a1)])) rfl rfl (hb hby d1_11)
  have Fw6 := (F_format_a1.other W5 (Or.inr (slot_ne (Or.inr (hw _ (List.mem_of_getElem? (i := 15) rfl))) (Or.inr (hw _ (List.mem_of_getElem? (i := 13) rfl))) (by decide) (t := .int) (t' := (.array .byte)) (by decide) (by decide)))).same W6
  have K6 : Keep h0 h6 [a1] := K5.wr W6 (Or.inl (List.mem_of_getElem? (i := 0) rfl))
  have N6 := Fr.snoc X6 N5 g_a1
  obtain ⟨fs, hr, hrun, hended, hW, hsame⟩ := X6.leave (v := none) (fun _ => rfl)
  refine ⟨_, _, pre0 _ ?_, hrun, hended, _, _, rfl, ?_, ⟨_, rfl⟩, hW, hsame.mono (by decide) (by decide)⟩
  · show Steps p.tables e below (s₁.setTop (mkF m 0 #[.val (.ref a1), .val (.ref a2), .val (.int p3)] [])) _
    refine XS.aloadN X0.here hx rfl (hb hby d1_0) rfl rfl ?_
    show Steps p.tables e below (s₁.setTop (mkF m 1 #[.val (.ref a1), .val (.ref a2), .val (.int p3)] [(.ref a1)])) _
    refine st4 _ ?_
    show Steps p.tables e below (T4.setTop (mkF m 4 #[.val (.ref a1), .val (.ref a2), .val (.int p3)] [])) _
    refine XS.aloadN X4.here hx rfl (hb hby d1_4) rfl rfl ?_
    show Steps p.tables e below (T4.setTop (mkF m 5 #[.val (.ref a1), .val (.ref a2), .val (.int p3)] [(.ref a1)])) _
    refine XS.aloadN X4.here hx rfl (hb hby d1_5) rfl rfl ?_
    show Steps p.tables e below (T4.setTop (mkF m 6 #[.val (.ref a1), .val (.ref a2), .val (.int p3)] [(.ref a2), (.ref a1)])) _
    refine st5 _ ?_
    show Steps p.tables e below (T5.setTop (mkF m 9 #[.val (.ref a1), .val (.ref a2), .val (.int p3)] [])) _
    refine XS.aloadN X5.here hx rfl (hb hby d1_9) rfl rfl ?_
    show Steps p.tables e below (T5.setTop (mkF m 10 #[.val (.ref a1), .val (.ref a2), .val (.int p3)] [(.ref a1)])) _
    refine XS.iloadN X5.here hx rfl (hb hby d1_10) rfl ?_
    show Steps p.tables e below (T5.setTop (mkF m 11 #[.val (.ref a1), .val (.ref a2), .val (.int p3)] [(.int p3), (.ref a1)])) _
    refine st6 _ ?_
    show Steps p.tables e below (T6.setTop (mkF m 14 #[.val (.ref a1), .val (.ref a2), .val (.int p3)] [])) _
    exact X6.returnOut hx Bd.returns (hb hby d1_14) hr
  · show Q1 Z a1 a2 p3 u_record_a1 u_format_a1 h0 n0 _ T6.heap _
    rw [e6]
    exact ⟨rfl, N6, K6, ((E_a1.wr W5).wr W6), (Fw5.other W6 (Or.inr (slot_ne (Or.inr (hw _ (List.mem_of_getElem? (i := 13) rfl))) (Or.inr (hw _ (List.mem_of_getElem? (i := 15) rfl))) (by decide) (t := (.array .byte)) (t' := .int) (by decide) (by decide)))), Fw6⟩
theorem d3_0 : decode prog_48_method_10_code 0 = .ok (.aload_n 0, 1) := by decide +kernel
theorem d3_1 : decode prog_48_method_10_code 1 = .ok (.getfield 13, 3) := by decide +kernel
theorem d3_4 : decode prog_48_method_10_code 4 = .ok (.iconst 4, 1) := by decide +kernel
theorem d3_5 : decode prog_48_method_10_code 5 = .ok (.if_icmp .lt 7, 3) := by decide +kernel
theorem d3_12 : decode prog_48_method_10_code 12 = .ok (.iconst 0, 1) := by decide +kernel
theorem d3_13 : decode prog_48_method_10_code 13 = .ok (.ireturn, 1) := by decide +kernel
theorem pn_3 : plainName "com/example/plainwire/plainwire/store/RecordReader" = true := by first | (simp [plainName, overriddenIn]; done) | decide +kernel
theorem ef_3 (m : MethodId) (x0 : Addr) : entryFrame m #[(.ref x0)] 1 = mkF m 0 #[.val (.ref x0)] [] := by first | (simp [entryFrame, mkF, argsToLocals, Value.category]; done) | rfl
theorem d3_8 : decode prog_48_method_10_code 8 = .ok (.iconst 1, 1) := by decide +kernel
theorem d3_9 : decode prog_48_method_10_code 9 = .ok (.goto 4, 3) := by decide +kernel
def Q3 (Z : State) (a1 : Addr) (w2 r : Int32) (h0 : Heap) (n0 : Nat) (v : Option Value) (h : Heap) (L : List Loc) : Prop := v = some (.int r) ∧ Fr n0 L ∧ h = h0
set_option maxRecDepth 65536 in
set_option maxHeartbeats 40000000 in
theorem rm3 (l : Launch) (Z : State) (a0 : Array Value) (hw : ∀ d ∈ tables_1, d.before a0 Z = true) (ws : List Jvm.Cond) (a1 : Addr) (w2 r : Int32) (h0 : Heap) (n0 : Nat) (Z0 : n0 ≤ h0.size) (F_format_a1 : Fld Z h0 a1 "com/example/plainwire/plainwire/store/RecordReader" "format" "I" (.int w2)) (hr0 : r = if w2 < (4 : Int32) then 0 else 1) :
    MetFree l (⟨"com/example/plainwire/plainwire/store/RecordReader", "deletesLinks", "()Z"⟩ : MethodName) (head1 (Jvm.Cond.code (⟨"com/example/plainwire/plainwire/store/RecordReader", "deletesLinks", "()Z"⟩ : MethodName) prog_48_method_10_code 1 (some .boolean) :: ws) ({ frames := 0, cells := 0, slots := 0, locals := 0 } : Room)) (fun a U => a = #[(.ref a1)] ∧ Z.Warmed39 U.vm ∧ U.heap = h0) (fun _ _ _ _ _ => True) (fun _ U o U' => ∃ v L, o = .returned v ∧ Q3 Z a1 w2 r h0 n0 v U'.heap L ∧ FrameEnd U o U' L ({ frames := 0, cells := 0, slots := 0, locals := 0 } : Room).cells ({ frames := 0, cells := 0, slots := 0, locals := 0 } : Room).slots) := by
  by_cases hc5 : w2 < (4 : Int32)
  · obtain rfl : r = 0 := by rw [hr0, if_pos hc5]
    refine MetFree.of_bodySF (plainFor_of_name pn_3) hisR ?_
    intro p e s m args below meth c s₁ Bd hml0 hP hK
    obtain ⟨rfl, hZ, hh⟩ := hP
    have hx := Bd.exec
    have hby := Bd.bytes
    have hml : c.maxLocals = 1 := hml0
    have hown : s.vm.findClass "com/example/plainwire/plainwire/store/RecordReader" = some m.cls := findClass_of_methodNamed Bd.named
    have hnm := (name_of_methodNamed Bd.named Bd.method).1
    have X0 : Stand p l e ({ frames := 0, cells := 0, slots := 0, locals := 0 } : Room) s m #[(.ref a1)] below meth c s₁ [] 0 0 := Stand.of_body Bd
    have e0 : s₁.heap = h0 := by rw [← hh, Bd.state]; rfl
    have N0 := Fr.nil n0
    have pre0 : ∀ t, Steps p.tables e below (s₁.setTop (mkF m 0 #[.val (.ref a1)] [])) t → Steps p.tables e below (s₁.setTop (entryFrame m #[(.ref a1)] 1)) t := fun t k => castTop (ef_3 m a1) k
    obtain ⟨T3, X3, e3, st3⟩ := getF X0 hx hZ hown (host := "") (Or.inl (hw _ (List.mem_of_getElem? (i := 14) rfl))) Via.refl e0 F_format_a1 (g := (mkF m 1 #[.val (.ref a1)] [(.ref a1)])) rfl rfl (hb hby d3_1)
    obtain ⟨fs, hr, hrun, hended, hW, hsame⟩ := X3.leave (v := some (.int (0 : Int32))) (fun h => by rw [Bd.returns] at h; cases h)
    refine ⟨_, _, pre0 _ ?_, hrun, hended, _, _, rfl, ?_, ⟨_, rfl⟩, hW, hsame.mono (by decide) (by decide)⟩
    · show Steps p.tables e below (s₁.setTop (mkF m 0 #[.val (.ref a1)] [])) _
      refine XS.aloadN X0.here hx rfl (hb hby d3_0) rfl rfl ?_
      show Steps p.tables e below (s₁.setTop (mkF m 1 #[.val (.ref a1)] [(.ref a1)])) _
      refine st3 _ ?_
      show Steps p.tables e below (T3.setTop (mkF m 4 #[.val (.ref a1)] [(.int w2)])) _
      refine XS.iconst X3.here hx rfl (hb hby d3_4) ?_
      show Steps p.tables e below (T3.setTop (mkF m 5 #[.val (.ref a1)] [(.int (4 : Int32)), (.int w2)])) _
      refine XS.icmpYes X3.here hx rfl (pc0 := 5) (pc' := 12) rfl (hb hby d3_5) rfl (tlt hc5).1 (by decide) (by decide) ?_
      show Steps p.tables e below (T3.setTop (mkF m 12 #[.val (.ref a1)] [])) _
      refine XS.iconst X3.here hx rfl (hb hby d3_12) ?_
      show Steps p.tables e below (T3.setTop (mkF m 13 #[.val (.ref a1)] [(.int (0 : Int32))])) _
      exact retN X3 hx (t := .boolean) Bd.returns (by simp) (hb hby d3_13) hr
    · show Q3 Z a1 w2 _ h0 n0 _ T3.heap _
      rw [e3]
      exact ⟨rfl, N0, rfl⟩
  · obtain rfl : r = 1 := by rw [hr0, if_neg hc5]
    refine MetFree.of_bodySF (plainFor_of_name pn_3) hisR ?_
    intro p e s m args below meth c s₁ Bd hml0 hP hK
    obtain ⟨rfl, hZ, hh⟩ := hP
    have hx := Bd.exec
    have hby := Bd.bytes
    have hml : c.maxLocals = 1 := hml0
    have hown : s.vm.findClass "com/example/plainwire/plainwire/store/RecordReader" = some m.cls := findClass_of_methodNamed Bd.named
    have hnm := (name_of_methodNamed Bd.named Bd.method).1
    have X0 : Stand p l e ({ frames := 0, cells := 0, slots := 0, locals := 0 } : Room) s m #[(.ref a1)] below meth c s₁ [] 0 0 := Stand.of_body Bd
    have e0 : s₁.heap = h0 := by rw [← hh, Bd.state]; rfl
    have N0 := Fr.nil n0
    have pre0 : ∀ t, Steps p.tables e below (s₁.setTop (mkF m 0 #[.val (.ref a1)] [])) t → Steps p.tables e below (s₁.setTop (entryFrame m #[(.ref a1)] 1)) t := fun t k => castTop (ef_3 m a1) k
    obtain ⟨T3, X3, e3, st3⟩ := getF X0 hx hZ hown (host := "") (Or.inl (hw _ (List.mem_of_getElem? (i := 14) rfl))) Via.refl e0 F_format_a1 (g := (mkF m 1 #[.val (.ref a1)] [(.ref a1)])) rfl rfl (hb hby d3_1)
    obtain ⟨fs, hr, hrun, hended, hW, hsame⟩ := X3.leave (v := some (.int (1 : Int32))) (fun h => by rw [Bd.returns] at h; cases h)
    refine ⟨_, _, pre0 _ ?_, hrun, hended, _, _, rfl, ?_, ⟨_, rfl⟩, hW, hsame.mono (by decide) (by decide)⟩
    · show Steps p.tables e below (s₁.setTop (mkF m 0 #[.val (.ref a1)] [])) _
      refine XS.aloadN X0.here hx rfl (hb hby d3_0) rfl rfl ?_
      show Steps p.tables e below (s₁.setTop (mkF m 1 #[.val (.ref a1)] [(.ref a1)])) _
      refine st3 _ ?_
      show Steps p.tables e below (T3.setTop (mkF m 4 #[.val (.ref a1)] [(.int w2)])) _
      refine XS.iconst X3.here hx rfl (hb hby d3_4) ?_
      show Steps p.tables e below (T3.setTop (mkF m 5 #[.val (.ref a1)] [(.int (4 : Int32)), (.int w2)])) _
      refine XS.icmpNo X3.here hx rfl (hb hby d3_5) rfl (flt hc5).1 ?_
      show Steps p.tables e below (T3.setTop (mkF m 8 #[.val (.ref a1)] [])) _
      refine XS.iconst X3.here hx rfl (hb hby d3_8) ?_
      show Steps p.tables e below (T3.setTop (mkF m 9 #[.val (.ref a1)] [(.int (1 : Int32))])) _
      refine XS.goto X3.here hx rfl (pc0 := 9) (pc' := 13) rfl (hb hby d3_9) (by decide) (by decide) ?_
      show Steps p.tables e below (T3.setTop (mkF m 13 #[.val (.ref a1)] [(.int (1 : Int32))])) _
      exact retN X3 hx (t := .boolean) Bd.returns (by simp) (hb hby d3_13) hr
    · show Q3 Z a1 w2 _ h0 n0 _ T3.heap _
      rw [e3]
      exact ⟨rfl, N0, rfl⟩
theorem d4_0 : decode method_2_code 0 = .ok (.iload_n 0, 1) := by decide +kernel
theorem d4_1 : decode method_2_code 1 = .ok (.iconst 1, 1) := by decide +kernel
theorem d4_2 : decode method_2_code 2 = .ok (.if_icmp .ne 5, 3) := by decide +kernel
theorem d4_5 : decode method_2_code 5 = .ok (.iconst 0, 1) := by decide +kernel
theorem d4_6 : decode method_2_code 6 = .ok (.ireturn, 1) := by decide +kernel
theorem pn_4 : plainName "com/example/plainwire/plainwire/store/RecordReaderDeletesLinksPinLaw" = true := by first | (simp [plainName, overriddenIn]; done) | decide +kernel
theorem ef_4 (m : MethodId) (x0 : Int32) : entryFrame m #[(.int x0)] 1 = mkF m 0 #[.val (.int x0)] [] := by first | (simp [entryFrame, mkF, argsToLocals, Value.category]; done) | rfl
theorem d4_7 : decode method_2_code 7 = .ok (.iload_n 0, 1) := by decide +kernel
theorem d4_8 : decode method_2_code 8 = .ok (.iconst 2, 1) := by decide +kernel
theorem d4_9 : decode method_2_code 9 = .ok (.if_icmp .ne 5, 3) := by decide +kernel
theorem d4_12 : decode method_2_code 12 = .ok (.iconst 0, 1) := by decide +kernel
theorem d4_13 : decode method_2_code 13 = .ok (.ireturn, 1) := by decide +kernel
theorem d4_14 : decode method_2_code 14 = .ok (.iload_n 0, 1) := by decide +kernel
theorem d4_15 : decode method_2_code 15 = .ok (.iconst 3, 1) := by decide +kernel
theorem d4_16 : decode method_2_code 16 = .ok (.if_icmp .ne 5, 3) := by decide +kernel
theorem d4_19 : decode method_2_code 19 = .ok (.iconst 0, 1) := by decide +kernel
theorem d4_20 : decode method_2_code 20 = .ok (.ireturn, 1) := by decide +kernel
theorem d4_21 : decode method_2_code 21 = .ok (.iconst 1, 1) := by decide +kernel
theorem d4_22 : decode method_2_code 22 = .ok (.ireturn, 1) := by decide +kernel
def Q4 (Z : State) (p1 r : Int32) (h0 : Heap) (n0 : Nat) (v : Option Value) (h : Heap) (L : List Loc) : Prop := v = some (.int r) ∧ Fr n0 L ∧ h = h0
set_option maxRecDepth 65536 in
set_option maxHeartbeats 40000000 in
theorem rm4 (l : Launch) (Z : State) (a0 : Array Value) (hw : ∀ d ∈ tables_1, d.before a0 Z = true) (ws : List Jvm.Cond) (p1 r : Int32) (h0 : Heap) (n0 : Nat) (Z0 : n0 ≤ h0.size) (hr0 : r = if p1 = (1 : Int32) then 0 else if p1 = (2 : Int32) then 0 else if p1 = (3 : Int32) then 0 else 1) :
    MetFree l (⟨"com/example/plainwire/plainwire/store/RecordReaderDeletesLinksPinLaw", "expected", "(I)Z"⟩ : MethodName) (head1 (Jvm.Cond.code (⟨"com/example/plainwire/plainwire/store/RecordReaderDeletesLinksPinLaw", "expected", "(I)Z"⟩ : MethodName) method_2_code 1 (some .boolean) :: ws) ({ frames := 0, cells := 0, slots := 0, locals := 0 } : Room)) (fun a U => a = #[(.int p1)] ∧ Z.Warmed39 U.vm ∧ U.heap = h0) (fun _ _ _ _ _ => True) (fun _ U o U' => ∃ v L, o = .returned v ∧ Q4 Z p1 r h0 n0 v U'.heap L ∧ FrameEnd U o U' L ({ frames := 0, cells := 0, slots := 0, locals := 0 } : Room).cells ({ frames := 0, cells := 0, slots := 0, locals := 0 } : Room).slots) := by
  by_cases hc2 : p1 = (1 : Int32)
  · obtain rfl : r = 0 := by rw [hr0, if_pos hc2]
    refine MetFree.of_bodySF (plainFor_of_name pn_4) hisR ?_
    intro p e s m args below meth c s₁ Bd hml0 hP hK
    obtain ⟨rfl, hZ, hh⟩ := hP
    have hx := Bd.exec
    have hby := Bd.bytes
    have hml : c.maxLocals = 1 := hml0
    have hown : s.vm.findClass "com/example/plainwire/plainwire/store/RecordReaderDeletesLinksPinLaw" = some m.cls := findClass_of_methodNamed Bd.named
    have hnm := (name_of_methodNamed Bd.named Bd.method).1
    have X0 : Stand p l e ({ frames := 0, cells := 0, slots := 0, locals := 0 } : Room) s m #[(.int p1)] below meth c s₁ [] 0 0 := Stand.of_body Bd
    have e0 : s₁.heap = h0 := by rw [← hh, Bd.state]; rfl
    have N0 := Fr.nil n0
    have pre0 : ∀ t, Steps p.tables e below (s₁.setTop (mkF m 0 #[.val (.int p1)] [])) t → Steps p.tables e below (s₁.setTop (entryFrame m #[(.int p1)] 1)) t := fun t k => castTop (ef_4 m p1) k
    obtain ⟨fs, hr, hrun, hended, hW, hsame⟩ := X0.leave (v := some (.int (0 : Int32))) (fun h => by rw [Bd.returns] at h; cases h)
    refine ⟨_, _, pre0 _ ?_, hrun, hended, _, _, rfl, ?_, ⟨_, rfl⟩, hW, hsame.mono (by decide) (by decide)⟩
    · show Steps p.tables e below (s₁.setTop (mkF m 0 #[.val (.int p1)] [])) _
      refine XS.iloadN X0.here hx rfl (hb hby d4_0) rfl ?_
      show Steps p.tables e below (s₁.setTop (mkF m 1 #[.val (.int p1)] [(.int p1)])) _
      refine XS.iconst X0.here hx rfl (hb hby d4_1) ?_
      show Steps p.tables e below (s₁.setTop (mkF m 2 #[.val (.int p1)] [(.int (1 : Int32)), (.int p1)])) _
      refine XS.icmpNo X0.here hx rfl (hb hby d4_2) rfl (teq hc2).2 ?_
      show Steps p.tables e below (s₁.setTop (mkF m 5 #[.val (.int p1)] [])) _
      refine XS.iconst X0.here hx rfl (hb hby d4_5) ?_
      show Steps p.tables e below (s₁.setTop (mkF m 6 #[.val (.int p1)] [(.int (0 : Int32))])) _
      exact retN X0 hx (t := .boolean) Bd.returns (by simp) (hb hby d4_6) hr
    · show Q4 Z p1 _ h0 n0 _ s₁.heap _
      rw [e0]
      exact ⟨rfl, N0, rfl⟩
  by_cases hc9 : p1 = (2 : Int32)
  · obtain rfl : r = 0 := by rw [hr0, if_neg hc2, if_pos hc9]
    refine MetFree.of_bodySF (plainFor_of_name pn_4) hisR ?_
    intro p e s m args below meth c s₁ Bd hml0 hP hK
    obtain ⟨rfl, hZ, hh⟩ := hP
    have hx := Bd.exec
    have hby := Bd.bytes
    have hml : c.maxLocals = 1 := hml0
    have hown : s.vm.findClass "com/example/plainwire/plainwire/store/RecordReaderDeletesLinksPinLaw" = some m.cls := findClass_of_methodNamed Bd.named
    have hnm := (name_of_methodNamed Bd.named Bd.method).1
    have X0 : Stand p l e ({ frames := 0, cells := 0, slots := 0, locals := 0 } : Room) s m #[(.int p1)] below meth c s₁ [] 0 0 := Stand.of_body Bd
    have e0 : s₁.heap = h0 := by rw [← hh, Bd.state]; rfl
    have N0 := Fr.nil n0
    have pre0 : ∀ t, Steps p.tables e below (s₁.setTop (mkF m 0 #[.val (.int p1)] [])) t → Steps p.tables e below (s₁.setTop (entryFrame m #[(.int p1)] 1)) t := fun t k => castTop (ef_4 m p1) k
    obtain ⟨fs, hr, hrun, hended, hW, hsame⟩ := X0.leave (v := some (.int (0 : Int32))) (fun h => by rw [Bd.returns] at h; cases h)
    refine ⟨_, _, pre0 _ ?_, hrun, hended, _, _, rfl, ?_, ⟨_, rfl⟩, hW, hsame.mono (by decide) (by decide)⟩
    · show Steps p.tables e below (s₁.setTop (mkF m 0 #[.val (.int p1)] [])) _
      refine XS.iloadN X0.here hx rfl (hb hby d4_0) rfl ?_
      show Steps p.tables e below (s₁.setTop (mkF m 1 #[.val (.int p1)] [(.int p1)])) _
      refine XS.iconst X0.here hx rfl (hb hby d4_1) ?_
      show Steps p.tables e below (s₁.setTop (mkF m 2 #[.val (.int p1)] [(.int (1 : Int32)), (.int p1)])) _
      refine XS.icmpYes X0.here hx rfl (pc0 := 2) (pc' := 7) rfl (hb hby d4_2) rfl (feq hc2).2 (by decide) (by decide) ?_
      show Steps p.tables e below (s₁.setTop (mkF m 7 #[.val (.int p1)] [])) _
      refine XS.iloadN X0.here hx rfl (hb hby d4_7) rfl ?_
      show Steps p.tables e below (s₁.setTop (mkF m 8 #[.val (.int p1)] [(.int p1)])) _
      refine XS.iconst X0.here hx rfl (hb hby d4_8) ?_
      show Steps p.tables e below (s₁.setTop (mkF m 9 #[.val (.int p1)] [(.int (2 : Int32)), (.int p1)])) _
      refine XS.icmpNo X0.here hx rfl (hb hby d4_9) rfl (teq hc9).2 ?_
      show Steps p.tables e below (s₁.setTop (mkF m 12 #[.val (.int p1)] [])) _
      refine XS.iconst X0.here hx rfl (hb hby d4_12) ?_
      show Steps p.tables e below (s₁.setTop (mkF m 13 #[.val (.int p1)] [(.int (0 : Int32))])) _
      exact retN X0 hx (t := .boolean) Bd.returns (by simp) (hb hby d4_13) hr
    · show Q4 Z p1 _ h0 n0 _ s₁.heap _
      rw [e0]
      exact ⟨rfl, N0, rfl⟩
  by_cases hc16 : p1 = (3 : Int32)
  · obtain rfl : r = 0 := by rw [hr0, if_neg hc2, if_neg hc9, if_pos hc16]
    refine MetFree.of_bodySF (plainFor_of_name pn_4) hisR ?_
    intro p e s m args below meth c s₁ Bd hml0 hP hK
    obtain ⟨rfl, hZ, hh⟩ := hP
    have hx := Bd.exec
    have hby := Bd.bytes
    have hml : c.maxLocals = 1 := hml0
    have hown : s.vm.findClass "com/example/plainwire/plainwire/store/RecordReaderDeletesLinksPinLaw" = some m.cls := findClass_of_methodNamed Bd.named
    have hnm := (name_of_methodNamed Bd.named Bd.method).1
    have X0 : Stand p l e ({ frames := 0, cells := 0, slots := 0, locals := 0 } : Room) s m #[(.int p1)] below meth c s₁ [] 0 0 := Stand.of_body Bd
    have e0 : s₁.heap = h0 := by rw [← hh, Bd.state]; rfl
    have N0 := Fr.nil n0
    have pre0 : ∀ t, Steps p.tables e below (s₁.setTop (mkF m 0 #[.val (.int p1)] [])) t → Steps p.tables e below (s₁.setTop (entryFrame m #[(.int p1)] 1)) t := fun t k => castTop (ef_4 m p1) k
    obtain ⟨fs, hr, hrun, hended, hW, hsame⟩ := X0.leave (v := some (.int (0 : Int32))) (fun h => by rw [Bd.returns] at h; cases h)
    refine ⟨_, _, pre0 _ ?_, hrun, hended, _, _, rfl, ?_, ⟨_, rfl⟩, hW, hsame.mono (by decide) (by decide)⟩
    · show Steps p.tables e below (s₁.setTop (mkF m 0 #[.val (.int p1)] [])) _
      refine XS.iloadN X0.here hx rfl (hb hby d4_0) rfl ?_
      show Steps p.tables e below (s₁.setTop (mkF m 1 #[.val (.int p1)] [(.int p1)])) _
      refine XS.iconst X0.here hx rfl (hb hby d4_1) ?_
      show Steps p.tables e below (s₁.setTop (mkF m 2 #[.val (.int p1)] [(.int (1 : Int32)), (.int p1)])) _
      refine XS.icmpYes X0.here hx rfl (pc0 := 2) (pc' := 7) rfl (hb hby d4_2) rfl (feq hc2).2 (by decide) (by decide) ?_
      show Steps p.tables e below (s₁.setTop (mkF m 7 #[.val (.int p1)] [])) _
      refine XS.iloadN X0.here hx rfl (hb hby d4_7) rfl ?_
      show Steps p.tables e below (s₁.setTop (mkF m 8 #[.val (.int p1)] [(.int p1)])) _
      refine XS.iconst X0.here hx rfl (hb hby d4_8) ?_
      show Steps p.tables e below (s₁.setTop (mkF m 9 #[.val (.int p1)] [(.int (2 : Int32)), (.int p1)])) _
      refine XS.icmpYes X0.here hx rfl (pc0 := 9) (pc' := 14) rfl (hb hby d4_9) rfl (feq hc9).2 (by decide) (by decide) ?_
      show Steps p.tables e below (s₁.setTop (mkF m 14 #[.val (.int p1)] [])) _
      refine XS.iloadN X0.here hx rfl (hb hby d4_14) rfl ?_
      show Steps p.tables e below (s₁.setTop (mkF m 15 #[.val (.int p1)] [(.int p1)])) _
      refine XS.iconst X0.here hx rfl (hb hby d4_15) ?_
      show Steps p.tables e below (s₁.setTop (mkF m 16 #[.val (.int p1)] [(.int (3 : Int32)), (.int p1)])) _
      refine XS.icmpNo X0.here hx rfl (hb hby d4_16) rfl (teq hc16).2 ?_
      show Steps p.tables e below (s₁.setTop (mkF m 19 #[.val (.int p1)] [])) _
      refine XS.iconst X0.here hx rfl (hb hby d4_19) ?_
      show Steps p.tables e below (s₁.setTop (mkF m 20 #[.val (.int p1)] [(.int (0 : Int32))])) _
      exact retN X0 hx (t := .boolean) Bd.returns (by simp) (hb hby d4_20) hr
    · show Q4 Z p1 _ h0 n0 _ s₁.heap _
      rw [e0]
      exact ⟨rfl, N0, rfl⟩
  · obtain rfl : r = 1 := by rw [hr0, if_neg hc2, if_neg hc9, if_neg hc16]
    refine MetFree.of_bodySF (plainFor_of_name pn_4) hisR ?_
    intro p e s m args below meth c s₁ Bd hml0 hP hK
    obtain ⟨rfl, hZ, hh⟩ := hP
    have hx := Bd.exec
    have hby := Bd.bytes
    have hml : c.maxLocals = 1 := hml0
    have hown : s.vm.findClass "com/example/plainwire/plainwire/store/RecordReaderDeletesLinksPinLaw" = some m.cls := findClass_of_methodNamed Bd.named
    have hnm := (name_of_methodNamed Bd.named Bd.method).1
    have X0 : Stand p l e ({ frames := 0, cells := 0, slots := 0, locals := 0 } : Room) s m #[(.int p1)] below meth c s₁ [] 0 0 := Stand.of_body Bd
    have e0 : s₁.heap = h0 := by rw [← hh, Bd.state]; rfl
    have N0 := Fr.nil n0
    have pre0 : ∀ t, Steps p.tables e below (s₁.setTop (mkF m 0 #[.val (.int p1)] [])) t → Steps p.tables e below (s₁.setTop (entryFrame m #[(.int p1)] 1)) t := fun t k => castTop (ef_4 m p1) k
    obtain ⟨fs, hr, hrun, hended, hW, hsame⟩ := X0.leave (v := some (.int (1 : Int32))) (fun h => by rw [Bd.returns] at h; cases h)
    refine ⟨_, _, pre0 _ ?_, hrun, hended, _, _, rfl, ?_, ⟨_, rfl⟩, hW, hsame.mono (by decide) (by decide)⟩
    · show Steps p.tables e below (s₁.setTop (mkF m 0 #[.val (.int p1)] [])) _
      refine XS.iloadN X0.here hx rfl (hb hby d4_0) rfl ?_
      show Steps p.tables e below (s₁.setTop (mkF m 1 #[.val (.int p1)] [(.int p1)])) _
      refine XS.iconst X0.here hx rfl (hb hby d4_1) ?_
      show Steps p.tables e below (s₁.setTop (mkF m 2 #[.val (.int p1)] [(.int (1 : Int32)), (.int p1)])) _
      refine XS.icmpYes X0.here hx rfl (pc0 := 2) (pc' := 7) rfl (hb hby d4_2) rfl (feq hc2).2 (by decide) (by decide) ?_
      show Steps p.tables e below (s₁.setTop (mkF m 7 #[.val (.int p1)] [])) _
      refine XS.iloadN X0.here hx rfl (hb hby d4_7) rfl ?_
      show Steps p.tables e below (s₁.setTop (mkF m 8 #[.val (.int p1)] [(.int p1)])) _
      refine XS.iconst X0.here hx rfl (hb hby d4_8) ?_
      show Steps p.tables e below (s₁.setTop (mkF m 9 #[.val (.int p1)] [(.int (2 : Int32)), (.int p1)])) _
      refine XS.icmpYes X0.here hx rfl (pc0 := 9) (pc' := 14) rfl (hb hby d4_9) rfl (feq hc9).2 (by decide) (by decide) ?_
      show Steps p.tables e below (s₁.setTop (mkF m 14 #[.val (.int p1)] [])) _
      refine XS.iloadN X0.here hx rfl (hb hby d4_14) rfl ?_
      show Steps p.tables e below (s₁.setTop (mkF m 15 #[.val (.int p1)] [(.int p1)])) _
      refine XS.iconst X0.here hx rfl (hb hby d4_15) ?_
      show Steps p.tables e below (s₁.setTop (mkF m 16 #[.val (.int p1)] [(.int (3 : Int32)), (.int p1)])) _
      refine XS.icmpYes X0.here hx rfl (pc0 := 16) (pc' := 21) rfl (hb hby d4_16) rfl (feq hc16).2 (by decide) (by decide) ?_
      show Steps p.tables e below (s₁.setTop (mkF m 21 #[.val (.int p1)] [])) _
      refine XS.iconst X0.here hx rfl (hb hby d4_21) ?_
      show Steps p.tables e below (s₁.setTop (mkF m 22 #[.val (.int p1)] [(.int (1 : Int32))])) _
      exact retN X0 hx (t := .boolean) Bd.returns (by simp) (hb hby d4_22) hr
    · show Q4 Z p1 _ h0 n0 _ s₁.heap _
      rw [e0]
      exact ⟨rfl, N0, rfl⟩
theorem own_agree {f : Int32} (h : 1 ≤ f.toInt) : (if f < (4 : Int32) then (0 : Int32) else 1) = if f = (1 : Int32) then 0 else if f = (2 : Int32) then 0 else if f = (3 : Int32) then 0 else 1 := by
  have e4 : (4 : Int32).toInt = 4 := rfl
  have e1 : (1 : Int32).toInt = 1 := rfl
  have e2 : (2 : Int32).toInt = 2 := rfl
  have e3 : (3 : Int32).toInt = 3 := rfl
  simp only [Int32.lt_iff_toInt_lt, ← Int32.toInt_inj, e1, e2, e3, e4]
  split <;> split <;> (try split) <;> (try split) <;> first | rfl | omega
theorem own_fm1 (x : Int32) : 1 ≤ ((x &&& (7 : Int32)) + (1 : Int32)).toInt := by
  have a := c_mask x 7 3 (by decide) (by decide)
  have b := c_iadd (x &&& 7) 1
  have r := rng32 ((x &&& 7) + 1)
  have e1 : (1 : Int32).toInt = 1 := rfl
  omega
theorem own_fm2 (x : Int32) : 1 ≤ ((x &&& (1073741823 : Int32)) + (1 : Int32)).toInt := by
  have a := c_mask x 1073741823 30 (by decide) (by decide)
  have b := c_iadd (x &&& 1073741823) 1
  have r := rng32 ((x &&& 1073741823) + 1)
  have e1 : (1 : Int32).toInt = 1 := rfl
  omega
theorem pn_0 : plainName "com/example/plainwire/plainwire/store/RecordReaderDeletesLinksPinLaw" = true := by first | (simp [plainName, overriddenIn]; done) | decide +kernel
theorem pd_0_0 : parseMethodDescriptor "([BI)V" = some ⟨[(.array .byte), .int], none⟩ := by decide +kernel
theorem pd_0_2 : parseMethodDescriptor "()Z" = some ⟨[], some .boolean⟩ := by decide +kernel
theorem pd_0_3 : parseMethodDescriptor "(I)Z" = some ⟨[.int], some .boolean⟩ := by decide +kernel
theorem ef_0 (m : MethodId) (x0 : Int32) (x1 : Int32) : entryFrame m #[(.int x0), (.int x1)] maxLocals = mkF m 0 #[.val (.int x0), .val (.int x1), .unset, .unset, .unset, .unset, .unset] [] := by first | (simp [entryFrame, mkF, argsToLocals, Value.category, maxLocals]; done) | rfl
def Q0 (Z : State) (p1 : Int32) (p2 : Int32) (h0 : Heap) (n0 : Nat) (v : Option Value) (h : Heap) (L : List Loc) : Prop := v = some (.int (1 : Int32)) ∧ Fr n0 L
set_option maxRecDepth 65536 in
set_option maxHeartbeats 40000000 in
theorem rm0 (l : Launch) (Z : State) (a0 : Array Value) (hw : ∀ d ∈ tables_1, d.before a0 Z = true) (ws : List Jvm.Cond) (p1 : Int32) (p2 : Int32) (h0 : Heap) (n0 : Nat) (Z0 : n0 ≤ h0.size) :
    MetFree l x (head1 (Jvm.Cond.code x code maxLocals ret :: ws) room_1) (fun a U => a = #[(.int p1), (.int p2)] ∧ Z.Warmed39 U.vm ∧ U.heap = h0) (fun _ _ _ _ _ => True) (fun _ U o U' => ∃ v L, o = .returned v ∧ Q0 Z p1 p2 h0 n0 v U'.heap L ∧ FrameEnd U o U' L room_1.cells room_1.slots) := by
  by_cases hc11 : (p1 &&& (1073741824 : Int32)) = (0 : Int32)
  · obtain ⟨r3, hr3⟩ : ∃ z : Int32, z = if ((p1 &&& (1073741823 : Int32)) + (1 : Int32)) < (4 : Int32) then 0 else 1 := ⟨_, rfl⟩
    obtain ⟨r4, hr4⟩ : ∃ z : Int32, z = if ((p1 &&& (1073741823 : Int32)) + (1 : Int32)) = (1 : Int32) then 0 else if ((p1 &&& (1073741823 : Int32)) + (1 : Int32)) = (2 : Int32) then 0 else if ((p1 &&& (1073741823 : Int32)) + (1 : Int32)) = (3 : Int32) then 0 else 1 := ⟨_, rfl⟩
    have h34 : r3 = r4 := by rw [hr3, hr4]; exact own_agree (own_fm2 p1)
    refine MetFree.of_bodySF (plainFor_of_name pn_0) hisR ?_
    intro p e s m args below meth c s₁ Bd hml0 hP hK
    obtain ⟨rfl, hZ, hh⟩ := hP
    have hx := Bd.exec
    have hby := Bd.bytes
    have hml : c.maxLocals = 7 := hml0
    have hown : s.vm.findClass "com/example/plainwire/plainwire/store/RecordReaderDeletesLinksPinLaw" = some m.cls := findClass_of_methodNamed Bd.named
    have hnm := (name_of_methodNamed Bd.named Bd.method).1
    have X0 : Stand p l e room_1 s m #[(.int p1), (.int p2)] below meth c s₁ [] 0 0 := Stand.of_body Bd
    have e0 : s₁.heap = h0 := by rw [← hh, Bd.state]; rfl
    have N0 := Fr.nil n0
    have pre0 : ∀ t, Steps p.tables e below (s₁.setTop (mkF m 0 #[.val (.int p1), .val (.int p2), .unset, .unset, .unset, .unset, .unset] [])) t → Steps p.tables e below (s₁.setTop (entryFrame m #[(.int p1), (.int p2)] maxLocals)) t := fun t k => castTop (ef_0 m p1 p2) k
    obtain ⟨T3, h3, k3, X3, e3, E3, A3, st3⟩ := newP X0 hx hZ (hw _ (List.mem_of_getElem? (i := 2) rfl)) e0 (g := (mkF m 22 #[.val (.int p1), .val (.int p2), .val (.int ((p1 &&& (1073741823 : Int32)) + (1 : Int32))), .unset, .unset, .unset, .unset] [(.int (2 : Int32))])) rfl (hb hby at_22) rfl (by decide) (cap := 2) (by decide) (by decide) (by decide) (by decide)
    obtain ⟨b3, g3⟩ : ∃ z, z = h0.size := ⟨_, rfl⟩
    rw [← g3] at A3 st3
    have V_b3 : Arv Z h3 b3 k3 .byte (2 : Int32) [(.int (0 : Int32)), (.int (0 : Int32))] (.int (0 : Int32)) := (Arv.new A3 (by decide)).pad (pad_rep [] (.int (0 : Int32)) 2)
    have g_b3 : n0 ≤ b3 := Nat.le_trans Z0 (Nat.le_of_eq g3.symm)
    have sz_b3 : h0.size ≤ b3 := (Nat.le_trans (Keep.refl h0 []).1 (Nat.le_of_eq g3.symm))
    have K3 : Keep h0 h3 [] := (Keep.refl h0 []).ext E3
    obtain ⟨cl_b3_28, Ar_b3, q_b3, S_b3, N_b3, H_b3, G_b3⟩ := V_b3
    have hin28 : ¬ ((0 : Int32) < 0 ∨ cl_b3_28.slots.size ≤ ((0 : Int32)).toNatClampNeg) := inb_of S_b3 ⟨by decide, by decide⟩
    obtain ⟨T4, h4, X4, e4, W4, st4⟩ := stB X3 hx hZ e3 Ar_b3 (j := (0 : Int32)) hin28 (g := (mkF m 28 #[.val (.int p1), .val (.int p2), .val (.int ((p1 &&& (1073741823 : Int32)) + (1 : Int32))), .unset, .unset, .unset, .unset] [(.int (p2.toInt8.toInt32)), (.int (0 : Int32)), (.ref b3), (.ref b3)])) rfl rfl (hb hby at_28)
    have V_b3_4 := Arv.set Ar_b3 q_b3 S_b3 N_b3 H_b3 G_b3 (fits_nar_byte _) W4 0 rfl (Nat.le_of_ble_eq_true rfl)
    have K4 : Keep h0 h4 [] := K3.wr W4 (Or.inr sz_b3)
    have N4 := Fr.snoc X4 N0 g_b3
    obtain ⟨cl_b3_36, Ar_b3, q_b3, S_b3, N_b3, H_b3, G_b3⟩ := V_b3_4
    have hin36 : ¬ ((1 : Int32) < 0 ∨ cl_b3_36.slots.size ≤ ((1 : Int32)).toNatClampNeg) := inb_of S_b3 ⟨by decide, by decide⟩
    obtain ⟨T5, h5, X5, e5, W5, st5⟩ := stB X4 hx hZ e4 Ar_b3 (j := (1 : Int32)) hin36 (g := (mkF m 36 #[.val (.int p1), .val (.int p2), .val (.int ((p1 &&& (1073741823 : Int32)) + (1 : Int32))), .unset, .unset, .unset, .unset] [(.int ((p2 >>> ((8 : Int32) &&& 31)).toInt8.toInt32)), (.int (1 : Int32)), (.ref b3), (.ref b3)])) rfl rfl (hb hby at_36)
    have V_b3_5 := Arv.set Ar_b3 q_b3 S_b3 N_b3 H_b3 G_b3 (fits_nar_byte _) W5 1 rfl (Nat.le_of_ble_eq_true rfl)
    have K5 : Keep h0 h5 [] := K4.wr W5 (Or.inr sz_b3)
    have N5 := Fr.snoc X5 N4 g_b3
    obtain ⟨T6, h6, X6, e6, E6, A6, D6, -, st6⟩ := newO X5 hx hZ hown (hw _ (List.mem_of_getElem? (i := 3) rfl)) (hw _ (List.mem_of_getElem? (i := 4) rfl)) (hw _ (List.mem_of_getElem? (i := 5) rfl)) e5 (g := (mkF m 38 #[.val (.int p1), .val (.int p2), .val (.int ((p1 &&& (1073741823 : Int32)) + (1 : Int32))), .val (.ref b3), .unset, .unset, .unset] [])) rfl (hb hby at_38) (by decide) (by decide)
    obtain ⟨b6, g6⟩ : ∃ z, z = h5.size := ⟨_, rfl⟩
    rw [← g6] at A6 D6 st6
    have F_record_b6 : Fld Z h6 b6 "com/example/plainwire/plainwire/store/RecordReader" "record" "[B" .null := D6 (Or.inr (hw _ (List.mem_of_getElem? (i := 13) rfl))) (ty := (.array .byte)) (by decide)
    have F_format_b6 : Fld Z h6 b6 "com/example/plainwire/plainwire/store/RecordReader" "format" "I" (.int (0 : Int32)) := D6 (Or.inr (hw _ (List.mem_of_getElem? (i := 15) rfl))) (ty := .int) (by decide)
    have E_b6 := A6
    have g_b6 : n0 ≤ b6 := Nat.le_trans (Nat.le_trans (Nat.le_trans (Nat.le_trans Z0 E3.1) (Keep.of_wr W4).1) (Keep.of_wr W5).1) (Nat.le_of_eq g6.symm)
    have sz_b6 : h0.size ≤ b6 := (Nat.le_trans K5.1 (Nat.le_of_eq g6.symm))
    have K6 : Keep h0 h6 [] := K5.ext E6
    obtain ⟨_, _, ⟨T7, L7, k7, n7⟩, -, X7, ⟨Lc7, hQ7, l7, y7, z7⟩, st7⟩ := X6.specialBack hx (y := (⟨"com/example/plainwire/plainwire/store/RecordReader", "<init>", "([BI)V"⟩ : MethodName)) rfl hown (mvT hZ (hw _ (List.mem_of_getElem? (i := 6) rfl))) (mvT hZ (hw _ (List.mem_of_getElem? (i := 7) rfl))) (mvT hZ (hw _ (List.mem_of_getElem? (i := 8) rfl))) (by decide) (backOf (W := 1) (rm1 l Z a0 hw [] b6 b3 ((p1 &&& (1073741823 : Int32)) + (1 : Int32)) .null (.int (0 : Int32)) h6 n0 (Nat.le_trans Z0 K6.1) E_b6 F_record_b6 g_b6 F_format_b6) hZ (hw _ (List.mem_of_getElem? (i := 8) rfl)) (hw _ (List.mem_of_getElem? (i := 5) rfl)) (by decide) (by decide)) (g := (mkF m 44 #[.val (.int p1), .val (.int p2), .val (.int ((p1 &&& (1073741823 : Int32)) + (1 : Int32))), .val (.ref b3), .unset, .unset, .unset] [(.int ((p1 &&& (1073741823 : Int32)) + (1 : Int32))), (.ref b3), (.ref b6), (.ref b6)])) rfl (by rw [hml]; rfl) (Steps.refl _) (a := b6) (argsL := [(.ref b3), (.int ((p1 &&& (1073741823 : Int32)) + (1 : Int32)))]) (rest := [(.ref b6)]) (lenOf pd_0_0 rfl) rfl (by show 2 * 0 + _ ≤ _; exact Nat.le_of_eq rfl) (hb hby at_44) (fun _ _ => ⟨rfl, e6, (by decide : 2 + 0 ≤ _), (by decide : 5 + 0 ≤ _)⟩)
    dsimp only [Pt.U, Pt.locs, Pt.cells, Pt.slots] at X7 l7 y7 z7 st7 hQ7
    subst l7 y7 z7
    obtain ⟨rfl, N7q, K7c, Ex7, Fr7, Ff7⟩ := hQ7
    have N7 := Fr.app N5 N7q
    obtain ⟨cq8, kq8, q8a, q8b, q8c⟩ := isOf hZ rfl Ex7
    obtain ⟨_, _, ⟨T8, L8, k8, n8⟩, -, X8, ⟨Lc8, hQ8, l8, y8, z8⟩, st8⟩ := X7.virtualBack hx (y := (⟨"com/example/plainwire/plainwire/store/RecordReader", "deletesLinks", "()Z"⟩ : MethodName)) (z := (⟨"com/example/plainwire/plainwire/store/RecordReader", "deletesLinks", "()Z"⟩ : MethodName)) hown (mvT hZ (hw _ (List.mem_of_getElem? (i := 16) rfl))) (mvT hZ (hw _ (List.mem_of_getElem? (i := 17) rfl))) (notFace_of_selects (args := #[]) (mvT hZ (hw _ (List.mem_of_getElem? (i := 19) rfl)))) (mvT hZ (hw _ (List.mem_of_getElem? (i := 19) rfl))) (mvT hZ (hw _ (List.mem_of_getElem? (i := 18) rfl))) (by decide) (backOf (W := 0) (rm3 l Z a0 hw [] b6 ((p1 &&& (1073741823 : Int32)) + (1 : Int32)) r3 T7.heap n0 (Nat.le_trans (Nat.le_trans Z0 K6.1) K7c.1) Ff7 hr3) hZ (hw _ (List.mem_of_getElem? (i := 20) rfl)) (hw _ (List.mem_of_getElem? (i := 5) rfl)) (by decide) (by decide)) q8a q8c (g := (mkF m 51 #[.val (.int p1), .val (.int p2), .val (.int ((p1 &&& (1073741823 : Int32)) + (1 : Int32))), .val (.ref b3), .val (.ref b6), .unset, .unset] [(.ref b6)])) rfl (by rw [hml]; rfl) (Steps.refl _) (argsL := []) (rest := []) (lenOf pd_0_2 rfl) rfl (by show 2 * 0 + _ ≤ _; exact Nat.le_of_eq rfl) (hb hby at_51) (fun _ _ => ⟨rfl, rfl, (by decide : 2 + 0 ≤ _), (by decide : 5 + 0 ≤ _)⟩)
    dsimp only [Pt.U, Pt.locs, Pt.cells, Pt.slots] at X8 l8 y8 z8 st8 hQ8
    subst l8 y8 z8
    obtain ⟨rfl, N8q, e8⟩ := hQ8
    have N8 := Fr.app N7 N8q
    obtain ⟨cq9, kq9, q9a, q9b, q9c⟩ := isOf hZ rfl (by rw [e8]; exact Ex7 : Exa Z T8.heap b6 "com/example/plainwire/plainwire/store/RecordReader")
    obtain ⟨_, _, ⟨T9, L9, k9, n9⟩, -, X9, ⟨Lc9, hQ9, l9, y9, z9⟩, st9⟩ := X8.virtualBack hx (y := (⟨"com/example/plainwire/plainwire/store/RecordReader", "deletesLinks", "()Z"⟩ : MethodName)) (z := (⟨"com/example/plainwire/plainwire/store/RecordReader", "deletesLinks", "()Z"⟩ : MethodName)) hown (mvT hZ (hw _ (List.mem_of_getElem? (i := 16) rfl))) (mvT hZ (hw _ (List.mem_of_getElem? (i := 17) rfl))) (notFace_of_selects (args := #[]) (mvT hZ (hw _ (List.mem_of_getElem? (i := 19) rfl)))) (mvT hZ (hw _ (List.mem_of_getElem? (i := 19) rfl))) (mvT hZ (hw _ (List.mem_of_getElem? (i := 18) rfl))) (by decide) (backOf (W := 0) (rm3 l Z a0 hw [] b6 ((p1 &&& (1073741823 : Int32)) + (1 : Int32)) r3 T8.heap n0 (by rw [e8]; exact (Nat.le_trans (Nat.le_trans Z0 K6.1) K7c.1)) (by rw [e8]; exact Ff7) hr3) hZ (hw _ (List.mem_of_getElem? (i := 20) rfl)) (hw _ (List.mem_of_getElem? (i := 5) rfl)) (by decide) (by decide)) q9a q9c (g := (mkF m 58 #[.val (.int p1), .val (.int p2), .val (.int ((p1 &&& (1073741823 : Int32)) + (1 : Int32))), .val (.ref b3), .val (.ref b6), .val (.int r3), .unset] [(.ref b6)])) rfl (by rw [hml]; rfl) (Steps.refl _) (argsL := []) (rest := []) (lenOf pd_0_2 rfl) rfl (by show 2 * 0 + _ ≤ _; exact Nat.le_of_eq rfl) (hb hby at_58) (fun _ _ => ⟨rfl, rfl, (by decide : 2 + 0 ≤ _), (by decide : 5 + 0 ≤ _)⟩)
    dsimp only [Pt.U, Pt.locs, Pt.cells, Pt.slots] at X9 l9 y9 z9 st9 hQ9
    subst l9 y9 z9
    obtain ⟨rfl, N9q, e9⟩ := hQ9
    have N9 := Fr.app N8 N9q
    obtain ⟨_, _, ⟨T10, L10, k10, n10⟩, -, X10, ⟨Lc10, hQ10, l10, y10, z10⟩, st10⟩ := Jvm.LawKit.callS X9 hx (y := (⟨"com/example/plainwire/plainwire/store/RecordReaderDeletesLinksPinLaw", "expected", "(I)Z"⟩ : MethodName)) hown (mvT hZ (hw _ (List.mem_of_getElem? (i := 21) rfl))) (mvT hZ (hw _ (List.mem_of_getElem? (i := 22) rfl))) (mvT hZ (hw _ (List.mem_of_getElem? (i := 23) rfl))) (mvT hZ (hw _ (List.mem_of_getElem? (i := 24) rfl))) (by decide) (backOf (W := 1) (rm4 l Z a0 hw [] ((p1 &&& (1073741823 : Int32)) + (1 : Int32)) r4 T9.heap n0 (by rw [e9, e8]; exact (Nat.le_trans (Nat.le_trans Z0 K6.1) K7c.1)) hr4) hZ (hw _ (List.mem_of_getElem? (i := 24) rfl)) (hw _ (List.mem_of_getElem? (i := 23) rfl)) (by decide) (by decide)) (g := (mkF m 66 #[.val (.int p1), .val (.int p2), .val (.int ((p1 &&& (1073741823 : Int32)) + (1 : Int32))), .val (.ref b3), .val (.ref b6), .val (.int r3), .val (.int r3)] [(.int ((p1 &&& (1073741823 : Int32)) + (1 : Int32))), (.int r3)])) rfl (by rw [hml]; rfl) (argsL := [(.int ((p1 &&& (1073741823 : Int32)) + (1 : Int32)))]) (rest := [(.int r3)]) (lenOf pd_0_3 rfl) rfl (by show 2 * 0 + _ ≤ _; exact Nat.le_of_eq rfl) (hb hby at_66) (fun _ _ => ⟨rfl, rfl, (by decide : 2 + 0 ≤ _), (by decide : 5 + 0 ≤ _)⟩)
    dsimp only [Pt.U, Pt.locs, Pt.cells, Pt.slots] at X10 l10 y10 z10 st10 hQ10
    subst l10 y10 z10
    obtain ⟨rfl, N10q, e10⟩ := hQ10
    have N10 := Fr.app N9 N10q
    obtain ⟨fs, hr, hrun, hended, hW, hsame⟩ := X10.leave (v := some (.int (1 : Int32))) (fun h => by rw [Bd.returns] at h; cases h)
    refine ⟨_, _, pre0 _ ?_, hrun, hended, _, _, rfl, ?_, ⟨_, rfl⟩, hW, hsame.mono (by decide) (by decide)⟩
    · show Steps p.tables e below (s₁.setTop (mkF m 0 #[.val (.int p1), .val (.int p2), .unset, .unset, .unset, .unset, .unset] [])) _
      refine XS.iloadN X0.here hx rfl (hb hby at_0) rfl ?_
      show Steps p.tables e below (s₁.setTop (mkF m 1 #[.val (.int p1), .val (.int p2), .unset, .unset, .unset, .unset, .unset] [(.int p1)])) _
      refine X0.ldcInt hx hown (mvT hZ (hw _ (List.mem_of_getElem? (i := 0) rfl))) (g := (mkF m 1 #[.val (.int p1), .val (.int p2), .unset, .unset, .unset, .unset, .unset] [(.int p1)])) rfl (hb hby at_1) _ ?_
      show Steps p.tables e below (s₁.setTop (mkF m 3 #[.val (.int p1), .val (.int p2), .unset, .unset, .unset, .unset, .unset] [(.int (1073741823 : Int32)), (.int p1)])) _
      refine XS.iand X0.here hx rfl (hb hby at_3) rfl ?_
      show Steps p.tables e below (s₁.setTop (mkF m 4 #[.val (.int p1), .val (.int p2), .unset, .unset, .unset, .unset, .unset] [(.int (p1 &&& (1073741823 : Int32)))])) _
      refine XS.iconst X0.here hx rfl (hb hby at_4) ?_
      show Steps p.tables e below (s₁.setTop (mkF m 5 #[.val (.int p1), .val (.int p2), .unset, .unset, .unset, .unset, .unset] [(.int (1 : Int32)), (.int (p1 &&& (1073741823 : Int32)))])) _
      refine XS.iadd X0.here hx rfl (hb hby at_5) rfl ?_
      show Steps p.tables e below (s₁.setTop (mkF m 6 #[.val (.int p1), .val (.int p2), .unset, .unset, .unset, .unset, .unset] [(.int ((p1 &&& (1073741823 : Int32)) + (1 : Int32)))])) _
      refine XS.istoreN X0.here hx rfl (hb hby at_6) rfl (l' := #[.val (.int p1), .val (.int p2), .val (.int ((p1 &&& (1073741823 : Int32)) + (1 : Int32))), .unset, .unset, .unset, .unset]) rfl ?_
      show Steps p.tables e below (s₁.setTop (mkF m 7 #[.val (.int p1), .val (.int p2), .val (.int ((p1 &&& (1073741823 : Int32)) + (1 : Int32))), .unset, .unset, .unset, .unset] [])) _
      refine XS.iloadN X0.here hx rfl (hb hby at_7) rfl ?_
      show Steps p.tables e below (s₁.setTop (mkF m 8 #[.val (.int p1), .val (.int p2), .val (.int ((p1 &&& (1073741823 : Int32)) + (1 : Int32))), .unset, .unset, .unset, .unset] [(.int p1)])) _
      refine X0.ldcInt hx hown (mvT hZ (hw _ (List.mem_of_getElem? (i := 1) rfl))) (g := (mkF m 8 #[.val (.int p1), .val (.int p2), .val (.int ((p1 &&& (1073741823 : Int32)) + (1 : Int32))), .unset, .unset, .unset, .unset] [(.int p1)])) rfl (hb hby at_8) _ ?_
      show Steps p.tables e below (s₁.setTop (mkF m 10 #[.val (.int p1), .val (.int p2), .val (.int ((p1 &&& (1073741823 : Int32)) + (1 : Int32))), .unset, .unset, .unset, .unset] [(.int (1073741824 : Int32)), (.int p1)])) _
      refine XS.iand X0.here hx rfl (hb hby at_10) rfl ?_
      show Steps p.tables e below (s₁.setTop (mkF m 11 #[.val (.int p1), .val (.int p2), .val (.int ((p1 &&& (1073741823 : Int32)) + (1 : Int32))), .unset, .unset, .unset, .unset] [(.int (p1 &&& (1073741824 : Int32)))])) _
      refine XS.ifYes X0.here hx rfl (pc0 := 11) (pc' := 21) rfl (hb hby at_11) rfl ((if0 _ _).trans (teq hc11).1) (by decide) (by decide) ?_
      show Steps p.tables e below (s₁.setTop (mkF m 21 #[.val (.int p1), .val (.int p2), .val (.int ((p1 &&& (1073741823 : Int32)) + (1 : Int32))), .unset, .unset, .unset, .unset] [])) _
      refine XS.iconst X0.here hx rfl (hb hby at_21) ?_
      show Steps p.tables e below (s₁.setTop (mkF m 22 #[.val (.int p1), .val (.int p2), .val (.int ((p1 &&& (1073741823 : Int32)) + (1 : Int32))), .unset, .unset, .unset, .unset] [(.int (2 : Int32))])) _
      refine st3 _ ?_
      show Steps p.tables e below (T3.setTop (mkF m 24 #[.val (.int p1), .val (.int p2), .val (.int ((p1 &&& (1073741823 : Int32)) + (1 : Int32))), .unset, .unset, .unset, .unset] [(.ref b3)])) _
      refine XS.dup X3.here hx rfl (hb hby at_24) rfl rfl ?_
      show Steps p.tables e below (T3.setTop (mkF m 25 #[.val (.int p1), .val (.int p2), .val (.int ((p1 &&& (1073741823 : Int32)) + (1 : Int32))), .unset, .unset, .unset, .unset] [(.ref b3), (.ref b3)])) _
      refine XS.iconst X3.here hx rfl (hb hby at_25) ?_
      show Steps p.tables e below (T3.setTop (mkF m 26 #[.val (.int p1), .val (.int p2), .val (.int ((p1 &&& (1073741823 : Int32)) + (1 : Int32))), .unset, .unset, .unset, .unset] [(.int (0 : Int32)), (.ref b3), (.ref b3)])) _
      refine XS.iloadN X3.here hx rfl (hb hby at_26) rfl ?_
      show Steps p.tables e below (T3.setTop (mkF m 27 #[.val (.int p1), .val (.int p2), .val (.int ((p1 &&& (1073741823 : Int32)) + (1 : Int32))), .unset, .unset, .unset, .unset] [(.int p2), (.int (0 : Int32)), (.ref b3), (.ref b3)])) _
      refine XS.i2b X3.here hx rfl (hb hby at_27) rfl ?_
      show Steps p.tables e below (T3.setTop (mkF m 28 #[.val (.int p1), .val (.int p2), .val (.int ((p1 &&& (1073741823 : Int32)) + (1 : Int32))), .unset, .unset, .unset, .unset] [(.int (p2.toInt8.toInt32)), (.int (0 : Int32)), (.ref b3), (.ref b3)])) _
      refine st4 _ ?_
      show Steps p.tables e below (T4.setTop (mkF m 29 #[.val (.int p1), .val (.int p2), .val (.int ((p1 &&& (1073741823 : Int32)) + (1 : Int32))), .unset, .unset, .unset, .unset] [(.ref b3)])) _
      refine XS.dup X4.here hx rfl (hb hby at_29) rfl rfl ?_
      show Steps p.tables e below (T4.setTop (mkF m 30 #[.val (.int p1), .val (.int p2), .val (.int ((p1 &&& (1073741823 : Int32)) + (1 : Int32))), .unset, .unset, .unset, .unset] [(.ref b3), (.ref b3)])) _
      refine XS.iconst X4.here hx rfl (hb hby at_30) ?_
      show Steps p.tables e below (T4.setTop (mkF m 31 #[.val (.int p1), .val (.int p2), .val (.int ((p1 &&& (1073741823 : Int32)) + (1 : Int32))), .unset, .unset, .unset, .unset] [(.int (1 : Int32)), (.ref b3), (.ref b3)])) _
      refine XS.iloadN X4.here hx rfl (hb hby at_31) rfl ?_
      show Steps p.tables e below (T4.setTop (mkF m 32 #[.val (.int p1), .val (.int p2), .val (.int ((p1 &&& (1073741823 : Int32)) + (1 : Int32))), .unset, .unset, .unset, .unset] [(.int p2), (.int (1 : Int32)), (.ref b3), (.ref b3)])) _
      refine XS.bipush X4.here hx rfl (hb hby at_32) ?_
      show Steps p.tables e below (T4.setTop (mkF m 34 #[.val (.int p1), .val (.int p2), .val (.int ((p1 &&& (1073741823 : Int32)) + (1 : Int32))), .unset, .unset, .unset, .unset] [(.int (8 : Int32)), (.int p2), (.int (1 : Int32)), (.ref b3), (.ref b3)])) _
      refine XS.ishr X4.here hx rfl (hb hby at_34) rfl ?_
      show Steps p.tables e below (T4.setTop (mkF m 35 #[.val (.int p1), .val (.int p2), .val (.int ((p1 &&& (1073741823 : Int32)) + (1 : Int32))), .unset, .unset, .unset, .unset] [(.int (p2 >>> ((8 : Int32) &&& 31))), (.int (1 : Int32)), (.ref b3), (.ref b3)])) _
      refine XS.i2b X4.here hx rfl (hb hby at_35) rfl ?_
      show Steps p.tables e below (T4.setTop (mkF m 36 #[.val (.int p1), .val (.int p2), .val (.int ((p1 &&& (1073741823 : Int32)) + (1 : Int32))), .unset, .unset, .unset, .unset] [(.int ((p2 >>> ((8 : Int32) &&& 31)).toInt8.toInt32)), (.int (1 : Int32)), (.ref b3), (.ref b3)])) _
      refine st5 _ ?_
      show Steps p.tables e below (T5.setTop (mkF m 37 #[.val (.int p1), .val (.int p2), .val (.int ((p1 &&& (1073741823 : Int32)) + (1 : Int32))), .unset, .unset, .unset, .unset] [(.ref b3)])) _
      refine XS.astoreN X5.here hx rfl (hb hby at_37) rfl rfl (l' := #[.val (.int p1), .val (.int p2), .val (.int ((p1 &&& (1073741823 : Int32)) + (1 : Int32))), .val (.ref b3), .unset, .unset, .unset]) rfl ?_
      show Steps p.tables e below (T5.setTop (mkF m 38 #[.val (.int p1), .val (.int p2), .val (.int ((p1 &&& (1073741823 : Int32)) + (1 : Int32))), .val (.ref b3), .unset, .unset, .unset] [])) _
      refine st6 _ ?_
      show Steps p.tables e below (T6.setTop (mkF m 41 #[.val (.int p1), .val (.int p2), .val (.int ((p1 &&& (1073741823 : Int32)) + (1 : Int32))), .val (.ref b3), .unset, .unset, .unset] [(.ref b6)])) _
      refine XS.dup X6.here hx rfl (hb hby at_41) rfl rfl ?_
      show Steps p.tables e below (T6.setTop (mkF m 42 #[.val (.int p1), .val (.int p2), .val (.int ((p1 &&& (1073741823 : Int32)) + (1 : Int32))), .val (.ref b3), .unset, .unset, .unset] [(.ref b6), (.ref b6)])) _
      refine XS.aloadN X6.here hx rfl (hb hby at_42) rfl rfl ?_
      show Steps p.tables e below (T6.setTop (mkF m 43 #[.val (.int p1), .val (.int p2), .val (.int ((p1 &&& (1073741823 : Int32)) + (1 : Int32))), .val (.ref b3), .unset, .unset, .unset] [(.ref b3), (.ref b6), (.ref b6)])) _
      refine XS.iloadN X6.here hx rfl (hb hby at_43) rfl ?_
      show Steps p.tables e below (T6.setTop (mkF m 44 #[.val (.int p1), .val (.int p2), .val (.int ((p1 &&& (1073741823 : Int32)) + (1 : Int32))), .val (.ref b3), .unset, .unset, .unset] [(.int ((p1 &&& (1073741823 : Int32)) + (1 : Int32))), (.ref b3), (.ref b6), (.ref b6)])) _
      refine st7.trans ?_
      show Steps p.tables e below (T7.setTop (mkF m 47 #[.val (.int p1), .val (.int p2), .val (.int ((p1 &&& (1073741823 : Int32)) + (1 : Int32))), .val (.ref b3), .unset, .unset, .unset] [(.ref b6)])) _
      refine XS.astore X7.here hx rfl (hb hby at_47) rfl rfl (l' := #[.val (.int p1), .val (.int p2), .val (.int ((p1 &&& (1073741823 : Int32)) + (1 : Int32))), .val (.ref b3), .val (.ref b6), .unset, .unset]) rfl ?_
      show Steps p.tables e below (T7.setTop (mkF m 49 #[.val (.int p1), .val (.int p2), .val (.int ((p1 &&& (1073741823 : Int32)) + (1 : Int32))), .val (.ref b3), .val (.ref b6), .unset, .unset] [])) _
      refine XS.aload X7.here hx rfl (hb hby at_49) rfl rfl ?_
      show Steps p.tables e below (T7.setTop (mkF m 51 #[.val (.int p1), .val (.int p2), .val (.int ((p1 &&& (1073741823 : Int32)) + (1 : Int32))), .val (.ref b3), .val (.ref b6), .unset, .unset] [(.ref b6)])) _
      refine st8.trans ?_
      show Steps p.tables e below (T8.setTop (mkF m 54 #[.val (.int p1), .val (.int p2), .val (.int ((p1 &&& (1073741823 : Int32)) + (1 : Int32))), .val (.ref b3), .val (.ref b6), .unset, .unset] [(.int r3)])) _
      refine XS.istore X8.here hx rfl (hb hby at_54) rfl (l' := #[.val (.int p1), .val (.int p2), .val (.int ((p1 &&& (1073741823 : Int32)) + (1 : Int32))), .val (.ref b3), .val (.ref b6), .val (.int r3), .unset]) rfl ?_
      show Steps p.tables e below (T8.setTop (mkF m 56 #[.val (.int p1), .val (.int p2), .val (.int ((p1 &&& (1073741823 : Int32)) + (1 : Int32))), .val (.ref b3), .val (.ref b6), .val (.int r3), .unset] [])) _
      refine XS.aload X8.here hx rfl (hb hby at_56) rfl rfl ?_
      show Steps p.tables e below (T8.setTop (mkF m 58 #[.val (.int p1), .val (.int p2), .val (.int ((p1 &&& (1073741823 : Int32)) + (1 : Int32))), .val (.ref b3), .val (.ref b6), .val (.int r3), .unset] [(.ref b6)])) _
      refine st9.trans ?_
      show Steps p.tables e below (T9.setTop (mkF m 61 #[.val (.int p1), .val (.int p2), .val (.int ((p1 &&& (1073741823 : Int32)) + (1 : Int32))), .val (.ref b3), .val (.ref b6), .val (.int r3), .unset] [(.int r3)])) _
      refine XS.istore X9.here hx rfl (hb hby at_61) rfl (l' := #[.val (.int p1), .val (.int p2), .val (.int ((p1 &&& (1073741823 : Int32)) + (1 : Int32))), .val (.ref b3), .val (.ref b6), .val (.int r3), .val (.int r3)]) rfl ?_
      show Steps p.tables e below (T9.setTop (mkF m 63 #[.val (.int p1), .val (.int p2), .val (.int ((p1 &&& (1073741823 : Int32)) + (1 : Int32))), .val (.ref b3), .val (.ref b6), .val (.int r3), .val (.int r3)] [])) _
      refine XS.iload X9.here hx rfl (hb hby at_63) rfl ?_
      show Steps p.tables e below (T9.setTop (mkF m 65 #[.val (.int p1), .val (.int p2), .val (.int ((p1 &&& (1073741823 : Int32)) + (1 : Int32))), .val (.ref b3), .val (.ref b6), .val (.int r3), .val (.int r3)] [(.int r3)])) _
      refine XS.iloadN X9.here hx rfl (hb hby at_65) rfl ?_
      show Steps p.tables e below (T9.setTop (mkF m 66 #[.val (.int p1), .val (.int p2), .val (.int ((p1 &&& (1073741823 : Int32)) + (1 : Int32))), .val (.ref b3), .val (.ref b6), .val (.int r3), .val (.int r3)] [(.int ((p1 &&& (1073741823 : Int32)) + (1 : Int32))), (.int r3)])) _
      refine st10 _ ?_
      show Steps p.tables e below (T10.setTop (mkF m 69 #[.val (.int p1), .val (.int p2), .val (.int ((p1 &&& (1073741823 : Int32)) + (1 : Int32))), .val (.ref b3), .val (.ref b6), .val (.int r3), .val (.int r3)] [(.int r4), (.int r3)])) _
      refine XS.icmpNo X10.here hx rfl (hb hby at_69) rfl (teq h34).2 ?_
      show Steps p.tables e below (T10.setTop (mkF m 72 #[.val (.int p1), .val (.int p2), .val (.int ((p1 &&& (1073741823 : Int32)) + (1 : Int32))), .val (.ref b3), .val (.ref b6), .val (.int r3), .val (.int r3)] [])) _
      refine XS.iload X10.here hx rfl (hb hby at_72) rfl ?_
      show Steps p.tables e below (T10.setTop (mkF m 74 #[.val (.int p1), .val (.int p2), .val (.int ((p1 &&& (1073741823 : Int32)) + (1 : Int32))), .val (.ref b3), .val (.ref b6), .val (.int r3), .val (.int r3)] [(.int r3)])) _
      refine XS.iload X10.here hx rfl (hb hby at_74) rfl ?_
      show Steps p.tables e below (T10.setTop (mkF m 76 #[.val (.int p1), .val (.int p2), .val (.int ((p1 &&& (1073741823 : Int32)) + (1 : Int32))), .val (.ref b3), .val (.ref b6), .val (.int r3), .val (.int r3)] [(.int r3), (.int r3)])) _
      refine XS.icmpNo X10.here hx rfl (hb hby at_76) rfl (teq (rfl : r3 = r3)).2 ?_
      show Steps p.tables e below (T10.setTop (mkF m 79 #[.val (.int p1), .val (.int p2), .val (.int ((p1 &&& (1073741823 : Int32)) + (1 : Int32))), .val (.ref b3), .val (.ref b6), .val (.int r3), .val (.int r3)] [])) _
      refine XS.iconst X10.here hx rfl (hb hby at_79) ?_
      show Steps p.tables e below (T10.setTop (mkF m 80 #[.val (.int p1), .val (.int p2), .val (.int ((p1 &&& (1073741823 : Int32)) + (1 : Int32))), .val (.ref b3), .val (.ref b6), .val (.int r3), .val (.int r3)] [(.int (1 : Int32))])) _
      refine XS.goto X10.here hx rfl (pc0 := 80) (pc' := 84) rfl (hb hby at_80) (by decide) (by decide) ?_
      show Steps p.tables e below (T10.setTop (mkF m 84 #[.val (.int p1), .val (.int p2), .val (.int ((p1 &&& (1073741823 : Int32)) + (1 : Int32))), .val (.ref b3), .val (.ref b6), .val (.int r3), .val (.int r3)] [(.int (1 : Int32))])) _
      exact retN X10 hx (t := .boolean) Bd.returns (by simp) (hb hby at_84) hr
    · show Q0 Z p1 p2 h0 n0 _ T10.heap _
      exact ⟨rfl, N10⟩
  · obtain ⟨r3, hr3⟩ : ∃ z : Int32, z = if ((p1 &&& (7 : Int32)) + (1 : Int32)) < (4 : Int32) then 0 else 1 := ⟨_, rfl⟩
    obtain ⟨r4, hr4⟩ : ∃ z : Int32, z = if ((p1 &&& (7 : Int32)) + (1 : Int32)) = (1 : Int32) then 0 else if ((p1 &&& (7 : Int32)) + (1 : Int32)) = (2 : Int32) then 0 else if ((p1 &&& (7 : Int32)) + (1 : Int32)) = (3 : Int32) then 0 else 1 := ⟨_, rfl⟩
    have h34 : r3 = r4 := by rw [hr3, hr4]; exact own_agree (own_fm1 p1)
    refine MetFree.of_bodySF (plainFor_of_name pn_0) hisR ?_
    intro p e s m args below meth c s₁ Bd hml0 hP hK
    obtain ⟨rfl, hZ, hh⟩ := hP
    have hx := Bd.exec
    have hby := Bd.bytes
    have hml : c.maxLocals = 7 := hml0
    have hown : s.vm.findClass "com/example/plainwire/plainwire/store/RecordReaderDeletesLinksPinLaw" = some m.cls := findClass_of_methodNamed Bd.named
    have hnm := (name_of_methodNamed Bd.named Bd.method).1
    have X0 : Stand p l e room_1 s m #[(.int p1), (.int p2)] below meth c s₁ [] 0 0 := Stand.of_body Bd
    have e0 : s₁.heap = h0 := by rw [← hh, Bd.state]; rfl
    have N0 := Fr.nil n0
    have pre0 : ∀ t, Steps p.tables e below (s₁.setTop (mkF m 0 #[.val (.int p1), .val (.int p2), .unset, .unset, .unset, .unset, .unset] [])) t → Steps p.tables e below (s₁.setTop (entryFrame m #[(.int p1), (.int p2)] maxLocals)) t := fun t k => castTop (ef_0 m p1 p2) k
    obtain ⟨T3, h3, k3, X3, e3, E3, A3, st3⟩ := newP X0 hx hZ (hw _ (List.mem_of_getElem? (i := 2) rfl)) e0 (g := (mkF m 22 #[.val (.int p1), .val (.int p2), .val (.int ((p1 &&& (7 : Int32)) + (1 : Int32))), .unset, .unset, .unset, .unset] [(.int (2 : Int32))])) rfl (hb hby at_22) rfl (by decide) (cap := 2) (by decide) (by decide) (by decide) (by decide)
    obtain ⟨b3, g3⟩ : ∃ z, z = h0.size := ⟨_, rfl⟩
    rw [← g3] at A3 st3
    have V_b3 : Arv Z h3 b3 k3 .byte (2 : Int32) [(.int (0 : Int32)), (.int (0 : Int32))] (.int (0 : Int32)) := (Arv.new A3 (by decide)).pad (pad_rep [] (.int (0 : Int32)) 2)
    have g_b3 : n0 ≤ b3 := Nat.le_trans Z0 (Nat.le_of_eq g3.symm)
    have sz_b3 : h0.size ≤ b3 := (Nat.le_trans (Keep.refl h0 []).1 (Nat.le_of_eq g3.symm))
    have K3 : Keep h0 h3 [] := (Keep.refl h0 []).ext E3
    obtain ⟨cl_b3_28, Ar_b3, q_b3, S_b3, N_b3, H_b3, G_b3⟩ := V_b3
    have hin28 : ¬ ((0 : Int32) < 0 ∨ cl_b3_28.slots.size ≤ ((0 : Int32)).toNatClampNeg) := inb_of S_b3 ⟨by decide, by decide⟩
    obtain ⟨T4, h4, X4, e4, W4, st4⟩ := stB X3 hx hZ e3 Ar_b3 (j := (0 : Int32)) hin28 (g := (mkF m 28 #[.val (.int p1), .val (.int p2), .val (.int ((p1 &&& (7 : Int32)) + (1 : Int32))), .unset, .unset, .unset, .unset] [(.int (p2.toInt8.toInt32)), (.int (0 : Int32)), (.ref b3), (.ref b3)])) rfl rfl (hb hby at_28)
    have V_b3_4 := Arv.set Ar_b3 q_b3 S_b3 N_b3 H_b3 G_b3 (fits_nar_byte _) W4 0 rfl (Nat.le_of_ble_eq_true rfl)
    have K4 : Keep h0 h4 [] := K3.wr W4 (Or.inr sz_b3)
    have N4 := Fr.snoc X4 N0 g_b3
    obtain ⟨cl_b3_36, Ar_b3, q_b3, S_b3, N_b3, H_b3, G_b3⟩ := V_b3_4
    have hin36 : ¬ ((1 : Int32) < 0 ∨ cl_b3_36.slots.size ≤ ((1 : Int32)).toNatClampNeg) := inb_of S_b3 ⟨by decide, by decide⟩
    obtain ⟨T5, h5, X5, e5, W5, st5⟩ := stB X4 hx hZ e4 Ar_b3 (j := (1 : Int32)) hin36 (g := (mkF m 36 #[.val (.int p1), .val (.int p2), .val (.int ((p1 &&& (7 : Int32)) + (1 : Int32))), .unset, .unset, .unset, .unset] [(.int ((p2 >>> ((8 : Int32) &&& 31)).toInt8.toInt32)), (.int (1 : Int32)), (.ref b3), (.ref b3)])) rfl rfl (hb hby at_36)
    have V_b3_5 := Arv.set Ar_b3 q_b3 S_b3 N_b3 H_b3 G_b3 (fits_nar_byte _) W5 1 rfl (Nat.le_of_ble_eq_true rfl)
    have K5 : Keep h0 h5 [] := K4.wr W5 (Or.inr sz_b3)
    have N5 := Fr.snoc X5 N4 g_b3
    obtain ⟨T6, h6, X6, e6, E6, A6, D6, -, st6⟩ := newO X5 hx hZ hown (hw _ (List.mem_of_getElem? (i := 3) rfl)) (hw _ (List.mem_of_getElem? (i := 4) rfl)) (hw _ (List.mem_of_getElem? (i := 5) rfl)) e5 (g := (mkF m 38 #[.val (.int p1), .val (.int p2), .val (.int ((p1 &&& (7 : Int32)) + (1 : Int32))), .val (.ref b3), .unset, .unset, .unset] [])) rfl (hb hby at_38) (by decide) (by decide)
    obtain ⟨b6, g6⟩ : ∃ z, z = h5.size := ⟨_, rfl⟩
    rw [← g6] at A6 D6 st6
    have F_record_b6 : Fld Z h6 b6 "com/example/plainwire/plainwire/store/RecordReader" "record" "[B" .null := D6 (Or.inr (hw _ (List.mem_of_getElem? (i := 13) rfl))) (ty := (.array .byte)) (by decide)
    have F_format_b6 : Fld Z h6 b6 "com/example/plainwire/plainwire/store/RecordReader" "format" "I" (.int (0 : Int32)) := D6 (Or.inr (hw _ (List.mem_of_getElem? (i := 15) rfl))) (ty := .int) (by decide)
    have E_b6 := A6
    have g_b6 : n0 ≤ b6 := Nat.le_trans (Nat.le_trans (Nat.le_trans (Nat.le_trans Z0 E3.1) (Keep.of_wr W4).1) (Keep.of_wr W5).1) (Nat.le_of_eq g6.symm)
    have sz_b6 : h0.size ≤ b6 := (Nat.le_trans K5.1 (Nat.le_of_eq g6.symm))
    have K6 : Keep h0 h6 [] := K5.ext E6
    obtain ⟨_, _, ⟨T7, L7, k7, n7⟩, -, X7, ⟨Lc7, hQ7, l7, y7, z7⟩, st7⟩ := X6.specialBack hx (y := (⟨"com/example/plainwire/plainwire/store/RecordReader", "<init>", "([BI)V"⟩ : MethodName)) rfl hown (mvT hZ (hw _ (List.mem_of_getElem? (i := 6) rfl))) (mvT hZ (hw _ (List.mem_of_getElem? (i := 7) rfl))) (mvT hZ (hw _ (List.mem_of_getElem? (i := 8) rfl))) (by decide) (backOf (W := 1) (rm1 l Z a0 hw [] b6 b3 ((p1 &&& (7 : Int32)) + (1 : Int32)) .null (.int (0 : Int32)) h6 n0 (Nat.le_trans Z0 K6.1) E_b6 F_record_b6 g_b6 F_format_b6) hZ (hw _ (List.mem_of_getElem? (i := 8) rfl)) (hw _ (List.mem_of_getElem? (i := 5) rfl)) (by decide) (by decide)) (g := (mkF m 44 #[.val (.int p1), .val (.int p2), .val (.int ((p1 &&& (7 : Int32)) + (1 : Int32))), .val (.ref b3), .unset, .unset, .unset] [(.int ((p1 &&& (7 : Int32)) + (1 : Int32))), (.ref b3), (.ref b6), (.ref b6)])) rfl (by rw [hml]; rfl) (Steps.refl _) (a := b6) (argsL := [(.ref b3), (.int ((p1 &&& (7 : Int32)) + (1 : Int32)))]) (rest := [(.ref b6)]) (lenOf pd_0_0 rfl) rfl (by show 2 * 0 + _ ≤ _; exact Nat.le_of_eq rfl) (hb hby at_44) (fun _ _ => ⟨rfl, e6, (by decide : 2 + 0 ≤ _), (by decide : 5 + 0 ≤ _)⟩)
    dsimp only [Pt.U, Pt.locs, Pt.cells, Pt.slots] at X7 l7 y7 z7 st7 hQ7
    subst l7 y7 z7
    obtain ⟨rfl, N7q, K7c, Ex7, Fr7, Ff7⟩ := hQ7
    have N7 := Fr.app N5 N7q
    obtain ⟨cq8, kq8, q8a, q8b, q8c⟩ := isOf hZ rfl Ex7
    obtain ⟨_, _, ⟨T8, L8, k8, n8⟩, -, X8, ⟨Lc8, hQ8, l8, y8, z8⟩, st8⟩ := X7.virtualBack hx (y := (⟨"com/example/plainwire/plainwire/store/RecordReader", "deletesLinks", "()Z"⟩ : MethodName)) (z := (⟨"com/example/plainwire/plainwire/store/RecordReader", "deletesLinks", "()Z"⟩ : MethodName)) hown (mvT hZ (hw _ (List.mem_of_getElem? (i := 16) rfl))) (mvT hZ (hw _ (List.mem_of_getElem? (i := 17) rfl))) (notFace_of_selects (args := #[]) (mvT hZ (hw _ (List.mem_of_getElem? (i := 19) rfl)))) (mvT hZ (hw _ (List.mem_of_getElem? (i := 19) rfl))) (mvT hZ (hw _ (List.mem_of_getElem? (i := 18) rfl))) (by decide) (backOf (W := 0) (rm3 l Z a0 hw [] b6 ((p1 &&& (7 : Int32)) + (1 : Int32)) r3 T7.heap n0 (Nat.le_trans (Nat.le_trans Z0 K6.1) K7c.1) Ff7 hr3) hZ (hw _ (List.mem_of_getElem? (i := 20) rfl)) (hw _ (List.mem_of_getElem? (i := 5) rfl)) (by decide) (by decide)) q8a q8c (g := (mkF m 51 #[.val (.int p1), .val (.int p2), .val (.int ((p1 &&& (7 : Int32)) + (1 : Int32))), .val (.ref b3), .val (.ref b6), .unset, .unset] [(.ref b6)])) rfl (by rw [hml]; rfl) (Steps.refl _) (argsL := []) (rest := []) (lenOf pd_0_2 rfl) rfl (by show 2 * 0 + _ ≤ _; exact Nat.le_of_eq rfl) (hb hby at_51) (fun _ _ => ⟨rfl, rfl, (by decide : 2 + 0 ≤ _), (by decide : 5 + 0 ≤ _)⟩)
    dsimp only [Pt.U, Pt.locs, Pt.cells, Pt.slots] at X8 l8 y8 z8 st8 hQ8
    subst l8 y8 z8
    obtain ⟨rfl, N8q, e8⟩ := hQ8
    have N8 := Fr.app N7 N8q
    obtain ⟨cq9, kq9, q9a, q9b, q9c⟩ := isOf hZ rfl (by rw [e8]; exact Ex7 : Exa Z T8.heap b6 "com/example/plainwire/plainwire/store/RecordReader")
    obtain ⟨_, _, ⟨T9, L9, k9, n9⟩, -, X9, ⟨Lc9, hQ9, l9, y9, z9⟩, st9⟩ := X8.virtualBack hx (y := (⟨"com/example/plainwire/plainwire/store/RecordReader", "deletesLinks", "()Z"⟩ : MethodName)) (z := (⟨"com/example/plainwire/plainwire/store/RecordReader", "deletesLinks", "()Z"⟩ : MethodName)) hown (mvT hZ (hw _ (List.mem_of_getElem? (i := 16) rfl))) (mvT hZ (hw _ (List.mem_of_getElem? (i := 17) rfl))) (notFace_of_selects (args := #[]) (mvT hZ (hw _ (List.mem_of_getElem? (i := 19) rfl)))) (mvT hZ (hw _ (List.mem_of_getElem? (i := 19) rfl))) (mvT hZ (hw _ (List.mem_of_getElem? (i := 18) rfl))) (by decide) (backOf (W := 0) (rm3 l Z a0 hw [] b6 ((p1 &&& (7 : Int32)) + (1 : Int32)) r3 T8.heap n0 (by rw [e8]; exact (Nat.le_trans (Nat.le_trans Z0 K6.1) K7c.1)) (by rw [e8]; exact Ff7) hr3) hZ (hw _ (List.mem_of_getElem? (i := 20) rfl)) (hw _ (List.mem_of_getElem? (i := 5) rfl)) (by decide) (by decide)) q9a q9c (g := (mkF m 58 #[.val (.int p1), .val (.int p2), .val (.int ((p1 &&& (7 : Int32)) + (1 : Int32))), .val (.ref b3), .val (.ref b6), .val (.int r3), .unset] [(.ref b6)])) rfl (by rw [hml]; rfl) (Steps.refl _) (argsL := []) (rest := []) (lenOf pd_0_2 rfl) rfl (by show 2 * 0 + _ ≤ _; exact Nat.le_of_eq rfl) (hb hby at_58) (fun _ _ => ⟨rfl, rfl, (by decide : 2 + 0 ≤ _), (by decide : 5 + 0 ≤ _)⟩)
    dsimp only [Pt.U, Pt.locs, Pt.cells, Pt.slots] at X9 l9 y9 z9 st9 hQ9
    subst l9 y9 z9
    obtain ⟨rfl, N9q, e9⟩ := hQ9
    have N9 := Fr.app N8 N9q
    obtain ⟨_, _, ⟨T10, L10, k10, n10⟩, -, X10, ⟨Lc10, hQ10, l10, y10, z10⟩, st10⟩ := Jvm.LawKit.callS X9 hx (y := (⟨"com/example/plainwire/plainwire/store/RecordReaderDeletesLinksPinLaw", "expected", "(I)Z"⟩ : MethodName)) hown (mvT hZ (hw _ (List.mem_of_getElem? (i := 21) rfl))) (mvT hZ (hw _ (List.mem_of_getElem? (i := 22) rfl))) (mvT hZ (hw _ (List.mem_of_getElem? (i := 23) rfl))) (mvT hZ (hw _ (List.mem_of_getElem? (i := 24) rfl))) (by decide) (backOf (W := 1) (rm4 l Z a0 hw [] ((p1 &&& (7 : Int32)) + (1 : Int32)) r4 T9.heap n0 (by rw [e9, e8]; exact (Nat.le_trans (Nat.le_trans Z0 K6.1) K7c.1)) hr4) hZ (hw _ (List.mem_of_getElem? (i := 24) rfl)) (hw _ (List.mem_of_getElem? (i := 23) rfl)) (by decide) (by decide)) (g := (mkF m 66 #[.val (.int p1), .val (.int p2), .val (.int ((p1 &&& (7 : Int32)) + (1 : Int32))), .val (.ref b3), .val (.ref b6), .val (.int r3), .val (.int r3)] [(.int ((p1 &&& (7 : Int32)) + (1 : Int32))), (.int r3)])) rfl (by rw [hml]; rfl) (argsL := [(.int ((p1 &&& (7 : Int32)) + (1 : Int32)))]) (rest := [(.int r3)]) (lenOf pd_0_3 rfl) rfl (by show 2 * 0 + _ ≤ _; exact Nat.le_of_eq rfl) (hb hby at_66) (fun _ _ => ⟨rfl, rfl, (by decide : 2 + 0 ≤ _), (by decide : 5 + 0 ≤ _)⟩)
    dsimp only [Pt.U, Pt.locs, Pt.cells, Pt.slots] at X10 l10 y10 z10 st10 hQ10
    subst l10 y10 z10
    obtain ⟨rfl, N10q, e10⟩ := hQ10
    have N10 := Fr.app N9 N10q
    obtain ⟨fs, hr, hrun, hended, hW, hsame⟩ := X10.leave (v := some (.int (1 : Int32))) (fun h => by rw [Bd.returns] at h; cases h)
    refine ⟨_, _, pre0 _ ?_, hrun, hended, _, _, rfl, ?_, ⟨_, rfl⟩, hW, hsame.mono (by decide) (by decide)⟩
    · show Steps p.tables e below (s₁.setTop (mkF m 0 #[.val (.int p1), .val (.int p2), .unset, .unset, .unset, .unset, .unset] [])) _
      refine XS.iloadN X0.here hx rfl (hb hby at_0) rfl ?_
      show Steps p.tables e below (s₁.setTop (mkF m 1 #[.val (.int p1), .val (.int p2), .unset, .unset, .unset, .unset, .unset] [(.int p1)])) _
      refine X0.ldcInt hx hown (mvT hZ (hw _ (List.mem_of_getElem? (i := 0) rfl))) (g := (mkF m 1 #[.val (.int p1), .val (.int p2), .unset, .unset, .unset, .unset, .unset] [(.int p1)])) rfl (hb hby at_1) _ ?_
      show Steps p.tables e below (s₁.setTop (mkF m 3 #[.val (.int p1), .val (.int p2), .unset, .unset, .unset, .unset, .unset] [(.int (1073741823 : Int32)), (.int p1)])) _
      refine XS.iand X0.here hx rfl (hb hby at_3) rfl ?_
      show Steps p.tables e below (s₁.setTop (mkF m 4 #[.val (.int p1), .val (.int p2), .unset, .unset, .unset, .unset, .unset] [(.int (p1 &&& (1073741823 : Int32)))])) _
      refine XS.iconst X0.here hx rfl (hb hby at_4) ?_
      show Steps p.tables e below (s₁.setTop (mkF m 5 #[.val (.int p1), .val (.int p2), .unset, .unset, .unset, .unset, .unset] [(.int (1 : Int32)), (.int (p1 &&& (1073741823 : Int32)))])) _
      refine XS.iadd X0.here hx rfl (hb hby at_5) rfl ?_
      show Steps p.tables e below (s₁.setTop (mkF m 6 #[.val (.int p1), .val (.int p2), .unset, .unset, .unset, .unset, .unset] [(.int ((p1 &&& (1073741823 : Int32)) + (1 : Int32)))])) _
      refine XS.istoreN X0.here hx rfl (hb hby at_6) rfl (l' := #[.val (.int p1), .val (.int p2), .val (.int ((p1 &&& (1073741823 : Int32)) + (1 : Int32))), .unset, .unset, .unset, .unset]) rfl ?_
      show Steps p.tables e below (s₁.setTop (mkF m 7 #[.val (.int p1), .val (.int p2), .val (.int ((p1 &&& (1073741823 : Int32)) + (1 : Int32))), .unset, .unset, .unset, .unset] [])) _
      refine XS.iloadN X0.here hx rfl (hb hby at_7) rfl ?_
      show Steps p.tables e below (s₁.setTop (mkF m 8 #[.val (.int p1), .val (.int p2), .val (.int ((p1 &&& (1073741823 : Int32)) + (1 : Int32))), .unset, .unset, .unset, .unset] [(.int p1)])) _
      refine X0.ldcInt hx hown (mvT hZ (hw _ (List.mem_of_getElem? (i := 1) rfl))) (g := (mkF m 8 #[.val (.int p1), .val (.int p2), .val (.int ((p1 &&& (1073741823 : Int32)) + (1 : Int32))), .unset, .unset, .unset, .unset] [(.int p1)])) rfl (hb hby at_8) _ ?_
      show Steps p.tables e below (s₁.setTop (mkF m 10 #[.val (.int p1), .val (.int p2), .val (.int ((p1 &&& (1073741823 : Int32)) + (1 : Int32))), .unset, .unset, .unset, .unset] [(.int (1073741824 : Int32)), (.int p1)])) _
      refine XS.iand X0.here hx rfl (hb hby at_10) rfl ?_
      show Steps p.tables e below (s₁.setTop (mkF m 11 #[.val (.int p1), .val (.int p2), .val (.int ((p1 &&& (1073741823 : Int32)) + (1 : Int32))), .unset, .unset, .unset, .unset] [(.int (p1 &&& (1073741824 : Int32)))])) _
      refine XS.ifNo X0.here hx rfl (hb hby at_11) rfl ((if0 _ _).trans (feq hc11).1) ?_
      show Steps p.tables e below (s₁.setTop (mkF m 14 #[.val (.int p1), .val (.int p2), .val (.int ((p1 &&& (1073741823 : Int32)) + (1 : Int32))), .unset, .unset, .unset, .unset] [])) _
      refine XS.iloadN X0.here hx rfl (hb hby at_14) rfl ?_
      show Steps p.tables e below (s₁.setTop (mkF m 15 #[.val (.int p1), .val (.int p2), .val (.int ((p1 &&& (1073741823 : Int32)) + (1 : Int32))), .unset, .unset, .unset, .unset] [(.int p1)])) _
      refine XS.bipush X0.here hx rfl (hb hby at_15) ?_
      show Steps p.tables e below (s₁.setTop (mkF m 17 #[.val (.int p1), .val (.int p2), .val (.int ((p1 &&& (1073741823 : Int32)) + (1 : Int32))), .unset, .unset, .unset, .unset] [(.int (7 : Int32)), (.int p1)])) _
      refine XS.iand X0.here hx rfl (hb hby at_17) rfl ?_
      show Steps p.tables e below (s₁.setTop (mkF m 18 #[.val (.int p1), .val (.int p2), .val (.int ((p1 &&& (1073741823 : Int32)) + (1 : Int32))), .unset, .unset, .unset, .unset] [(.int (p1 &&& (7 : Int32)))])) _
      refine XS.iconst X0.here hx rfl (hb hby at_18) ?_
      show Steps p.tables e below (s₁.setTop (mkF m 19 #[.val (.int p1), .val (.int p2), .val (.int ((p1 &&& (1073741823 : Int32)) + (1 : Int32))), .unset, .unset, .unset, .unset] [(.int (1 : Int32)), (.int (p1 &&& (7 : Int32)))])) _
      refine XS.iadd X0.here hx rfl (hb hby at_19) rfl ?_
      show Steps p.tables e below (s₁.setTop (mkF m 20 #[.val (.int p1), .val (.int p2), .val (.int ((p1 &&& (1073741823 : Int32)) + (1 : Int32))), .unset, .unset, .unset, .unset] [(.int ((p1 &&& (7 : Int32)) + (1 : Int32)))])) _
      refine XS.istoreN X0.here hx rfl (hb hby at_20) rfl (l' := #[.val (.int p1), .val (.int p2), .val (.int ((p1 &&& (7 : Int32)) + (1 : Int32))), .unset, .unset, .unset, .unset]) rfl ?_
      show Steps p.tables e below (s₁.setTop (mkF m 21 #[.val (.int p1), .val (.int p2), .val (.int ((p1 &&& (7 : Int32)) + (1 : Int32))), .unset, .unset, .unset, .unset] [])) _
      refine XS.iconst X0.here hx rfl (hb hby at_21) ?_
      show Steps p.tables e below (s₁.setTop (mkF m 22 #[.val (.int p1), .val (.int p2), .val (.int ((p1 &&& (7 : Int32)) + (1 : Int32))), .unset, .unset, .unset, .unset] [(.int (2 : Int32))])) _
      refine st3 _ ?_
      show Steps p.tables e below (T3.setTop (mkF m 24 #[.val (.int p1), .val (.int p2), .val (.int ((p1 &&& (7 : Int32)) + (1 : Int32))), .unset, .unset, .unset, .unset] [(.ref b3)])) _
      refine XS.dup X3.here hx rfl (hb hby at_24) rfl rfl ?_
      show Steps p.tables e below (T3.setTop (mkF m 25 #[.val (.int p1), .val (.int p2), .val (.int ((p1 &&& (7 : Int32)) + (1 : Int32))), .unset, .unset, .unset, .unset] [(.ref b3), (.ref b3)])) _
      refine XS.iconst X3.here hx rfl (hb hby at_25) ?_
      show Steps p.tables e below (T3.setTop (mkF m 26 #[.val (.int p1), .val (.int p2), .val (.int ((p1 &&& (7 : Int32)) + (1 : Int32))), .unset, .unset, .unset, .unset] [(.int (0 : Int32)), (.ref b3), (.ref b3)])) _
      refine XS.iloadN X3.here hx rfl (hb hby at_26) rfl ?_
      show Steps p.tables e below (T3.setTop (mkF m 27 #[.val (.int p1), .val (.int p2), .val (.int ((p1 &&& (7 : Int32)) + (1 : Int32))), .unset, .unset, .unset, .unset] [(.int p2), (.int (0 : Int32)), (.ref b3), (.ref b3)])) _
      refine XS.i2b X3.here hx rfl (hb hby at_27) rfl ?_
      show Steps p.tables e below (T3.setTop (mkF m 28 #[.val (.int p1), .val (.int p2), .val (.int ((p1 &&& (7 : Int32)) + (1 : Int32))), .unset, .unset, .unset, .unset] [(.int (p2.toInt8.toInt32)), (.int (0 : Int32)), (.ref b3), (.ref b3)])) _
      refine st4 _ ?_
      show Steps p.tables e below (T4.setTop (mkF m 29 #[.val (.int p1), .val (.int p2), .val (.int ((p1 &&& (7 : Int32)) + (1 : Int32))), .unset, .unset, .unset, .unset] [(.ref b3)])) _
      refine XS.dup X4.here hx rfl (hb hby at_29) rfl rfl ?_
      show Steps p.tables e below (T4.setTop (mkF m 30 #[.val (.int p1), .val (.int p2), .val (.int ((p1 &&& (7 : Int32)) + (1 : Int32))), .unset, .unset, .unset, .unset] [(.ref b3), (.ref b3)])) _
      refine XS.iconst X4.here hx rfl (hb hby at_30) ?_
      show Steps p.tables e below (T4.setTop (mkF m 31 #[.val (.int p1), .val (.int p2), .val (.int ((p1 &&& (7 : Int32)) + (1 : Int32))), .unset, .unset, .unset, .unset] [(.int (1 : Int32)), (.ref b3), (.ref b3)])) _
      refine XS.iloadN X4.here hx rfl (hb hby at_31) rfl ?_
      show Steps p.tables e below (T4.setTop (mkF m 32 #[.val (.int p1), .val (.int p2), .val (.int ((p1 &&& (7 : Int32)) + (1 : Int32))), .unset, .unset, .unset, .unset] [(.int p2), (.int (1 : Int32)), (.ref b3), (.ref b3)])) _
      refine XS.bipush X4.here hx rfl (hb hby at_32) ?_
      show Steps p.tables e below (T4.setTop (mkF m 34 #[.val (.int p1), .val (.int p2), .val (.int ((p1 &&& (7 : Int32)) + (1 : Int32))), .unset, .unset, .unset, .unset] [(.int (8 : Int32)), (.int p2), (.int (1 : Int32)), (.ref b3), (.ref b3)])) _
      refine XS.ishr X4.here hx rfl (hb hby at_34) rfl ?_
      show Steps p.tables e below (T4.setTop (mkF m 35 #[.val (.int p1), .val (.int p2), .val (.int ((p1 &&& (7 : Int32)) + (1 : Int32))), .unset, .unset, .unset, .unset] [(.int (p2 >>> ((8 : Int32) &&& 31))), (.int (1 : Int32)), (.ref b3), (.ref b3)])) _
      refine XS.i2b X4.here hx rfl (hb hby at_35) rfl ?_
      show Steps p.tables e below (T4.setTop (mkF m 36 #[.val (.int p1), .val (.int p2), .val (.int ((p1 &&& (7 : Int32)) + (1 : Int32))), .unset, .unset, .unset, .unset] [(.int ((p2 >>> ((8 : Int32) &&& 31)).toInt8.toInt32)), (.int (1 : Int32)), (.ref b3), (.ref b3)])) _
      refine st5 _ ?_
      show Steps p.tables e below (T5.setTop (mkF m 37 #[.val (.int p1), .val (.int p2), .val (.int ((p1 &&& (7 : Int32)) + (1 : Int32))), .unset, .unset, .unset, .unset] [(.ref b3)])) _
      refine XS.astoreN X5.here hx rfl (hb hby at_37) rfl rfl (l' := #[.val (.int p1), .val (.int p2), .val (.int ((p1 &&& (7 : Int32)) + (1 : Int32))), .val (.ref b3), .unset, .unset, .unset]) rfl ?_
      show Steps p.tables e below (T5.setTop (mkF m 38 #[.val (.int p1), .val (.int p2), .val (.int ((p1 &&& (7 : Int32)) + (1 : Int32))), .val (.ref b3), .unset, .unset, .unset] [])) _
      refine st6 _ ?_
      show Steps p.tables e below (T6.setTop (mkF m 41 #[.val (.int p1), .val (.int p2), .val (.int ((p1 &&& (7 : Int32)) + (1 : Int32))), .val (.ref b3), .unset, .unset, .unset] [(.ref b6)])) _
      refine XS.dup X6.here hx rfl (hb hby at_41) rfl rfl ?_
      show Steps p.tables e below (T6.setTop (mkF m 42 #[.val (.int p1), .val (.int p2), .val (.int ((p1 &&& (7 : Int32)) + (1 : Int32))), .val (.ref b3), .unset, .unset, .unset] [(.ref b6), (.ref b6)])) _
      refine XS.aloadN X6.here hx rfl (hb hby at_42) rfl rfl ?_
      show Steps p.tables e below (T6.setTop (mkF m 43 #[.val (.int p1), .val (.int p2), .val (.int ((p1 &&& (7 : Int32)) + (1 : Int32))), .val (.ref b3), .unset, .unset, .unset] [(.ref b3), (.ref b6), (.ref b6)])) _
      refine XS.iloadN X6.here hx rfl (hb hby at_43) rfl ?_
      show Steps p.tables e below (T6.setTop (mkF m 44 #[.val (.int p1), .val (.int p2), .val (.int ((p1 &&& (7 : Int32)) + (1 : Int32))), .val (.ref b3), .unset, .unset, .unset] [(.int ((p1 &&& (7 : Int32)) + (1 : Int32))), (.ref b3), (.ref b6), (.ref b6)])) _
      refine st7.trans ?_
      show Steps p.tables e below (T7.setTop (mkF m 47 #[.val (.int p1), .val (.int p2), .val (.int ((p1 &&& (7 : Int32)) + (1 : Int32))), .val (.ref b3), .unset, .unset, .unset] [(.ref b6)])) _
      refine XS.astore X7.here hx rfl (hb hby at_47) rfl rfl (l' := #[.val (.int p1), .val (.int p2), .val (.int ((p1 &&& (7 : Int32)) + (1 : Int32))), .val (.ref b3), .val (.ref b6), .unset, .unset]) rfl ?_
      show Steps p.tables e below (T7.setTop (mkF m 49 #[.val (.int p1), .val (.int p2), .val (.int ((p1 &&& (7 : Int32)) + (1 : Int32))), .val (.ref b3), .val (.ref b6), .unset, .unset] [])) _
      refine XS.aload X7.here hx rfl (hb hby at_49) rfl rfl ?_
      show Steps p.tables e below (T7.setTop (mkF m 51 #[.val (.int p1), .val (.int p2), .val (.int ((p1 &&& (7 : Int32)) + (1 : Int32))), .val (.ref b3), .val (.ref b6), .unset, .unset] [(.ref b6)])) _
      refine st8.trans ?_
      show Steps p.tables e below (T8.setTop (mkF m 54 #[.val (.int p1), .val (.int p2), .val (.int ((p1 &&& (7 : Int32)) + (1 : Int32))), .val (.ref b3), .val (.ref b6), .unset, .unset] [(.int r3)])) _
      refine XS.istore X8.here hx rfl (hb hby at_54) rfl (l' := #[.val (.int p1), .val (.int p2), .val (.int ((p1 &&& (7 : Int32)) + (1 : Int32))), .val (.ref b3), .val (.ref b6), .val (.int r3), .unset]) rfl ?_
      show Steps p.tables e below (T8.setTop (mkF m 56 #[.val (.int p1), .val (.int p2), .val (.int ((p1 &&& (7 : Int32)) + (1 : Int32))), .val (.ref b3), .val (.ref b6), .val (.int r3), .unset] [])) _
      refine XS.aload X8.here hx rfl (hb hby at_56) rfl rfl ?_
      show Steps p.tables e below (T8.setTop (mkF m 58 #[.val (.int p1), .val (.int p2), .val (.int ((p1 &&& (7 : Int32)) + (1 : Int32))), .val (.ref b3), .val (.ref b6), .val (.int r3), .unset] [(.ref b6)])) _
      refine st9.trans ?_
      show Steps p.tables e below (T9.setTop (mkF m 61 #[.val (.int p1), .val (.int p2), .val (.int ((p1 &&& (7 : Int32)) + (1 : Int32))), .val (.ref b3), .val (.ref b6), .val (.int r3), .unset] [(.int r3)])) _
      refine XS.istore X9.here hx rfl (hb hby at_61) rfl (l' := #[.val (.int p1), .val (.int p2), .val (.int ((p1 &&& (7 : Int32)) + (1 : Int32))), .val (.ref b3), .val (.ref b6), .val (.int r3), .val (.int r3)]) rfl ?_
      show Steps p.tables e below (T9.setTop (mkF m 63 #[.val (.int p1), .val (.int p2), .val (.int ((p1 &&& (7 : Int32)) + (1 : Int32))), .val (.ref b3), .val (.ref b6), .val (.int r3), .val (.int r3)] [])) _
      refine XS.iload X9.here hx rfl (hb hby at_63) rfl ?_
      show Steps p.tables e below (T9.setTop (mkF m 65 #[.val (.int p1), .val (.int p2), .val (.int ((p1 &&& (7 : Int32)) + (1 : Int32))), .val (.ref b3), .val (.ref b6), .val (.int r3), .val (.int r3)] [(.int r3)])) _
      refine XS.iloadN X9.here hx rfl (hb hby at_65) rfl ?_
      show Steps p.tables e below (T9.setTop (mkF m 66 #[.val (.int p1), .val (.int p2), .val (.int ((p1 &&& (7 : Int32)) + (1 : Int32))), .val (.ref b3), .val (.ref b6), .val (.int r3), .val (.int r3)] [(.int ((p1 &&& (7 : Int32)) + (1 : Int32))), (.int r3)])) _
      refine st10 _ ?_
      show Steps p.tables e below (T10.setTop (mkF m 69 #[.val (.int p1), .val (.int p2), .val (.int ((p1 &&& (7 : Int32)) + (1 : Int32))), .val (.ref b3), .val (.ref b6), .val (.int r3), .val (.int r3)] [(.int r4), (.int r3)])) _
      refine XS.icmpNo X10.here hx rfl (hb hby at_69) rfl (teq h34).2 ?_
      show Steps p.tables e below (T10.setTop (mkF m 72 #[.val (.int p1), .val (.int p2), .val (.int ((p1 &&& (7 : Int32)) + (1 : Int32))), .val (.ref b3), .val (.ref b6), .val (.int r3), .val (.int r3)] [])) _
      refine XS.iload X10.here hx rfl (hb hby at_72) rfl ?_
      show Steps p.tables e below (T10.setTop (mkF m 74 #[.val (.int p1), .val (.int p2), .val (.int ((p1 &&& (7 : Int32)) + (1 : Int32))), .val (.ref b3), .val (.ref b6), .val (.int r3), .val (.int r3)] [(.int r3)])) _
      refine XS.iload X10.here hx rfl (hb hby at_74) rfl ?_
      show Steps p.tables e below (T10.setTop (mkF m 76 #[.val (.int p1), .val (.int p2), .val (.int ((p1 &&& (7 : Int32)) + (1 : Int32))), .val (.ref b3), .val (.ref b6), .val (.int r3), .val (.int r3)] [(.int r3), (.int r3)])) _
      refine XS.icmpNo X10.here hx rfl (hb hby at_76) rfl (teq (rfl : r3 = r3)).2 ?_
      show Steps p.tables e below (T10.setTop (mkF m 79 #[.val (.int p1), .val (.int p2), .val (.int ((p1 &&& (7 : Int32)) + (1 : Int32))), .val (.ref b3), .val (.ref b6), .val (.int r3), .val (.int r3)] [])) _
      refine XS.iconst X10.here hx rfl (hb hby at_79) ?_
      show Steps p.tables e below (T10.setTop (mkF m 80 #[.val (.int p1), .val (.int p2), .val (.int ((p1 &&& (7 : Int32)) + (1 : Int32))), .val (.ref b3), .val (.ref b6), .val (.int r3), .val (.int r3)] [(.int (1 : Int32))])) _
      refine XS.goto X10.here hx rfl (pc0 := 80) (pc' := 84) rfl (hb hby at_80) (by decide) (by decide) ?_
      show Steps p.tables e below (T10.setTop (mkF m 84 #[.val (.int p1), .val (.int p2), .val (.int ((p1 &&& (7 : Int32)) + (1 : Int32))), .val (.ref b3), .val (.ref b6), .val (.int r3), .val (.int r3)] [(.int (1 : Int32))])) _
      exact retN X10 hx (t := .boolean) Bd.returns (by simp) (hb hby at_84) hr
    · show Q0 Z p1 p2 h0 n0 _ T10.heap _
      exact ⟨rfl, N10⟩
set_option maxRecDepth 65536 in
set_option maxHeartbeats 40000000 in
theorem comes_1 {Post : Tables → Env → Array Value → State → Outcome → State → Prop} (hpost : ∀ tb e args s v u, (limb_1_1.after args s (.returned v) u = true ∧ limb_1_2.after args s (.returned v) u = true ∧ True) → FrameEnd s (.returned v) u (Jvm.fieldLocs frame_1_writes args s ++ Jvm.arrayLocs frame_1_arrays args s ++ Jvm.staticLocs frame_1_statics s) 16 128 → Post tb e args s (.returned v) u) :
    ArmFor flags0 classFile x code maxLocals ret World_1 tables_1 room_1 Calls_1 rest_1 Pre_1 Post := by
  intro l hfl _ _ p e ha hc hk s m args below hf hA hF happ hP
  obtain ⟨hcalls, hrest, hpre⟩ := hP
  obtain ⟨-, -, -, hnamed, -, -, -, hat⟩ := (Spec.applies_iff hf).mp happ
  obtain ⟨hg, hn⟩ := and_e (Cond.before_iff.mp (show (Jvm.Cond.and given_1 narrow_1).before args s = true from hpre))
  obtain ⟨g11, g12⟩ := and_e hg
  obtain ⟨g13, g14⟩ := and_e g12
  obtain ⟨w0, w1, rfl⟩ : ∃ w0 w1 : Value, args = #[w0, w1] := by
    have hs : args.size = 2 := by simpa [Cond.value, given_1] using g11
    obtain ⟨L⟩ := args
    match L, hs with
    | [w0, w1], _ => exact ⟨w0, w1, rfl⟩
  have hw := fun d (hd : d ∈ tables_1) => atoms_spec (ws := Jvm.Cond.code x code maxLocals ret :: tables_1) hat d (List.mem_cons_of_mem _ hd)
  have hfit : Fit s := fun {y c} hc i hi => by
    obtain ⟨ha, rfl⟩ := Array.getElem?_eq_some_iff.mp hc
    have q := List.all_eq_true.mp ((Array.all_eq_true_iff_forall_mem.mp hF) _ (Array.getElem_mem ha)) i (List.mem_range.mpr hi)
    simpa [Array.getElem?_eq_getElem hi] using q
  obtain ⟨i0, ei0⟩ := is_v g13
  obtain rfl : w0 = (.int i0) := Option.some.inj ei0
  obtain ⟨i1, ei1⟩ := is_v g14
  obtain rfl : w1 = (.int i1) := Option.some.inj ei1
  obtain ⟨n, o, h1, h2, h3, _, L, rfl, ⟨rfl, N⟩, hq⟩ := rm0 l s _ hw tables_1 i0 i1 s.heap s.heap.size (Nat.le_refl _) p e ha hc hk s m _ below hf ((Spec.applies_iff_loose hf).mp happ).1 ⟨rfl, State.Warmed39.refl s, rfl⟩ trivial
  refine ⟨n, _, h1, h2, h3, hpost _ _ _ _ _ _ ⟨Cond.after_iff.mpr rfl, Cond.after_iff.mpr (eq_i res_at (Term.int_eval (1)) rfl), trivial⟩ ⟨hq.1, hq.2.1, (hq.2.2.sift fun y hy => Or.inr (N y hy)).mono (by decide) (by decide)⟩⟩
theorem main_1_1 : Claimed_1_1 := comes_1 fun _ _ _ _ _ _ h hF => ⟨h.1, hF⟩
theorem main_1_2 : Claimed_1_2 := comes_1 fun _ _ _ _ _ _ h hF => ⟨h.2.1, hF⟩
end Jvm.Pilot.@@N@@
namespace Jvm.Pilot.@@N@@
open Jvm Jvm.ClassFile Sem Op Lib Jvm.Free Jvm.Stand Jvm.Pilot.@@N@@.Jvm.D
/-! MADE BY PROGRAM (witnessworld.py) out of the Statement's table words and the real class files: 7 classes; the members and pool entries that the words name. The judged class is class 1, her method 2. -/
namespace start1
open Jvm.ClassFile
def u (s : String) : CpInfo := .utf8 (stringToUtf16 s)
/-- a pool by its gaps: so many unusable entries, then the entry; so many at the end -/
def gap : Nat → List CpInfo → List CpInfo
  | 0, r => r
  | n + 1, r => .unusable :: gap n r
def poolList (es : List (Nat × CpInfo)) (last : Nat) : List CpInfo := es.foldr (fun e r => gap e.1 (e.2 :: r)) (gap last [])
def pool (es : List (Nat × CpInfo)) (last : Nat) : Array CpInfo := ⟨poolList es last⟩
def fileOf (pool : Array CpInfo) (this : Nat) (attrs : Array Attribute := #[]) (ms : Array MethodInfo := #[]) (fl : Nat := 33) (sup : Nat := 0) (ifs : Array Nat := #[]) (fds : Array FieldInfo := #[]) : ClassFile where
  minorVersion := 0
  majorVersion := 65
  constantPool := pool
  accessFlags := fl
  thisClass := this
  superClass := sup
  interfaces := ifs
  fields := fds
  methods := ms
  attributes := attrs
def plain (name : String) (sup : Option ClassId) : Class where
  name := name
  kind := .ordinary
  loader := none
  accessFlags := 33
  super := sup
  interfaces := #[]
  cf := none
  fields := #[]
  methods := #[]
  instanceTypes := #[]
  staticTypes := #[]
  resolved := #[]
  callSites := []
  init := .initialized
  statics := none
  mirror := none

def pool0 : Array CpInfo := pool [(5, u "<init>"), (0, u "()V"), (1, .class_ 10), (1, u "java/lang/Object")] 113

def k0c0 : Code := { maxStack := 0, maxLocals := 1, code := object_method_1_code, exceptionTable := #[], attributes := #[] }
def k0m0 : Method := { name := "<init>", desc := "()V", sig := { parameters := [], returnType := none }, accessFlags := 1, code := some k0c0 }
/-- java/lang/Object -/
def k0 : Class := { plain "java/lang/Object" none with
  accessFlags := 33
  interfaces := #[]
  cf := some (fileOf pool0 8 #[] #[{ accessFlags := 1, nameIndex := 5, descriptorIndex := 6, attributes := #[] }] 33 0 #[] #[])
  fields := #[]
  methods := #[k0m0]
  instanceTypes := #[]
  staticTypes := #[]
  resolved := Array.replicate 124 none
  statics := none }

def pool1 : Array CpInfo := pool [(2, .class_ 4), (1, u "java/lang/Object"), (0, u "<init>"), (0, u "()V"), (0, .integer 1073741823), (0, .integer 1073741824), (0, .class_ 10), (0, u "com/example/plainwire/plainwire/store/RecordReader"), (0, .methodref 9 12), (0, .nameAndType 5 13), (0, u "([BI)V"), (0, .methodref 9 15), (0, .nameAndType 16 17), (0, u "deletesLinks"), (0, u "()Z"), (0, .methodref 19 20), (0, .class_ 21), (0, .nameAndType 22 23), (0, u "com/example/plainwire/plainwire/store/RecordReaderDeletesLinksPinLaw"), (0, u "expected"), (0, u "(I)Z"), (3, u "law"), (0, u "(II)Z")] 4

def k1m0 : Method := { name := "<init>", desc := "()V", sig := { parameters := [], returnType := none }, accessFlags := 2, code := none }
def k1c1 : Code := { maxStack := 2, maxLocals := 1, code := method_2_code, exceptionTable := #[], attributes := #[] }
def k1m1 : Method := { name := "expected", desc := "(I)Z", sig := { parameters := [.int], returnType := some .boolean }, accessFlags := 10, code := some k1c1 }
def k1c2 : Code := { maxStack := 5, maxLocals := 7, code := code, exceptionTable := #[], attributes := #[] }
def k1m2 : Method := { name := "law", desc := "(II)Z", sig := { parameters := [.int, .int], returnType := some .boolean }, accessFlags := 9, code := some k1c2 }
/-- com/example/plainwire/plainwire/store/RecordReaderDeletesLinksPinLaw -/
def k1 : Class := { plain "com/example/plainwire/plainwire/store/RecordReaderDeletesLinksPinLaw" (some 0) with
  accessFlags := 49
  interfaces := #[]
  cf := some (fileOf pool1 19 #[] #[{ accessFlags := 2, nameIndex := 5, descriptorIndex := 6, attributes := #[] }, { accessFlags := 10, nameIndex := 22, descriptorIndex := 23, attributes := #[] }, { accessFlags := 9, nameIndex := 27, descriptorIndex := 28, attributes := #[] }] 49 2 #[] #[])
  fields := #[]
  methods := #[k1m0, k1m1, k1m2]
  instanceTypes := #[]
  staticTypes := #[]
  resolved := Array.replicate 33 none
  statics := none }

def pool2 : Array CpInfo := pool [(1, .methodref 2 3), (0, .class_ 4), (0, .nameAndType 5 6), (0, u "java/lang/Object"), (0, u "<init>"), (0, u "()V"), (0, .fieldref 8 9), (0, .class_ 10), (0, .nameAndType 11 12), (0, u "com/example/plainwire/plainwire/store/RecordReader"), (0, u "record"), (0, u "[B"), (0, .fieldref 8 14), (0, .nameAndType 15 16), (0, u "format"), (0, u "I"), (4, u "next"), (0, .class_ 23), (0, u "com/example/plainwire/plainwire/store/RecordReader$DamagedRecordException"), (106, u "([BI)V"), (13, u "deletesLinks"), (0, u "()Z")] 30

def k2c0 : Code := { maxStack := 2, maxLocals := 3, code := prog_48_method_1_code, exceptionTable := #[], attributes := #[] }
def k2m0 : Method := { name := "<init>", desc := "([BI)V", sig := { parameters := [(.array .byte), .int], returnType := none }, accessFlags := 0, code := some k2c0 }
def k2c1 : Code := { maxStack := 2, maxLocals := 1, code := prog_48_method_10_code, exceptionTable := #[], attributes := #[] }
def k2m1 : Method := { name := "deletesLinks", desc := "()Z", sig := { parameters := [], returnType := some .boolean }, accessFlags := 0, code := some k2c1 }
/-- com/example/plainwire/plainwire/store/RecordReader -/
def k2 : Class := { plain "com/example/plainwire/plainwire/store/RecordReader" (some 0) with
  accessFlags := 48
  interfaces := #[]
  cf := some (fileOf pool2 8 #[.nestMembers #[22]] #[{ accessFlags := 0, nameIndex := 5, descriptorIndex := 130, attributes := #[] }, { accessFlags := 0, nameIndex := 144, descriptorIndex := 145, attributes := #[] }] 48 2 #[] #[{ accessFlags := 18, nameIndex := 11, descriptorIndex := 12, attributes := #[] }, { accessFlags := 18, nameIndex := 15, descriptorIndex := 16, attributes := #[] }, { accessFlags := 2, nameIndex := 21, descriptorIndex := 16, attributes := #[] }])
  fields := #[{ name := "record", type := (.array .byte), accessFlags := 18, slot := 0, constantValue := 0 }, { name := "format", type := .int, accessFlags := 18, slot := 1, constantValue := 0 }, { name := "next", type := .int, accessFlags := 2, slot := 2, constantValue := 0 }]
  methods := #[k2m0, k2m1]
  instanceTypes := #[(.array .byte), .int, .int]
  staticTypes := #[]
  resolved := Array.replicate 176 none
  statics := none }

def pool3 : Array CpInfo := pool [(1, u "java/lang/Cloneable"), (0, .class_ 1), (0, u "java/lang/Object"), (0, .class_ 3)] 3

/-- java/lang/Cloneable -/
def k3 : Class := { plain "java/lang/Cloneable" (some 0) with
  accessFlags := 1537
  interfaces := #[]
  cf := some (fileOf pool3 2 #[] #[] 1537 4 #[] #[])
  fields := #[]
  methods := #[]
  instanceTypes := #[]
  staticTypes := #[]
  resolved := Array.replicate 8 none
  statics := none }

def pool4 : Array CpInfo := pool [(1, u "java/io/Serializable"), (0, .class_ 1), (0, u "java/lang/Object"), (0, .class_ 3)] 3

/-- java/io/Serializable -/
def k4 : Class := { plain "java/io/Serializable" (some 0) with
  accessFlags := 1537
  interfaces := #[]
  cf := some (fileOf pool4 2 #[] #[] 1537 4 #[] #[])
  fields := #[]
  methods := #[]
  instanceTypes := #[]
  staticTypes := #[]
  resolved := Array.replicate 8 none
  statics := none }

/-- the primitive byte -/
def k5 : Class := { plain "byte" none with kind := .primitive 'B', accessFlags := 0x411 }
/-- [B -/
def k6 : Class := { plain "[B" (some 0) with kind := .array 5 .byte, interfaces := #[3, 4], accessFlags := 1041 }

def heap : Heap := #[]
def classes : Array Class := #[k0, k1, k2, k3, k4, k5, k6]
def interned : List (Array UInt16 × Addr) := []
def slotsUsed : Nat := 0
def theMethod : MethodId := ⟨1, 2⟩
def args0 : Array Value := #[.int 5, .int 7]
def aboutOver (below : List Frame) : State where
  vm := { classes := classes, interned := interned.toArray }
  heap := heap
  slotsUsed := slotsUsed
  threads := #[{ frames := .invoking theMethod args0 :: below }]
def below0 : List Frame := [.native { method := ⟨0, 0⟩, args := #[] }]
def about1 : State := aboutOver below0
def p0 : Program := .bare "" "" ""
def e0 : Env := launch0.env 0 0 0
theorem w_frames : about1.frames = Frame.invoking theMethod args0 :: below0 := rfl
set_option maxRecDepth 65536 in
theorem w_args : argsFit about1.vm theMethod args0 = true := by decide +kernel
set_option maxRecDepth 65536 in
theorem w_heap : heapFits about1 = true := by decide +kernel
set_option maxRecDepth 65536 in
theorem w_runnable : about1.curStatus? = some .runnable := by decide +kernel
set_option maxRecDepth 65536 in
theorem w_alone : about1.alone = true := by decide +kernel
set_option maxRecDepth 65536 in
theorem w_named : about1.methodNamed? x = some theMethod := by decide +kernel
set_option maxRecDepth 65536 in
theorem w_hears : about1.hears theMethod below0 = true := by decide +kernel
set_option maxRecDepth 65536 in
theorem w_ripe : about1.ripe theMethod args0 below0 = true := by decide +kernel
theorem w_running : about1.status = .running := rfl
set_option maxRecDepth 65536 in
theorem w_room : about1.hasRoom e0.platform room_1 = true :=
  launch0.hasRoom_least _ room_1 (by decide +kernel) (by decide +kernel) (by decide +kernel) (by decide +kernel) (by decide +kernel) (by decide +kernel)
theorem allAtoms_all (ts : List Jvm.Cond) (a : Array Jvm.Value) (st : Jvm.State) : (allAtoms ts).before a st = ts.all (fun c => c.before a st) := by
  induction ts with
  | nil => rfl
  | cons c t ih =>
    show (Jvm.Cond.and c (allAtoms t)).before a st = _
    rw [Jvm.Cond.before_and, ih, List.all_cons]
def words1 : List Jvm.Cond := Jvm.Cond.code x code maxLocals ret :: tables_1
/-- a 'code' word, met by the world's own term for the bytes: nothing is compared byte by byte -/
theorem code_word {y : MethodName} {bytes : ByteArray} {mx : Nat} {rt : Option FieldType} {a : Array Value} {s : State} {m : MethodId} {meth : Method} {c : Code} (h1 : s.methodNamed? y = some m) (h2 : s.vm.method? m = some meth) (h3 : meth.code = some c) (h4 : c.code = bytes)
    (h5 : (c.maxLocals == mx && c.exceptionTable.isEmpty && decide (c.maxStack ≤ mostOperands) && decide (meth.sig.returnType = rt) && !meth.locks && decide (parseMethodDescriptor y.desc = some meth.sig)) = true) : (Jvm.Cond.code y bytes mx rt).before a s = true := by
  simp only [Bool.and_eq_true, beq_iff_eq, Bool.not_eq_true', decide_eq_true_eq] at h5
  obtain ⟨⟨⟨⟨⟨g1, g2⟩, g3⟩, g4⟩, g5⟩, g6⟩ := h5
  simp [Cond.before, Cond.holds, Cond.value, h1, h2, h3, h4, g1, g2, g3, g4, g5, g6]
def isCode : Jvm.Cond → Bool
  | .code _ _ _ _ => true
  | _ => false
theorem all_split {L : List Jvm.Cond} {P : Jvm.Cond → Bool} (h1 : L.all (fun c => isCode c || P c) = true) (h2 : ∀ c ∈ L.filter isCode, P c = true) : L.all P = true := by
  refine List.all_eq_true.mpr fun c hc => ?_
  have h := List.all_eq_true.mp h1 c hc
  rcases Bool.eq_false_or_eq_true (isCode c) with hi | hi
  · exact h2 c (List.mem_filter.mpr ⟨hc, hi⟩)
  · simpa [hi] using h
set_option maxRecDepth 65536 in
theorem w_c0 : (Jvm.Cond.code x code maxLocals ret).before args0 about1 = true := code_word (m := ⟨1, 2⟩) (meth := k1m2) (c := k1c2) (by decide +kernel) rfl rfl rfl (by decide +kernel)
set_option maxRecDepth 65536 in
theorem w_c1 : (Jvm.Cond.code ({ cls := "com/example/plainwire/plainwire/store/RecordReader", name := "<init>", desc := "([BI)V" } : Jvm.MethodName) prog_48_method_1_code (3 : Nat) (Option.none : Option Jvm.ClassFile.FieldType)).before args0 about1 = true := code_word (m := ⟨2, 0⟩) (meth := k2m0) (c := k2c0) (by decide +kernel) rfl rfl rfl (by decide +kernel)
set_option maxRecDepth 65536 in
theorem w_c2 : (Jvm.Cond.code ({ cls := "java/lang/Object", name := "<init>", desc := "()V" } : Jvm.MethodName) object_method_1_code (1 : Nat) (Option.none : Option Jvm.ClassFile.FieldType)).before args0 about1 = true := code_word (m := ⟨0, 0⟩) (meth := k0m0) (c := k0c0) (by decide +kernel) rfl rfl rfl (by decide +kernel)
set_option maxRecDepth 65536 in
theorem w_c3 : (Jvm.Cond.code ({ cls := "com/example/plainwire/plainwire/store/RecordReader", name := "deletesLinks", desc := "()Z" } : Jvm.MethodName) prog_48_method_10_code (1 : Nat) (Option.some Jvm.ClassFile.FieldType.boolean)).before args0 about1 = true := code_word (m := ⟨2, 1⟩) (meth := k2m1) (c := k2c1) (by decide +kernel) rfl rfl rfl (by decide +kernel)
set_option maxRecDepth 65536 in
theorem w_c4 : (Jvm.Cond.code ({ cls := "com/example/plainwire/plainwire/store/RecordReaderDeletesLinksPinLaw", name := "expected", desc := "(I)Z" } : Jvm.MethodName) method_2_code (1 : Nat) (Option.some Jvm.ClassFile.FieldType.boolean)).before args0 about1 = true := code_word (m := ⟨1, 1⟩) (meth := k1m1) (c := k1c1) (by decide +kernel) rfl rfl rfl (by decide +kernel)
def codes1 : List Jvm.Cond := [Jvm.Cond.code x code maxLocals ret, Jvm.Cond.code ({ cls := "com/example/plainwire/plainwire/store/RecordReader", name := "<init>", desc := "([BI)V" } : Jvm.MethodName) prog_48_method_1_code (3 : Nat) (Option.none : Option Jvm.ClassFile.FieldType), Jvm.Cond.code ({ cls := "java/lang/Object", name := "<init>", desc := "()V" } : Jvm.MethodName) object_method_1_code (1 : Nat) (Option.none : Option Jvm.ClassFile.FieldType), Jvm.Cond.code ({ cls := "com/example/plainwire/plainwire/store/RecordReader", name := "deletesLinks", desc := "()Z" } : Jvm.MethodName) prog_48_method_10_code (1 : Nat) (Option.some Jvm.ClassFile.FieldType.boolean), Jvm.Cond.code ({ cls := "com/example/plainwire/plainwire/store/RecordReaderDeletesLinksPinLaw", name := "expected", desc := "(I)Z" } : Jvm.MethodName) method_2_code (1 : Nat) (Option.some Jvm.ClassFile.FieldType.boolean)]
set_option maxRecDepth 65536 in
theorem codes_eq : words1.filter isCode = codes1 := rfl
theorem w_codes : ∀ c ∈ words1.filter isCode, c.before args0 about1 = true := by
  rw [codes_eq]
  intro c hc
  simp only [codes1, List.mem_cons, List.not_mem_nil, or_false] at hc
  rcases hc with rfl | rfl | rfl | rfl | rfl
  · exact w_c0
  · exact w_c1
  · exact w_c2
  · exact w_c3
  · exact w_c4
set_option maxRecDepth 65536 in
theorem w_t1 : (words1.take 24).all (fun c => isCode c || c.before args0 about1) = true := by decide +kernel
set_option maxRecDepth 65536 in
theorem w_t2 : (words1.drop 24).all (fun c => isCode c || c.before args0 about1) = true := by decide +kernel
theorem w_tables : (allAtoms (Jvm.Cond.code x code maxLocals ret :: tables_1)).before args0 about1 = true := by
  rw [allAtoms_all]
  show words1.all (fun c => c.before args0 about1) = true
  refine all_split ?_ w_codes
  rw [← List.take_append_drop 24 words1, List.all_append, w_t1, w_t2]
  rfl
set_option maxRecDepth 65536 in
theorem w_case : (Jvm.Cond.and given_1 narrow_1).before args0 about1 = true := by decide +kernel
theorem w_applies : (headSpec (Jvm.Cond.code x code maxLocals ret :: tables_1) room_1).applies x e0.platform about1 = true :=
  (Spec.applies_iff w_frames).mpr ⟨w_running, w_runnable, w_alone, w_named, w_hears, w_ripe, w_room, w_tables⟩
theorem atStart : AtStart classFile x code maxLocals ret World_1 tables_1 room_1 Calls_1 rest_1 Pre_1 launch0 p0 e0 about1 theMethod args0 below0 :=
  ⟨lists_1, trivial, launch0.admits_env _ _ _, launch0.least_env, fairChoices_fair.cas, fairChoices_fair.clock, w_frames, w_args, w_heap, w_applies, trivial, trivial, w_case⟩
end start1
theorem witness_1 : WitnessClaimed_1 := ⟨start1.p0, start1.e0, start1.about1, start1.theMethod, start1.args0, start1.below0, start1.atStart⟩
end Jvm.Pilot.@@N@@
