import JvmDerived
import JvmDerived.Pilot.@@N@@Statement
import JvmDerived.Pilot.@@N@@Code
set_option linter.unusedVariables false
set_option linter.unusedSimpArgs false
namespace Jvm.RoadKit
open Sem ClassFile Op Lib Jvm.Stand Jvm.Free Jvm.LawKit
section New
variable {p : Program} {l : Launch} {e : Env} {R : Room} {s : State} {m : MethodId} {args : Array Value} {below : List Frame} {meth : Method} {c : Code} {T : State} {locs : List Loc} {cells slots : Nat}
theorem retI (X : Stand p l e R s m args below meth c T locs cells slots) (hx : p.tables.exec = Jvm.exec) {pc : Nat} {Ls : Array Slot} {z : Int32} {rest : List Value} (hret : meth.sig.returnType = some .int) (hd : decode c.code pc = .ok (.ireturn, 1)) {fs : List Frame}
    (hl : ∀ (f : JFrame) (acts : List Action), f.method = m → f.locked = none → f.entered = [] → (doReturn e (T.setTop f) acts (some (.int z))).1 = T.setFrames fs) : Steps p.tables e below (T.setTop (mkF m pc Ls (.int z :: rest))) (T.setFrames fs) := by
  have hm' : T.vm.method? m = some meth := X.method'
  have hn : narrow .int (.int z) = .int z := rfl
  show Steps p.tables e below (T.setTop { method := m, pc := pc, locals := Ls, stack := _ :: rest, locked := none }) _
  jvm_step X.here [X.here.top, hx, hd, hm', hret, hn]
  first | (intro acts; rw [hl _ acts rfl rfl rfl]) | rw [hl _ _ rfl rfl rfl]
  exact Steps.refl _
end New
end Jvm.RoadKit
namespace Jvm.Pilot.@@N@@
open Jvm Jvm.ClassFile Sem Op Lib Jvm.Free Jvm.Stand Jvm.LawKit Jvm.RoadKit Bundle Jvm.Pilot.@@N@@.Jvm.D
theorem d1_0 : decode prog_36_method_1_code 0 = .ok (.aload_n 0, 1) := by decide +kernel
theorem d1_1 : decode prog_36_method_1_code 1 = .ok (.invokespecial 1, 3) := by decide +kernel
theorem d1_4 : decode prog_36_method_1_code 4 = .ok (.aload_n 0, 1) := by decide +kernel
theorem d1_5 : decode prog_36_method_1_code 5 = .ok (.sipush 4096, 3) := by decide +kernel
theorem d1_8 : decode prog_36_method_1_code 8 = .ok (.newarray .int, 2) := by decide +kernel
theorem d1_10 : decode prog_36_method_1_code 10 = .ok (.putfield 9, 3) := by decide +kernel
theorem d1_13 : decode prog_36_method_1_code 13 = .ok (.aload_n 0, 1) := by decide +kernel
theorem d1_14 : decode prog_36_method_1_code 14 = .ok (.sipush 1024, 3) := by decide +kernel
theorem d1_17 : decode prog_36_method_1_code 17 = .ok (.newarray .int, 2) := by decide +kernel
theorem d1_19 : decode prog_36_method_1_code 19 = .ok (.putfield 15, 3) := by decide +kernel
theorem d1_22 : decode prog_36_method_1_code 22 = .ok (.return_, 1) := by decide +kernel
theorem pn_1 : plainName "com/example/surfwalk/surfwalk/Surfer$Paths" = true := by first | (simp [plainName, overriddenIn]; done) | decide +kernel
theorem ef_1 (m : MethodId) (x0 : Addr) : entryFrame m #[(.ref x0)] 1 = mkF m 0 #[.val (.ref x0)] [] := by first | (simp [entryFrame, mkF, argsToLocals, Value.category]; done) | rfl
def Q1 (Z : State) (a1 : Addr) (h0 : Heap) (n0 : Nat) (v : Option Value) (h : Heap) (L : List Loc) : Prop := v = none ∧ Fr n0 L ∧ Keep h0 h [a1] ∧ Exa Z h a1 "com/example/surfwalk/surfwalk/Surfer$Paths" ∧ Fld Z h a1 "com/example/surfwalk/surfwalk/Surfer$Paths" "count" "I" (.int (0 : Int32)) ∧ ∃ (bp be : Addr) (kp ke : ClassId), h0.size ≤ bp ∧ h0.size ≤ be ∧ bp ≠ be ∧ Fld Z h a1 "com/example/surfwalk/surfwalk/Surfer$Paths" "pages" "[I" (.ref bp) ∧ Fld Z h a1 "com/example/surfwalk/surfwalk/Surfer$Paths" "ends" "[I" (.ref be) ∧ Arv Z h bp kp .int (4096 : Int32) (List.replicate 48 (.int (0 : Int32))) (.int (0 : Int32)) ∧ Arv Z h be ke .int (1024 : Int32) [(.int (0 : Int32)), (.int (0 : Int32)), (.int (0 : Int32))] (.int (0 : Int32))
set_option maxRecDepth 65536 in
set_option maxHeartbeats 40000000 in
theorem rm1 (l : Launch) (Z : State) (a0 : Array Value) (hw : ∀ d ∈ tables_1, d.before a0 Z = true) (ws : List Jvm.Cond) (a1 : Addr) (u_pages_a1 : Value) (u_ends_a1 : Value) (h0 : Heap) (n0 : Nat) (Z0 : n0 ≤ h0.size) (E_a1 : Exa Z h0 a1 "com/example/surfwalk/surfwalk/Surfer$Paths") (F_pages_a1 : Fld Z h0 a1 "com/example/surfwalk/surfwalk/Surfer$Paths" "pages" "[I" u_pages_a1) (g_a1 : n0 ≤ a1) (F_ends_a1 : Fld Z h0 a1 "com/example/surfwalk/surfwalk/Surfer$Paths" "ends" "[I" u_ends_a1) (F_count_a1 : Fld Z h0 a1 "com/example/surfwalk/surfwalk/Surfer$Paths" "count" "I" (.int (0 : Int32))) :
    MetFree l (⟨"com/example/surfwalk/surfwalk/Surfer$Paths", "<init>", "()V"⟩ : MethodName) (head1 (Jvm.Cond.code (⟨"com/example/surfwalk/surfwalk/Surfer$Paths", "<init>", "()V"⟩ : MethodName) prog_36_method_1_code 1 none :: ws) ({ frames := 1, cells := 2, slots := 5120, locals := 12 } : Room)) (fun a U => a = #[(.ref a1)] ∧ Z.Warmed39 U.vm ∧ U.heap = h0) (fun _ _ _ _ _ => True) (fun _ U o U' => ∃ v L, o = .returned v ∧ Q1 Z a1 h0 n0 v U'.heap L ∧ FrameEnd U o U' L ({ frames := 1, cells := 2, slots := 5120, locals := 12 } : Room).cells ({ frames := 1, cells := 2, slots := 5120, locals := 12 } : Room).slots) := by
  refine MetFree.of_bodySF (plainFor_of_name pn_1) hisR ?_
  intro p e s m args below meth c s₁ Bd hml0 hP hK
  obtain ⟨rfl, hZ, hh⟩ := hP
  have hx := Bd.exec
  have hby := Bd.bytes
  have hml : c.maxLocals = 1 := hml0
  have hown : s.vm.findClass "com/example/surfwalk/surfwalk/Surfer$Paths" = some m.cls := findClass_of_methodNamed Bd.named
  have hnm := (name_of_methodNamed Bd.named Bd.method).1
  have X0 : Stand p l e ({ frames := 1, cells := 2, slots := 5120, locals := 12 } : Room) s m #[(.ref a1)] below meth c s₁ [] 0 0 := Stand.of_body Bd
  have e0 : s₁.heap = h0 := by rw [← hh, Bd.state]; rfl
  have N0 := Fr.nil n0
  have pre0 : ∀ t, Steps p.tables e below (s₁.setTop (mkF m 0 #[.val (.ref a1)] [])) t → Steps p.tables e below (s₁.setTop (entryFrame m #[(.ref a1)] 1)) t := fun t k => castTop (ef_1 m a1) k
  obtain ⟨T2, X2, e2, st2⟩ := initO X0 hx hZ hown (hw _ (List.mem_of_getElem? (i := 7) rfl)) (hw _ (List.mem_of_getElem? (i := 8) rfl)) (hw _ (List.mem_of_getElem? (i := 9) rfl)) e0 (g := (mkF m 1 #[.val (.ref a1)] [(.ref a1)])) rfl (by rw [hml]; rfl) rfl (hb hby d1_1) (by decide) (W := 0) (by show 2 * 0 + _ ≤ _; exact Nat.le_of_eq rfl) (by decide)
  obtain ⟨T3, h3, k3, X3, e3, E3, A3, st3⟩ := newP X2 hx hZ (hw _ (List.mem_of_getElem? (i := 0) rfl)) e2 (g := (mkF m 8 #[.val (.ref a1)] [(.int (4096 : Int32)), (.ref a1)])) rfl (hb hby d1_8) rfl (by decide) (cap := 4096) (by decide) (by decide) (by decide) (by decide)
  obtain ⟨b3, g3⟩ : ∃ z, z = h0.size := ⟨_, rfl⟩
  rw [← g3] at A3 st3
  have V_b3 := Arv.new A3 (by decide)
  have g_b3 : n0 ≤ b3 := Nat.le_trans Z0 (Nat.le_of_eq g3.symm)
  have sz_b3 : h0.size ≤ b3 := (Nat.le_trans (Keep.refl h0 [a1]).1 (Nat.le_of_eq g3.symm))
  have K3 : Keep h0 h3 [a1] := (Keep.refl h0 [a1]).ext E3
  obtain ⟨T4, h4, X4, e4, W4, st4⟩ := putF X3 hx hZ hown (host := "") (Or.inl (hw _ (List.mem_of_getElem? (i := 10) rfl))) Via.refl e3 (F_pages_a1.ext E3) (E_a1.ext E3) (Or.inl (hw _ (List.mem_of_getElem? (i := 11) rfl))) (hw _ (List.mem_of_getElem? (i := 2) rfl)) (ty := (.array .int)) (by decide) rfl rfl (g := (mkF m 10 #[.val (.ref a1)] [(.ref b3), (.ref a1)])) rfl rfl (hb hby d1_10)
  have Fw4 := (F_pages_a1.ext E3).same W4
  have K4 : Keep h0 h4 [a1] := K3.wr W4 (Or.inl (List.mem_of_getElem? (i := 0) rfl))
  have N4 := Fr.snoc X4 N0 g_a1
  obtain ⟨T5, h5, k5, X5, e5, E5, A5, st5⟩ := newP X4 hx hZ (hw _ (List.mem_of_getElem? (i := 0) rfl)) e4 (g := (mkF m 17 #[.val (.ref a1)] [(.int (1024 : Int32)), (.ref a1)])) rfl (hb hby d1_17) rfl (by decide) (cap := 1024) (by decide) (by decide) (by decide) (by decide)
  obtain ⟨b5, g5⟩ : ∃ z, z = h4.size := ⟨_, rfl⟩
  rw [← g5] at A5 st5
  have V_b5 := Arv.new A5 (by decide)
  have g_b5 : n0 ≤ b5 := Nat.le_trans (Nat.le_trans (Nat.le_trans Z0 E3.1) (Keep.of_wr W4).1) (Nat.le_of_eq g5.symm)
  have sz_b5 : h0.size ≤ b5 := (Nat.le_trans K4.1 (Nat.le_of_eq g5.symm))
  have K5 : Keep h0 h5 [a1] := K4.ext E5
  obtain ⟨T6, h6, X6, e6, W6, st6⟩ := putF X5 hx hZ hown (host := "") (Or.inl (hw _ (List.mem_of_getElem? (i := 12) rfl))) Via.refl e5 (((F_ends_a1.ext E3).other W4 (Or.inr (slot_ne (Or.inr (hw _ (List.mem_of_getElem? (i := 13) rfl))) (Or.inl (hw _ (List.mem_of_getElem? (i := 11) rfl))) (by decide) (t := (.array .int)) (t' := (.array .int)) (by decide) (by decide)))).ext E5) (((E_a1.ext E3).wr W4).ext E5) (Or.inr ⟨(hw _ (List.mem_of_getElem? (i := 13) rfl)), rfl, hnm⟩) (hw _ (List.mem_of_getElem? (i := 2) rfl)) (ty := (.array .int)) (by decide) rfl rfl (g := (mkF m 19 #[.val (.ref a1)] [(.ref b5), (.ref a1)])) rfl rfl (hb hby d1_19)
  have Fw6 := (((F_ends_a1.ext E3).other W4 (Or.inr (slot_ne (Or.inr (hw _ (List.mem_of_getElem? (i := 13) rfl))) (Or.inl (hw _ (List.mem_of_getElem? (i := 11) rfl))) (by decide) (t := (.array .int)) (t' := (.array .int)) (by decide) (by decide)))).ext E5).same W6
  have K6 : Keep h0 h6 [a1] := K5.wr W6 (Or.inl (List.mem_of_getElem? (i := 0) rfl))
  have N6 := Fr.snoc X6 N4 g_a1
  obtain ⟨fs, hr, hrun, hended, hW, hsame⟩ := X6.leave (v := none) (fun _ => rfl)
  refine ⟨_, _, pre0 _ ?_, hrun, hended, _, _, rfl, ?_, ⟨_, rfl⟩, hW, hsame.mono (by decide) (by decide)⟩
  · show Steps p.tables e below (s₁.setTop (mkF m 0 #[.val (.ref a1)] [])) _
    refine XS.aloadN X0.here hx rfl (hb hby d1_0) rfl rfl ?_
    show Steps p.tables e below (s₁.setTop (mkF m 1 #[.val (.ref a1)] [(.ref a1)])) _
    refine st2 _ ?_
    show Steps p.tables e below (T2.setTop (mkF m 4 #[.val (.ref a1)] [])) _
    refine XS.aloadN X2.here hx rfl (hb hby d1_4) rfl rfl ?_
    show Steps p.tables e below (T2.setTop (mkF m 5 #[.val (.ref a1)] [(.ref a1)])) _
    refine XS.sipush X2.here hx rfl (hb hby d1_5) ?_
    show Steps p.tables e below (T2.setTop (mkF m 8 #[.val (.ref a1)] [(.int (4096 : Int32)), (.ref a1)])) _
    refine st3 _ ?_
    show Steps p.tables e below (T3.setTop (mkF m 10 #[.val (.ref a1)] [(.ref b3), (.ref a1)])) _
    refine st4 _ ?_
    show Steps p.tables e below (T4.setTop (mkF m 13 #[.val (.ref a1)] [])) _
    refine XS.aloadN X4.here hx rfl (hb hby d1_13) rfl rfl ?_
    show Steps p.tables e below (T4.setTop (mkF m 14 #[.val (.ref a1)] [(.ref a1)])) _
    refine XS.sipush X4.here hx rfl (hb hby d1_14) ?_
    show Steps p.tables e below (T4.setTop (mkF m 17 #[.val (.ref a1)] [(.int (1024 : Int32)), (.ref a1)])) _
    refine st5 _ ?_
    show Steps p.tables e below (T5.setTop (mkF m 19 #[.val (.ref a1)] [(.ref b5), (.ref a1)])) _
    refine st6 _ ?_
    show Steps p.tables e below (T6.setTop (mkF m 22 #[.val (.ref a1)] [])) _
    exact X6.returnOut hx Bd.returns (hb hby d1_22) hr
  · show Q1 Z a1 h0 n0 _ T6.heap _
    rw [e6]
    have hb35 : b3 ≠ b5 := Nat.ne_of_lt (Nat.lt_of_lt_of_le ((V_b3.other W4 (Ne.symm (Nat.ne_of_lt (Nat.lt_of_lt_of_le E_a1.lt (Nat.le_of_eq g3.symm)))))).lt (Nat.le_of_eq g5.symm))
    have h3a : b3 ≠ a1 := Ne.symm (Nat.ne_of_lt (Nat.lt_of_lt_of_le E_a1.lt (Nat.le_of_eq g3.symm)))
    have h5a : b5 ≠ a1 := Ne.symm (Nat.ne_of_lt (Nat.lt_of_lt_of_le ((E_a1.ext E3).wr W4).lt (Nat.le_of_eq g5.symm)))
    have Vp3 : Arv Z h3 b3 k3 .int (4096 : Int32) (List.replicate 48 (.int (0 : Int32))) (.int (0 : Int32)) := V_b3.pad (pad_rep [] (.int (0 : Int32)) 48)
    have Ve5 : Arv Z h5 b5 k5 .int (1024 : Int32) [(.int (0 : Int32)), (.int (0 : Int32)), (.int (0 : Int32))] (.int (0 : Int32)) := V_b5.pad (pad_rep [] (.int (0 : Int32)) 3)
    refine ⟨rfl, N6, K6, ((((E_a1.ext E3).wr W4).ext E5).wr W6), ((((F_count_a1.ext E3).other W4 (Or.inr (slot_ne (Or.inl (hw _ (List.mem_of_getElem? (i := 26) rfl))) (Or.inl (hw _ (List.mem_of_getElem? (i := 11) rfl))) (by decide) (t := .int) (t' := (.array .int)) (by decide) (by decide)))).ext E5).other W6 (Or.inr (slot_ne (Or.inl (hw _ (List.mem_of_getElem? (i := 26) rfl))) (Or.inr (hw _ (List.mem_of_getElem? (i := 13) rfl))) (by decide) (t := .int) (t' := (.array .int)) (by decide) (by decide)))), b3, b5, k3, k5, sz_b3, sz_b5, hb35, ((Fw4.ext E5).other W6 (Or.inr (slot_ne (Or.inl (hw _ (List.mem_of_getElem? (i := 11) rfl))) (Or.inr (hw _ (List.mem_of_getElem? (i := 13) rfl))) (by decide) (t := (.array .int)) (t' := (.array .int)) (by decide) (by decide)))), Fw6, ?_, ?_⟩
    · exact ((Vp3.other W4 h3a).ext E5).other W6 h3a
    · exact Ve5.other W6 h5a
def Q3 (r : Int32) (h0 : Heap) (n0 : Nat) (v : Option Value) (h : Heap) (L : List Loc) : Prop := v = some (.int r) ∧ Fr n0 L ∧ h = h0
theorem d3_0 : decode prog_36_method_6_code 0 = .ok (.iload_n 1, 1) := by decide +kernel
theorem d3_1 : decode prog_36_method_6_code 1 = .ok (.ifCond .ge 7, 3) := by decide +kernel
theorem d3_4 : decode prog_36_method_6_code 4 = .ok (.iconst 0, 1) := by decide +kernel
theorem d3_5 : decode prog_36_method_6_code 5 = .ok (.goto 9, 3) := by decide +kernel
theorem d3_14 : decode prog_36_method_6_code 14 = .ok (.ireturn, 1) := by decide +kernel
theorem pn_3 : plainName "com/example/surfwalk/surfwalk/Surfer$Paths" = true := by first | (simp [plainName, overriddenIn]; done) | decide +kernel
theorem ef_3 (m : MethodId) (x0 : Addr) (x1 : Int32) : entryFrame m #[(.ref x0), (.int x1)] 2 = mkF m 0 #[.val (.ref x0), .val (.int x1)] [] := by first | (simp [entryFrame, mkF, argsToLocals, Value.category]; done) | rfl
set_option maxRecDepth 65536 in
set_option maxHeartbeats 40000000 in
theorem rm3n (l : Launch) (Z : State) (a0 : Array Value) (hw : ∀ d ∈ tables_1, d.before a0 Z = true) (ws : List Jvm.Cond) (a1 : Addr) (p2 : Int32) (h0 : Heap) (n0 : Nat) (Z0 : n0 ≤ h0.size) (hc1 : p2 < (0 : Int32)) :
    MetFree l (⟨"com/example/surfwalk/surfwalk/Surfer$Paths", "end", "(I)I"⟩ : MethodName) (head1 (Jvm.Cond.code (⟨"com/example/surfwalk/surfwalk/Surfer$Paths", "end", "(I)I"⟩ : MethodName) prog_36_method_6_code 2 (some .int) :: ws) ({ frames := 0, cells := 0, slots := 0, locals := 0 } : Room)) (fun a U => a = #[(.ref a1), (.int p2)] ∧ Z.Warmed39 U.vm ∧ U.heap = h0) (fun _ _ _ _ _ => True) (fun _ U o U' => ∃ v L, o = .returned v ∧ Q3 (0 : Int32) h0 n0 v U'.heap L ∧ FrameEnd U o U' L ({ frames := 0, cells := 0, slots := 0, locals := 0 } : Room).cells ({ frames := 0, cells := 0, slots := 0, locals := 0 } : Room).slots) := by
  refine MetFree.of_bodySF (plainFor_of_name pn_3) hisR ?_
  intro p e s m args below meth c s₁ Bd hml0 hP hK
  obtain ⟨rfl, hZ, hh⟩ := hP
  have hx := Bd.exec
  have hby := Bd.bytes
  have hml : c.maxLocals = 2 := hml0
  have hown : s.vm.findClass "com/example/surfwalk/surfwalk/Surfer$Paths" = some m.cls := findClass_of_methodNamed Bd.named
  have hnm := (name_of_methodNamed Bd.named Bd.method).1
  have X0 : Stand p l e ({ frames := 0, cells := 0, slots := 0, locals := 0 } : Room) s m #[(.ref a1), (.int p2)] below meth c s₁ [] 0 0 := Stand.of_body Bd
  have e0 : s₁.heap = h0 := by rw [← hh, Bd.state]; rfl
  have N0 := Fr.nil n0
  have pre0 : ∀ t, Steps p.tables e below (s₁.setTop (mkF m 0 #[.val (.ref a1), .val (.int p2)] [])) t → Steps p.tables e below (s₁.setTop (entryFrame m #[(.ref a1), (.int p2)] 2)) t := fun t k => castTop (ef_3 m a1 p2) k
  obtain ⟨fs, hr, hrun, hended, hW, hsame⟩ := X0.leave (v := some (.int (0 : Int32))) (fun h => by rw [Bd.returns] at h; cases h)
  refine ⟨_, _, pre0 _ ?_, hrun, hended, _, _, rfl, ?_, ⟨_, rfl⟩, hW, hsame.mono (by decide) (by decide)⟩
  · show Steps p.tables e below (s₁.setTop (mkF m 0 #[.val (.ref a1), .val (.int p2)] [])) _
    refine XS.iloadN X0.here hx rfl (hb hby d3_0) rfl ?_
    show Steps p.tables e below (s₁.setTop (mkF m 1 #[.val (.ref a1), .val (.int p2)] [(.int p2)])) _
    refine XS.ifNo X0.here hx rfl (hb hby d3_1) rfl ((if0 _ _).trans (tlt hc1).2.1) ?_
    show Steps p.tables e below (s₁.setTop (mkF m 4 #[.val (.ref a1), .val (.int p2)] [])) _
    refine XS.iconst X0.here hx rfl (hb hby d3_4) ?_
    show Steps p.tables e below (s₁.setTop (mkF m 5 #[.val (.ref a1), .val (.int p2)] [(.int (0 : Int32))])) _
    refine XS.goto X0.here hx rfl (pc0 := 5) (pc' := 14) rfl (hb hby d3_5) (by decide) (by decide) ?_
    show Steps p.tables e below (s₁.setTop (mkF m 14 #[.val (.ref a1), .val (.int p2)] [(.int (0 : Int32))])) _
    exact retI X0 hx Bd.returns (hb hby d3_14) hr
  · show Q3 (0 : Int32) h0 n0 _ s₁.heap _
    rw [e0]
    exact ⟨rfl, N0, rfl⟩
theorem d3_8 : decode prog_36_method_6_code 8 = .ok (.aload_n 0, 1) := by decide +kernel
theorem d3_9 : decode prog_36_method_6_code 9 = .ok (.getfield 15, 3) := by decide +kernel
theorem d3_12 : decode prog_36_method_6_code 12 = .ok (.iload_n 1, 1) := by decide +kernel
theorem d3_13 : decode prog_36_method_6_code 13 = .ok (.iaload, 1) := by decide +kernel
set_option maxRecDepth 65536 in
set_option maxHeartbeats 40000000 in
theorem rm3a (l : Launch) (Z : State) (a0 : Array Value) (hw : ∀ d ∈ tables_1, d.before a0 Z = true) (ws : List Jvm.Cond) (a1 : Addr) (p2 : Int32) (w3 : Addr) (w5 : Int32) (cl_w3 : Cell) (h0 : Heap) (n0 : Nat) (Z0 : n0 ≤ h0.size) (F_ends_a1 : Fld Z h0 a1 "com/example/surfwalk/surfwalk/Surfer$Paths" "ends" "[I" (.ref w3)) (Ar_w3 : Arr Z h0 w3 cl_w3 .int) (hin13 : ¬ (p2 < 0 ∨ cl_w3.slots.size ≤ (p2).toNatClampNeg)) (hat13 : cl_w3.slots[(p2).toNatClampNeg]? = some (.int w5)) (hc1 : ¬ (p2 < (0 : Int32))) :
    MetFree l (⟨"com/example/surfwalk/surfwalk/Surfer$Paths", "end", "(I)I"⟩ : MethodName) (head1 (Jvm.Cond.code (⟨"com/example/surfwalk/surfwalk/Surfer$Paths", "end", "(I)I"⟩ : MethodName) prog_36_method_6_code 2 (some .int) :: ws) ({ frames := 0, cells := 0, slots := 0, locals := 0 } : Room)) (fun a U => a = #[(.ref a1), (.int p2)] ∧ Z.Warmed39 U.vm ∧ U.heap = h0) (fun _ _ _ _ _ => True) (fun _ U o U' => ∃ v L, o = .returned v ∧ Q3 w5 h0 n0 v U'.heap L ∧ FrameEnd U o U' L ({ frames := 0, cells := 0, slots := 0, locals := 0 } : Room).cells ({ frames := 0, cells := 0, slots := 0, locals := 0 } : Room).slots) := by
  refine MetFree.of_bodySF (plainFor_of_name pn_3) hisR ?_
  intro p e s m args below meth c s₁ Bd hml0 hP hK
  obtain ⟨rfl, hZ, hh⟩ := hP
  have hx := Bd.exec
  have hby := Bd.bytes
  have hml : c.maxLocals = 2 := hml0
  have hown : s.vm.findClass "com/example/surfwalk/surfwalk/Surfer$Paths" = some m.cls := findClass_of_methodNamed Bd.named
  have hnm := (name_of_methodNamed Bd.named Bd.method).1
  have X0 : Stand p l e ({ frames := 0, cells := 0, slots := 0, locals := 0 } : Room) s m #[(.ref a1), (.int p2)] below meth c s₁ [] 0 0 := Stand.of_body Bd
  have e0 : s₁.heap = h0 := by rw [← hh, Bd.state]; rfl
  have N0 := Fr.nil n0
  have pre0 : ∀ t, Steps p.tables e below (s₁.setTop (mkF m 0 #[.val (.ref a1), .val (.int p2)] [])) t → Steps p.tables e below (s₁.setTop (entryFrame m #[(.ref a1), (.int p2)] 2)) t := fun t k => castTop (ef_3 m a1 p2) k
  obtain ⟨T4, X4, e4, st4⟩ := getF X0 hx hZ hown (host := "") (Or.inl (hw _ (List.mem_of_getElem? (i := 12) rfl))) Via.refl e0 F_ends_a1 (g := (mkF m 9 #[.val (.ref a1), .val (.int p2)] [(.ref a1)])) rfl rfl (hb hby d3_9)
  obtain ⟨fs, hr, hrun, hended, hW, hsame⟩ := X4.leave (v := some (.int w5)) (fun h => by rw [Bd.returns] at h; cases h)
  refine ⟨_, _, pre0 _ ?_, hrun, hended, _, _, rfl, ?_, ⟨_, rfl⟩, hW, hsame.mono (by decide) (by decide)⟩
  · show Steps p.tables e below (s₁.setTop (mkF m 0 #[.val (.ref a1), .val (.int p2)] [])) _
    refine XS.iloadN X0.here hx rfl (hb hby d3_0) rfl ?_
    show Steps p.tables e below (s₁.setTop (mkF m 1 #[.val (.ref a1), .val (.int p2)] [(.int p2)])) _
    refine XS.ifYes X0.here hx rfl (pc0 := 1) (pc' := 8) rfl (hb hby d3_1) rfl ((if0 _ _).trans (flt hc1).2.1) (by decide) (by decide) ?_
    show Steps p.tables e below (s₁.setTop (mkF m 8 #[.val (.ref a1), .val (.int p2)] [])) _
    refine XS.aloadN X0.here hx rfl (hb hby d3_8) rfl rfl ?_
    show Steps p.tables e below (s₁.setTop (mkF m 9 #[.val (.ref a1), .val (.int p2)] [(.ref a1)])) _
    refine st4 _ ?_
    show Steps p.tables e below (T4.setTop (mkF m 12 #[.val (.ref a1), .val (.int p2)] [(.ref w3)])) _
    refine XS.iloadN X4.here hx rfl (hb hby d3_12) rfl ?_
    show Steps p.tables e below (T4.setTop (mkF m 13 #[.val (.ref a1), .val (.int p2)] [(.int p2), (.ref w3)])) _
    refine X4.iaload hx (j := p2) (v := (.int w5)) (by rw [e4]; exact Ar_w3.1) (State.isArrayOf_alike hZ.alike Ar_w3.2.1) Ar_w3.2.2 hin13 hat13 (g := (mkF m 13 #[.val (.ref a1), .val (.int p2)] [(.int p2), (.ref w3)])) rfl rfl (hb hby d3_13) _ ?_
    show Steps p.tables e below (T4.setTop (mkF m 14 #[.val (.ref a1), .val (.int p2)] [(.int w5)])) _
    exact retI X4 hx Bd.returns (hb hby d3_14) hr
  · show Q3 w5 h0 n0 _ T4.heap _
    rw [e4]
    exact ⟨rfl, N0, rfl⟩
theorem own_get {Z : State} {h : Heap} {a : Addr} {k : ClassId} {z : Int32} {vs : List Value} {dv : Value} (V : Arv Z h a k .int z vs dv) {j r : Int32} (hj : ¬ j < 0 ∧ j < z) (hv : vs.getD j.toNatClampNeg dv = .int r) :
    ∃ cl : Cell, Arr Z h a cl .int ∧ ¬ (j < 0 ∨ cl.slots.size ≤ j.toNatClampNeg) ∧ cl.slots[j.toNatClampNeg]? = some (.int r) := by
  obtain ⟨cl, A, q, S, N, H, G⟩ := V
  have hin := inb_of S hj
  refine ⟨cl, A, hin, ?_⟩
  rw [← hv]
  exact H _ (Nat.lt_of_not_le fun q => hin (Or.inr q))
theorem own_end (l : Launch) (Z : State) (a0 : Array Value) (hw : ∀ d ∈ tables_1, d.before a0 Z = true) (a1 : Addr) (p2 r : Int32) (be : Addr) {ke : ClassId} {vs : List Value} (h0 : Heap) (n0 : Nat) (Z0 : n0 ≤ h0.size) (F : Fld Z h0 a1 "com/example/surfwalk/surfwalk/Surfer$Paths" "ends" "[I" (.ref be)) (V : Arv Z h0 be ke .int (1024 : Int32) vs (.int (0 : Int32))) (hj : ¬ p2 < 0 ∧ p2 < (1024 : Int32)) (hv : vs.getD p2.toNatClampNeg (.int (0 : Int32)) = .int r) :
    MetFree l (⟨"com/example/surfwalk/surfwalk/Surfer$Paths", "end", "(I)I"⟩ : MethodName) (head1 (Jvm.Cond.code (⟨"com/example/surfwalk/surfwalk/Surfer$Paths", "end", "(I)I"⟩ : MethodName) prog_36_method_6_code 2 (some .int) :: []) ({ frames := 0, cells := 0, slots := 0, locals := 0 } : Room)) (fun a U => a = #[(.ref a1), (.int p2)] ∧ Z.Warmed39 U.vm ∧ U.heap = h0) (fun _ _ _ _ _ => True) (fun _ U o U' => ∃ v L, o = .returned v ∧ Q3 r h0 n0 v U'.heap L ∧ FrameEnd U o U' L ({ frames := 0, cells := 0, slots := 0, locals := 0 } : Room).cells ({ frames := 0, cells := 0, slots := 0, locals := 0 } : Room).slots) := by
  obtain ⟨cl, A, hi, ha⟩ := own_get V hj hv
  exact rm3a l Z a0 hw [] a1 p2 be r cl h0 n0 Z0 F A hi ha hj.1
theorem d4_0 : decode prog_36_method_2_code 0 = .ok (.aload_n 0, 1) := by decide +kernel
theorem d4_1 : decode prog_36_method_2_code 1 = .ok (.aload_n 0, 1) := by decide +kernel
theorem d4_2 : decode prog_36_method_2_code 2 = .ok (.getfield 18, 3) := by decide +kernel
theorem d4_5 : decode prog_36_method_2_code 5 = .ok (.iconst 1, 1) := by decide +kernel
theorem d4_6 : decode prog_36_method_2_code 6 = .ok (.isub, 1) := by decide +kernel
theorem d4_7 : decode prog_36_method_2_code 7 = .ok (.invokevirtual 22, 3) := by decide +kernel
theorem d4_10 : decode prog_36_method_2_code 10 = .ok (.istore 4, 2) := by decide +kernel
theorem d4_12 : decode prog_36_method_2_code 12 = .ok (.iload 4, 2) := by decide +kernel
theorem d4_14 : decode prog_36_method_2_code 14 = .ok (.iload_n 2, 1) := by decide +kernel
theorem d4_15 : decode prog_36_method_2_code 15 = .ok (.iadd, 1) := by decide +kernel
theorem d4_16 : decode prog_36_method_2_code 16 = .ok (.aload_n 0, 1) := by decide +kernel
theorem d4_17 : decode prog_36_method_2_code 17 = .ok (.getfield 9, 3) := by decide +kernel
theorem d4_20 : decode prog_36_method_2_code 20 = .ok (.arraylength, 1) := by decide +kernel
theorem d4_21 : decode prog_36_method_2_code 21 = .ok (.if_icmp .le 28, 3) := by decide +kernel
theorem d4_49 : decode prog_36_method_2_code 49 = .ok (.aload_n 1, 1) := by decide +kernel
theorem d4_50 : decode prog_36_method_2_code 50 = .ok (.iconst 0, 1) := by decide +kernel
theorem d4_51 : decode prog_36_method_2_code 51 = .ok (.aload_n 0, 1) := by decide +kernel
theorem d4_52 : decode prog_36_method_2_code 52 = .ok (.getfield 9, 3) := by decide +kernel
theorem d4_55 : decode prog_36_method_2_code 55 = .ok (.iload 4, 2) := by decide +kernel
theorem d4_57 : decode prog_36_method_2_code 57 = .ok (.iload_n 2, 1) := by decide +kernel
theorem d4_58 : decode prog_36_method_2_code 58 = .ok (.invokestatic 38, 3) := by decide +kernel
theorem d4_61 : decode prog_36_method_2_code 61 = .ok (.aload_n 0, 1) := by decide +kernel
theorem d4_62 : decode prog_36_method_2_code 62 = .ok (.getfield 15, 3) := by decide +kernel
theorem d4_65 : decode prog_36_method_2_code 65 = .ok (.aload_n 0, 1) := by decide +kernel
theorem d4_66 : decode prog_36_method_2_code 66 = .ok (.dup, 1) := by decide +kernel
theorem d4_67 : decode prog_36_method_2_code 67 = .ok (.getfield 18, 3) := by decide +kernel
theorem d4_70 : decode prog_36_method_2_code 70 = .ok (.dup_x1, 1) := by decide +kernel
theorem d4_71 : decode prog_36_method_2_code 71 = .ok (.iconst 1, 1) := by decide +kernel
theorem d4_72 : decode prog_36_method_2_code 72 = .ok (.iadd, 1) := by decide +kernel
theorem d4_73 : decode prog_36_method_2_code 73 = .ok (.putfield 18, 3) := by decide +kernel
theorem d4_76 : decode prog_36_method_2_code 76 = .ok (.iload 4, 2) := by decide +kernel
theorem d4_78 : decode prog_36_method_2_code 78 = .ok (.iload_n 2, 1) := by decide +kernel
theorem d4_79 : decode prog_36_method_2_code 79 = .ok (.iadd, 1) := by decide +kernel
theorem d4_80 : decode prog_36_method_2_code 80 = .ok (.iastore, 1) := by decide +kernel
theorem d4_81 : decode prog_36_method_2_code 81 = .ok (.return_, 1) := by decide +kernel
theorem pn_4 : plainName "com/example/surfwalk/surfwalk/Surfer$Paths" = true := by first | (simp [plainName, overriddenIn]; done) | decide +kernel
theorem pd_4_1 : parseMethodDescriptor "(I)I" = some ⟨[.int], some .int⟩ := by decide +kernel
theorem pd_4_3 : parseMethodDescriptor "(Ljava/lang/Object;ILjava/lang/Object;II)V" = some ⟨[(.object "java/lang/Object"), .int, (.object "java/lang/Object"), .int, .int], none⟩ := by decide +kernel
theorem ef_4 (m : MethodId) (x0 : Addr) (x1 : Addr) (x2 : Int32) : entryFrame m #[(.ref x0), (.ref x1), (.int x2), .null] 5 = mkF m 0 #[.val (.ref x0), .val (.ref x1), .val (.int x2), .val .null, .unset] [] := by first | (simp [entryFrame, mkF, argsToLocals, Value.category]; done) | rfl
def Q4 (Z : State) (a1 a2 : Addr) (p3 w4 st : Int32) (bp be : Addr) (kp ke k2 : ClassId) (ve : List Value) (h0 : Heap) (n0 : Nat) (v : Option Value) (h : Heap) (L : List Loc) : Prop := v = none ∧ Fr n0 L ∧ Keep h0 h [a1, be, bp] ∧ Exa Z h a1 "com/example/surfwalk/surfwalk/Surfer$Paths" ∧ Fld Z h a1 "com/example/surfwalk/surfwalk/Surfer$Paths" "pages" "[I" (.ref bp) ∧ Fld Z h a1 "com/example/surfwalk/surfwalk/Surfer$Paths" "ends" "[I" (.ref be) ∧ Fld Z h a1 "com/example/surfwalk/surfwalk/Surfer$Paths" "count" "I" (.int (w4 + (1 : Int32))) ∧ (∃ vp : List Value, vp.length = 48 ∧ Arv Z h bp kp .int (4096 : Int32) vp (.int (0 : Int32))) ∧ Arv Z h be ke .int (1024 : Int32) (ve.set w4.toNatClampNeg (.int (st + p3))) (.int (0 : Int32)) ∧ Arv Z h a2 k2 .int (16 : Int32) [] (.int (0 : Int32))
set_option maxRecDepth 65536 in
set_option maxHeartbeats 40000000 in
theorem rm4 (l : Launch) (Z : State) (a0 : Array Value) (hw : ∀ d ∈ tables_1, d.before a0 Z = true) (ws : List Jvm.Cond) (a1 a2 : Addr) (p3 w4 st : Int32) (bp be : Addr) (kp ke k2 : ClassId) (vp ve : List Value) (h0 : Heap) (n0 : Nat) (Z0 : n0 ≤ h0.size) (F_count_a1 : Fld Z h0 a1 "com/example/surfwalk/surfwalk/Surfer$Paths" "count" "I" (.int w4)) (E_a1 : Exa Z h0 a1 "com/example/surfwalk/surfwalk/Surfer$Paths") (F_pages_a1 : Fld Z h0 a1 "com/example/surfwalk/surfwalk/Surfer$Paths" "pages" "[I" (.ref bp)) (F_ends_a1 : Fld Z h0 a1 "com/example/surfwalk/surfwalk/Surfer$Paths" "ends" "[I" (.ref be)) (Vs : Arv Z h0 a2 k2 .int (16 : Int32) [] (.int (0 : Int32))) (Vp : Arv Z h0 bp kp .int (4096 : Int32) vp (.int (0 : Int32))) (hvp : vp.length = 48) (Ve : Arv Z h0 be ke .int (1024 : Int32) ve (.int (0 : Int32))) (hw4 : ¬ w4 < 0 ∧ w4 < (1024 : Int32)) (hwl : w4.toNatClampNeg < ve.length) (g_a1 : n0 ≤ a1) (g_bp : n0 ≤ bp) (g_be : n0 ≤ be) (hebp' : be ≠ bp) (h2p : a2 ≠ bp) (h2e : a2 ≠ be) (hst0 : 0 ≤ st.toInt) (hst1 : st.toInt ≤ 30) (hp30 : 0 ≤ p3.toInt) (hp31 : p3.toInt ≤ 15) (hend : MetFree l (⟨"com/example/surfwalk/surfwalk/Surfer$Paths", "end", "(I)I"⟩ : MethodName) (head1 (Jvm.Cond.code (⟨"com/example/surfwalk/surfwalk/Surfer$Paths", "end", "(I)I"⟩ : MethodName) prog_36_method_6_code 2 (some .int) :: []) ({ frames := 0, cells := 0, slots := 0, locals := 0 } : Room)) (fun a U => a = #[(.ref a1), (.int (w4 - (1 : Int32)))] ∧ Z.Warmed39 U.vm ∧ U.heap = h0) (fun _ _ _ _ _ => True) (fun _ U o U' => ∃ v L, o = .returned v ∧ Q3 st h0 n0 v U'.heap L ∧ FrameEnd U o U' L ({ frames := 0, cells := 0, slots := 0, locals := 0 } : Room).cells ({ frames := 0, cells := 0, slots := 0, locals := 0 } : Room).slots)) :
    MetFree l (⟨"com/example/surfwalk/surfwalk/Surfer$Paths", "addWalk", "([IILjava/util/SplittableRandom;)V"⟩ : MethodName) (head1 (Jvm.Cond.code (⟨"com/example/surfwalk/surfwalk/Surfer$Paths", "addWalk", "([IILjava/util/SplittableRandom;)V"⟩ : MethodName) prog_36_method_2_code 5 none :: ws) ({ frames := 1, cells := 0, slots := 0, locals := 40 } : Room)) (fun a U => a = #[(.ref a1), (.ref a2), (.int p3), .null] ∧ Z.Warmed39 U.vm ∧ U.heap = h0) (fun _ _ _ _ _ => True) (fun _ U o U' => ∃ v L, o = .returned v ∧ Q4 Z a1 a2 p3 w4 st bp be kp ke k2 ve h0 n0 v U'.heap L ∧ FrameEnd U o U' L ({ frames := 1, cells := 0, slots := 0, locals := 40 } : Room).cells ({ frames := 1, cells := 0, slots := 0, locals := 40 } : Room).slots) := by
  refine MetFree.of_bodySF (plainFor_of_name pn_4) hisR ?_
  intro p e s m args below meth c s₁ Bd hml0 hP hK
  obtain ⟨rfl, hZ, hh⟩ := hP
  have hx := Bd.exec
  have hby := Bd.bytes
  have hml : c.maxLocals = 5 := hml0
  have hown : s.vm.findClass "com/example/surfwalk/surfwalk/Surfer$Paths" = some m.cls := findClass_of_methodNamed Bd.named
  have hnm := (name_of_methodNamed Bd.named Bd.method).1
  have X0 : Stand p l e ({ frames := 1, cells := 0, slots := 0, locals := 40 } : Room) s m #[(.ref a1), (.ref a2), (.int p3), .null] below meth c s₁ [] 0 0 := Stand.of_body Bd
  have e0 : s₁.heap = h0 := by rw [← hh, Bd.state]; rfl
  have N0 := Fr.nil n0
  have pre0 : ∀ t, Steps p.tables e below (s₁.setTop (mkF m 0 #[.val (.ref a1), .val (.ref a2), .val (.int p3), .val .null, .unset] [])) t → Steps p.tables e below (s₁.setTop (entryFrame m #[(.ref a1), (.ref a2), (.int p3), .null] 5)) t := fun t k => castTop (ef_4 m a1 a2 p3) k
  have hpa : bp ≠ a1 := by
    obtain ⟨cl_bp, Ar_bp, -⟩ := Vp
    exact Ne.symm (ne_arr E_a1 (hw _ (List.mem_of_getElem? (i := 2) rfl)) Ar_bp)
  have hea : be ≠ a1 := by
    obtain ⟨cl_be, Ar_be, -⟩ := Ve
    exact Ne.symm (ne_arr E_a1 (hw _ (List.mem_of_getElem? (i := 2) rfl)) Ar_be)
  have h2a : a2 ≠ a1 := by
    obtain ⟨cl_2, Ar_2, -⟩ := Vs
    exact Ne.symm (ne_arr E_a1 (hw _ (List.mem_of_getElem? (i := 2) rfl)) Ar_2)
  have hab : a1 ∉ [bp] := fun z => hpa (List.mem_singleton.mp z).symm
  have hebp : be ∉ [bp] := fun z => hebp' (List.mem_singleton.mp z)
  have h2bp : a2 ∉ [bp] := fun z => h2p (List.mem_singleton.mp z)
  have e0i : (0 : Int32).toInt = 0 := rfl
  have e4096 : (4096 : Int32).toInt = 4096 := rfl
  have hs0 : ¬ st < 0 := by rw [Int32.lt_iff_toInt_lt]; omega
  have hp0 : ¬ p3 < 0 := by rw [Int32.lt_iff_toInt_lt]; omega
  have nst : st.toNatClampNeg = st.toInt.toNat := rfl
  have np3 : p3.toNatClampNeg = p3.toInt.toNat := rfl
  have n16 : (16 : Int32).toNatClampNeg = 16 := by decide
  have n0z : (0 : Int32).toNatClampNeg = 0 := by decide
  have n4096 : (4096 : Int32).toNatClampNeg = 4096 := by decide
  have hc4 : (0 : Int32).toNatClampNeg + p3.toNatClampNeg ≤ (16 : Int32).toNatClampNeg := by omega
  have hc5 : st.toNatClampNeg + p3.toNatClampNeg ≤ (4096 : Int32).toNatClampNeg := by omega
  have hcl : st.toNatClampNeg + p3.toNatClampNeg ≤ vp.length := by omega
  have hfit : ¬ ((4096 : Int32) < (st + p3)) := by
    have ha := c_iadd st p3
    have har := rng32 (st + p3)
    rw [Int32.lt_iff_toInt_lt]; omega
  obtain ⟨cl_bp, Ar_bp, -, S_bp, N_bp, -, -⟩ := id Vp
  obtain ⟨T5, X5, e5, st5⟩ := getF X0 hx hZ hown (host := "") (Or.inl (hw _ (List.mem_of_getElem? (i := 25) rfl))) Via.refl e0 F_count_a1 (g := (mkF m 2 #[.val (.ref a1), .val (.ref a2), .val (.int p3), .val .null, .unset] [(.ref a1), (.ref a1)])) rfl rfl (hb hby d4_2)
  obtain ⟨cq6, kq6, q6a, q6b, q6c⟩ := isOf hZ e5 E_a1
  obtain ⟨_, _, ⟨T6, L6, k6, n6⟩, -, X6, ⟨Lc6, hQ6, l6, y6, z6⟩, st6⟩ := X5.virtualBack hx (y := (⟨"com/example/surfwalk/surfwalk/Surfer$Paths", "end", "(I)I"⟩ : MethodName)) (z := (⟨"com/example/surfwalk/surfwalk/Surfer$Paths", "end", "(I)I"⟩ : MethodName)) hown (mvT hZ (hw _ (List.mem_of_getElem? (i := 27) rfl))) (mvT hZ (hw _ (List.mem_of_getElem? (i := 16) rfl))) (notFace_of_selects (args := #[]) (mvT hZ (hw _ (List.mem_of_getElem? (i := 18) rfl)))) (mvT hZ (hw _ (List.mem_of_getElem? (i := 18) rfl))) (mvT hZ (hw _ (List.mem_of_getElem? (i := 17) rfl))) (by decide) (backOf (W := 0) hend hZ (hw _ (List.mem_of_getElem? (i := 19) rfl)) (hw _ (List.mem_of_getElem? (i := 3) rfl)) (by decide) (by decide)) q6a q6c (g := (mkF m 7 #[.val (.ref a1), .val (.ref a2), .val (.int p3), .val .null, .unset] [(.int (w4 - (1 : Int32))), (.ref a1)])) rfl (by rw [hml]; rfl) (Steps.refl _) (argsL := [(.int (w4 - (1 : Int32)))]) (rest := []) (lenOf pd_4_1 rfl) rfl (by show 2 * 0 + _ ≤ _; exact Nat.le_of_eq rfl) (hb hby d4_7) (fun _ _ => ⟨rfl, e5, (by decide : 0 + 0 ≤ _), (by decide : 0 + 0 ≤ _)⟩)
  dsimp only [Pt.U, Pt.locs, Pt.cells, Pt.slots] at X6 l6 y6 z6 st6 hQ6
  subst l6 y6 z6
  obtain ⟨rfl, N6q, e6⟩ := hQ6
  have N6 := Fr.app N0 N6q
  obtain ⟨T8, X8, e8, st8⟩ := getF X6 hx hZ hown (host := "") (Or.inl (hw _ (List.mem_of_getElem? (i := 10) rfl))) Via.refl e6 F_pages_a1 (g := (mkF m 17 #[.val (.ref a1), .val (.ref a2), .val (.int p3), .val .null, .val (.int st)] [(.ref a1), (.int (st + p3))])) rfl rfl (hb hby d4_17)
  obtain ⟨T9, X9, e9, st9⟩ := getF X8 hx hZ hown (host := "") (Or.inl (hw _ (List.mem_of_getElem? (i := 10) rfl))) Via.refl e8 F_pages_a1 (g := (mkF m 52 #[.val (.ref a1), .val (.ref a2), .val (.int p3), .val .null, .val (.int st)] [(.ref a1), (.int (0 : Int32)), (.ref a2)])) rfl rfl (hb hby d4_52)
  obtain ⟨T10, h10, L10, X10, e10, N10, K10, Vp10, st10⟩ := cpA X9 hx hZ hown (hw _ (List.mem_of_getElem? (i := 28) rfl)) (hw _ (List.mem_of_getElem? (i := 31) rfl)) (hw _ (List.mem_of_getElem? (i := 29) rfl)) (hw _ (List.mem_of_getElem? (i := 30) rfl)) e9 (sp := (0 : Int32)) (dp := st) (nn := p3) (us := (List.range p3.toNatClampNeg).map fun i => ([] : List Value).getD ((0 : Int32).toNatClampNeg + i) (.int (0 : Int32))) Vs Vp (Or.inl ⟨rfl, rfl⟩) (by decide) hs0 hp0 hc4 hc5 rfl hcl N6 g_bp (g := (mkF m 58 #[.val (.ref a1), .val (.ref a2), .val (.int p3), .val .null, .val (.int st)] [(.int p3), (.int st), (.ref bp), (.int (0 : Int32)), (.ref a2)])) rfl (by rw [hml]; rfl) (rest := []) rfl (hb hby d4_58) (by decide) (W := 0) (by show 2 * 0 + _ ≤ _; exact Nat.le_of_eq rfl) (by decide)
  obtain ⟨T12, X12, e12, st12⟩ := getF X10 hx hZ hown (host := "") (Or.inl (hw _ (List.mem_of_getElem? (i := 12) rfl))) Via.refl e10 (F_ends_a1.keep K10 hab) (g := (mkF m 62 #[.val (.ref a1), .val (.ref a2), .val (.int p3), .val .null, .val (.int st)] [(.ref a1)])) rfl rfl (hb hby d4_62)
  obtain ⟨T14, X14, e14, st14⟩ := getF X12 hx hZ hown (host := "") (Or.inl (hw _ (List.mem_of_getElem? (i := 25) rfl))) Via.refl e12 (F_count_a1.keep K10 hab) (g := (mkF m 67 #[.val (.ref a1), .val (.ref a2), .val (.int p3), .val .null, .val (.int st)] [(.ref a1), (.ref a1), (.ref be)])) rfl rfl (hb hby d4_67)
  obtain ⟨T15, h15, X15, e15, W15, st15⟩ := putF X14 hx hZ hown (host := "") (Or.inl (hw _ (List.mem_of_getElem? (i := 25) rfl))) Via.refl e14 (F_count_a1.keep K10 hab) (E_a1.keep K10) (Or.inl (hw _ (List.mem_of_getElem? (i := 26) rfl))) (hw _ (List.mem_of_getElem? (i := 2) rfl)) (ty := .int) (by decide) rfl rfl (g := (mkF m 73 #[.val (.ref a1), .val (.ref a2), .val (.int p3), .val .null, .val (.int st)] [(.int (w4 + (1 : Int32))), (.ref a1), (.int w4), (.ref be)])) rfl rfl (hb hby d4_73)
  have Fw15 := (F_count_a1.keep K10 hab).same W15
  have K15 : Keep h0 h15 [a1, be, bp] := ((Keep.refl h0 [a1, be, bp]).trans K10 (fun x hx => Or.inl (by cases List.mem_singleton.mp hx; simp))).wr W15 (Or.inl (List.mem_of_getElem? (i := 0) rfl))
  have N15 := Fr.snoc X15 N10 g_a1
  obtain ⟨cl_be, Ar_be, q_be, S_be, N_be, H_be, G_be⟩ := (Ve.keep K10 hebp).other W15 hea
  have hin80 : ¬ (w4 < 0 ∨ cl_be.slots.size ≤ w4.toNatClampNeg) := inb_of S_be hw4
  obtain ⟨T16, h16, X16, e16, W16, st16⟩ := stI X15 hx hZ e15 Ar_be (j := w4) hin80 (g := (mkF m 80 #[.val (.ref a1), .val (.ref a2), .val (.int p3), .val .null, .val (.int st)] [(.int (st + p3)), (.int w4), (.ref be)])) rfl rfl (hb hby d4_80)
  have N16 := Fr.snoc X16 N15 g_be
  have K16 : Keep h0 h16 [a1, be, bp] := K15.wr W16 (Or.inl (List.mem_of_getElem? (i := 1) rfl))
  have Ve16 := Arv.set Ar_be q_be S_be N_be H_be G_be rfl W16 w4.toNatClampNeg rfl hwl
  obtain ⟨fs, hr, hrun, hended, hW, hsame⟩ := X16.leave (v := none) (fun _ => rfl)
  refine ⟨_, _, pre0 _ ?_, hrun, hended, _, _, rfl, ?_, ⟨_, rfl⟩, hW, hsame.mono (by decide) (by decide)⟩
  · show Steps p.tables e below (s₁.setTop (mkF m 0 #[.val (.ref a1), .val (.ref a2), .val (.int p3), .val .null, .unset] [])) _
    refine XS.aloadN X0.here hx rfl (hb hby d4_0) rfl rfl ?_
    show Steps p.tables e below (s₁.setTop (mkF m 1 #[.val (.ref a1), .val (.ref a2), .val (.int p3), .val .null, .unset] [(.ref a1)])) _
    refine XS.aloadN X0.here hx rfl (hb hby d4_1) rfl rfl ?_
    show Steps p.tables e below (s₁.setTop (mkF m 2 #[.val (.ref a1), .val (.ref a2), .val (.int p3), .val .null, .unset] [(.ref a1), (.ref a1)])) _
    refine st5 _ ?_
    show Steps p.tables e below (T5.setTop (mkF m 5 #[.val (.ref a1), .val (.ref a2), .val (.int p3), .val .null, .unset] [(.int w4), (.ref a1)])) _
    refine XS.iconst X5.here hx rfl (hb hby d4_5) ?_
    show Steps p.tables e below (T5.setTop (mkF m 6 #[.val (.ref a1), .val (.ref a2), .val (.int p3), .val .null, .unset] [(.int (1 : Int32)), (.int w4), (.ref a1)])) _
    refine XS.isub X5.here hx rfl (hb hby d4_6) rfl ?_
    show Steps p.tables e below (T5.setTop (mkF m 7 #[.val (.ref a1), .val (.ref a2), .val (.int p3), .val .null, .unset] [(.int (w4 - (1 : Int32))), (.ref a1)])) _
    refine st6.trans ?_
    show Steps p.tables e below (T6.setTop (mkF m 10 #[.val (.ref a1), .val (.ref a2), .val (.int p3), .val .null, .unset] [(.int st)])) _
    refine XS.istore X6.here hx rfl (hb hby d4_10) rfl (l' := #[.val (.ref a1), .val (.ref a2), .val (.int p3), .val .null, .val (.int st)]) rfl ?_
    show Steps p.tables e below (T6.setTop (mkF m 12 #[.val (.ref a1), .val (.ref a2), .val (.int p3), .val .null, .val (.int st)] [])) _
    refine XS.iload X6.here hx rfl (hb hby d4_12) rfl ?_
    show Steps p.tables e below (T6.setTop (mkF m 14 #[.val (.ref a1), .val (.ref a2), .val (.int p3), .val .null, .val (.int st)] [(.int st)])) _
    refine XS.iloadN X6.here hx rfl (hb hby d4_14) rfl ?_
    show Steps p.tables e below (T6.setTop (mkF m 15 #[.val (.ref a1), .val (.ref a2), .val (.int p3), .val .null, .val (.int st)] [(.int p3), (.int st)])) _
    refine XS.iadd X6.here hx rfl (hb hby d4_15) rfl ?_
    show Steps p.tables e below (T6.setTop (mkF m 16 #[.val (.ref a1), .val (.ref a2), .val (.int p3), .val .null, .val (.int st)] [(.int (st + p3))])) _
    refine XS.aloadN X6.here hx rfl (hb hby d4_16) rfl rfl ?_
    show Steps p.tables e below (T6.setTop (mkF m 17 #[.val (.ref a1), .val (.ref a2), .val (.int p3), .val .null, .val (.int st)] [(.ref a1), (.int (st + p3))])) _
    refine st8 _ ?_
    show Steps p.tables e below (T8.setTop (mkF m 20 #[.val (.ref a1), .val (.ref a2), .val (.int p3), .val .null, .val (.int st)] [(.ref bp), (.int (st + p3))])) _
    refine X8.arraylength hx (by rw [e8]; exact Ar_bp.1) (State.isArrayOf_alike hZ.alike Ar_bp.2.1) (g := (mkF m 20 #[.val (.ref a1), .val (.ref a2), .val (.int p3), .val .null, .val (.int st)] [(.ref bp), (.int (st + p3))])) rfl rfl (hb hby d4_20) _ ?_
    rw [len_of S_bp N_bp]
    show Steps p.tables e below (T8.setTop (mkF m 21 #[.val (.ref a1), .val (.ref a2), .val (.int p3), .val .null, .val (.int st)] [(.int (4096 : Int32)), (.int (st + p3))])) _
    refine XS.icmpYes X8.here hx rfl (pc0 := 21) (pc' := 49) rfl (hb hby d4_21) rfl (flt hfit).2.2.2 (by decide) (by decide) ?_
    show Steps p.tables e below (T8.setTop (mkF m 49 #[.val (.ref a1), .val (.ref a2), .val (.int p3), .val .null, .val (.int st)] [])) _
    refine XS.aloadN X8.here hx rfl (hb hby d4_49) rfl rfl ?_
    show Steps p.tables e below (T8.setTop (mkF m 50 #[.val (.ref a1), .val (.ref a2), .val (.int p3), .val .null, .val (.int st)] [(.ref a2)])) _
    refine XS.iconst X8.here hx rfl (hb hby d4_50) ?_
    show Steps p.tables e below (T8.setTop (mkF m 51 #[.val (.ref a1), .val (.ref a2), .val (.int p3), .val .null, .val (.int st)] [(.int (0 : Int32)), (.ref a2)])) _
    refine XS.aloadN X8.here hx rfl (hb hby d4_51) rfl rfl ?_
    show Steps p.tables e below (T8.setTop (mkF m 52 #[.val (.ref a1), .val (.ref a2), .val (.int p3), .val .null, .val (.int st)] [(.ref a1), (.int (0 : Int32)), (.ref a2)])) _
    refine st9 _ ?_
    show Steps p.tables e below (T9.setTop (mkF m 55 #[.val (.ref a1), .val (.ref a2), .val (.int p3), .val .null, .val (.int st)] [(.ref bp), (.int (0 : Int32)), (.ref a2)])) _
    refine XS.iload X9.here hx rfl (hb hby d4_55) rfl ?_
    show Steps p.tables e below (T9.setTop (mkF m 57 #[.val (.ref a1), .val (.ref a2), .val (.int p3), .val .null, .val (.int st)] [(.int st), (.ref bp), (.int (0 : Int32)), (.ref a2)])) _
    refine XS.iloadN X9.here hx rfl (hb hby d4_57) rfl ?_
    show Steps p.tables e below (T9.setTop (mkF m 58 #[.val (.ref a1), .val (.ref a2), .val (.int p3), .val .null, .val (.int st)] [(.int p3), (.int st), (.ref bp), (.int (0 : Int32)), (.ref a2)])) _
    refine st10 _ ?_
    show Steps p.tables e below (T10.setTop (mkF m 61 #[.val (.ref a1), .val (.ref a2), .val (.int p3), .val .null, .val (.int st)] [])) _
    refine XS.aloadN X10.here hx rfl (hb hby d4_61) rfl rfl ?_
    show Steps p.tables e below (T10.setTop (mkF m 62 #[.val (.ref a1), .val (.ref a2), .val (.int p3), .val .null, .val (.int st)] [(.ref a1)])) _
    refine st12 _ ?_
    show Steps p.tables e below (T12.setTop (mkF m 65 #[.val (.ref a1), .val (.ref a2), .val (.int p3), .val .null, .val (.int st)] [(.ref be)])) _
    refine XS.aloadN X12.here hx rfl (hb hby d4_65) rfl rfl ?_
    show Steps p.tables e below (T12.setTop (mkF m 66 #[.val (.ref a1), .val (.ref a2), .val (.int p3), .val .null, .val (.int st)] [(.ref a1), (.ref be)])) _
    refine XS.dup X12.here hx rfl (hb hby d4_66) rfl rfl ?_
    show Steps p.tables e below (T12.setTop (mkF m 67 #[.val (.ref a1), .val (.ref a2), .val (.int p3), .val .null, .val (.int st)] [(.ref a1), (.ref a1), (.ref be)])) _
    refine st14 _ ?_
    show Steps p.tables e below (T14.setTop (mkF m 70 #[.val (.ref a1), .val (.ref a2), .val (.int p3), .val .null, .val (.int st)] [(.int w4), (.ref a1), (.ref be)])) _
    refine XS.dupX1 X14.here hx rfl (hb hby d4_70) rfl rfl rfl ?_
    show Steps p.tables e below (T14.setTop (mkF m 71 #[.val (.ref a1), .val (.ref a2), .val (.int p3), .val .null, .val (.int st)] [(.int w4), (.ref a1), (.int w4), (.ref be)])) _
    refine XS.iconst X14.here hx rfl (hb hby d4_71) ?_
    show Steps p.tables e below (T14.setTop (mkF m 72 #[.val (.ref a1), .val (.ref a2), .val (.int p3), .val .null, .val (.int st)] [(.int (1 : Int32)), (.int w4), (.ref a1), (.int w4), (.ref be)])) _
    refine XS.iadd X14.here hx rfl (hb hby d4_72) rfl ?_
    show Steps p.tables e below (T14.setTop (mkF m 73 #[.val (.ref a1), .val (.ref a2), .val (.int p3), .val .null, .val (.int st)] [(.int (w4 + (1 : Int32))), (.ref a1), (.int w4), (.ref be)])) _
    refine st15 _ ?_
    show Steps p.tables e below (T15.setTop (mkF m 76 #[.val (.ref a1), .val (.ref a2), .val (.int p3), .val .null, .val (.int st)] [(.int w4), (.ref be)])) _
    refine XS.iload X15.here hx rfl (hb hby d4_76) rfl ?_
    show Steps p.tables e below (T15.setTop (mkF m 78 #[.val (.ref a1), .val (.ref a2), .val (.int p3), .val .null, .val (.int st)] [(.int st), (.int w4), (.ref be)])) _
    refine XS.iloadN X15.here hx rfl (hb hby d4_78) rfl ?_
    show Steps p.tables e below (T15.setTop (mkF m 79 #[.val (.ref a1), .val (.ref a2), .val (.int p3), .val .null, .val (.int st)] [(.int p3), (.int st), (.int w4), (.ref be)])) _
    refine XS.iadd X15.here hx rfl (hb hby d4_79) rfl ?_
    show Steps p.tables e below (T15.setTop (mkF m 80 #[.val (.ref a1), .val (.ref a2), .val (.int p3), .val .null, .val (.int st)] [(.int (st + p3)), (.int w4), (.ref be)])) _
    refine st16 _ ?_
    show Steps p.tables e below (T16.setTop (mkF m 81 #[.val (.ref a1), .val (.ref a2), .val (.int p3), .val .null, .val (.int st)] [])) _
    exact X16.returnOut hx Bd.returns (hb hby d4_81) hr
  · show Q4 Z a1 a2 p3 w4 st bp be kp ke k2 ve h0 n0 _ T16.heap _
    rw [e16]
    refine ⟨rfl, N16, K16, (((E_a1.keep K10).wr W15).wr W16), (((F_pages_a1.keep K10 hab).other W15 (Or.inr (slot_ne (Or.inl (hw _ (List.mem_of_getElem? (i := 11) rfl))) (Or.inl (hw _ (List.mem_of_getElem? (i := 26) rfl))) (by decide) (t := (.array .int)) (t' := .int) (by decide) (by decide)))).other W16 (Or.inl (Ne.symm hea))), (((F_ends_a1.keep K10 hab).other W15 (Or.inr (slot_ne (Or.inr (hw _ (List.mem_of_getElem? (i := 13) rfl))) (Or.inl (hw _ (List.mem_of_getElem? (i := 26) rfl))) (by decide) (t := (.array .int)) (t' := .int) (by decide) (by decide)))).other W16 (Or.inl (Ne.symm hea))), (Fw15.other W16 (Or.inl (Ne.symm hea))), ⟨_, ?_, ((Vp10.other W15 hpa).other W16 (Ne.symm hebp'))⟩, Ve16, (((Vs.keep K10 h2bp).other W15 h2a).other W16 h2e)⟩
    simp only [List.length_append, List.length_take, List.length_drop, List.length_map, List.length_range, hvp]
    omega
theorem own_m15 (x : Int32) : 0 ≤ (x &&& (15 : Int32)).toInt ∧ (x &&& (15 : Int32)).toInt ≤ 15 := by
  have m := c_mask x 15 4 (by decide) (by decide)
  omega
theorem own_m3 (x : Int32) : (x &&& (3 : Int32)) = (0 : Int32) ∨ (x &&& (3 : Int32)) = (1 : Int32) ∨ (x &&& (3 : Int32)) = (2 : Int32) ∨ (x &&& (3 : Int32)) = (3 : Int32) := by
  have m := c_mask x 3 2 (by decide) (by decide)
  have e0 : (0 : Int32).toInt = 0 := rfl
  have e1 : (1 : Int32).toInt = 1 := rfl
  have e2 : (2 : Int32).toInt = 2 := rfl
  have e3 : (3 : Int32).toInt = 3 := rfl
  simp only [← Int32.toInt_inj, e0, e1, e2, e3]
  omega
theorem own_neg (x : Int32) : (x ||| (-2147483648 : Int32)) < 0 := by
  rw [Int32.lt_iff_toInt_lt]
  exact (c_orS x (-2147483648)).2.2 (by decide)
theorem own_add {a b : Int32} {A B : Int} (a0 : 0 ≤ a.toInt) (a1 : a.toInt ≤ A) (b0 : 0 ≤ b.toInt) (b1 : b.toInt ≤ B) (h : A + B ≤ 1000) : 0 ≤ (a + b).toInt ∧ (a + b).toInt ≤ A + B := by
  have m := c_iadd a b
  have r := rng32 (a + b)
  omega
theorem pn_0 : plainName "com/example/surfwalk/surfwalk/PathsEndPinLaw" = true := by first | (simp [plainName, overriddenIn]; done) | decide +kernel
theorem pd_0_0 : parseMethodDescriptor "()V" = some ⟨[], none⟩ := by decide +kernel
theorem pd_0_1 : parseMethodDescriptor "(I)I" = some ⟨[.int], some .int⟩ := by decide +kernel
theorem ef_0 (m : MethodId) (x0 : Int32) (x1 : Int32) (x2 : Int32) (x3 : Int32) (x4 : Int32) : entryFrame m #[(.int x0), (.int x1), (.int x2), (.int x3), (.int x4)] maxLocals = mkF m 0 #[.val (.int x0), .val (.int x1), .val (.int x2), .val (.int x3), .val (.int x4), .unset, .unset, .unset, .unset, .unset, .unset, .unset, .unset] [] := by first | (simp [entryFrame, mkF, argsToLocals, Value.category, maxLocals]; done) | rfl
theorem pd_0_2 : parseMethodDescriptor "([IILjava/util/SplittableRandom;)V" = some ⟨[(.array .int), .int, (.object "java/util/SplittableRandom")], none⟩ := by decide +kernel
def Q0 (Z : State) (p1 : Int32) (p2 : Int32) (p3 : Int32) (p4 : Int32) (p5 : Int32) (h0 : Heap) (n0 : Nat) (v : Option Value) (h : Heap) (L : List Loc) : Prop := v = some (.int (1 : Int32)) ∧ Fr n0 L
set_option maxRecDepth 65536 in
set_option maxHeartbeats 40000000 in
theorem rm0 (l : Launch) (Z : State) (a0 : Array Value) (hw : ∀ d ∈ tables_1, d.before a0 Z = true) (ws : List Jvm.Cond) (p1 : Int32) (p2 : Int32) (p3 : Int32) (p4 : Int32) (p5 : Int32) (h0 : Heap) (n0 : Nat) (Z0 : n0 ≤ h0.size) :
    MetFree l x (head1 (Jvm.Cond.code x code maxLocals ret :: ws) room_1) (fun a U => a = #[(.int p1), (.int p2), (.int p3), (.int p4), (.int p5)] ∧ Z.Warmed39 U.vm ∧ U.heap = h0) (fun _ _ _ _ _ => True) (fun _ U o U' => ∃ v L, o = .returned v ∧ Q0 Z p1 p2 p3 p4 p5 h0 n0 v U'.heap L ∧ FrameEnd U o U' L room_1.cells room_1.slots) := by
  refine MetFree.of_bodySF (plainFor_of_name pn_0) hisR ?_
  intro p e s m args below meth c s₁ Bd hml0 hP hK
  obtain ⟨rfl, hZ, hh⟩ := hP
  have hx := Bd.exec
  have hby := Bd.bytes
  have hml : c.maxLocals = 13 := hml0
  have hown : s.vm.findClass "com/example/surfwalk/surfwalk/PathsEndPinLaw" = some m.cls := findClass_of_methodNamed Bd.named
  have hnm := (name_of_methodNamed Bd.named Bd.method).1
  have X0 : Stand p l e room_1 s m #[(.int p1), (.int p2), (.int p3), (.int p4), (.int p5)] below meth c s₁ [] 0 0 := Stand.of_body Bd
  have e0 : s₁.heap = h0 := by rw [← hh, Bd.state]; rfl
  have N0 := Fr.nil n0
  have pre0 : ∀ t, Steps p.tables e below (s₁.setTop (mkF m 0 #[.val (.int p1), .val (.int p2), .val (.int p3), .val (.int p4), .val (.int p5), .unset, .unset, .unset, .unset, .unset, .unset, .unset, .unset] [])) t → Steps p.tables e below (s₁.setTop (entryFrame m #[(.int p1), (.int p2), (.int p3), (.int p4), (.int p5)] maxLocals)) t := fun t k => castTop (ef_0 m p1 p2 p3 p4 p5) k
  obtain ⟨ct, la, lb, lc, hct, la0, la1, lb0, lb1, lc0, lc1, pre1⟩ : ∃ ct la lb lc : Int32, (ct = (0 : Int32) ∨ ct = (1 : Int32) ∨ ct = (2 : Int32) ∨ ct = (3 : Int32)) ∧ 0 ≤ la.toInt ∧ la.toInt ≤ 15 ∧ 0 ≤ lb.toInt ∧ lb.toInt ≤ 15 ∧ 0 ≤ lc.toInt ∧ lc.toInt ≤ 15 ∧ (∀ t, Steps p.tables e below (s₁.setTop (mkF m 23 #[.val (.int p1), .val (.int p2), .val (.int p3), .val (.int p4), .val (.int p5), .val (.int ct), .val (.int la), .val (.int lb), .val (.int lc), .unset, .unset, .unset, .unset] [])) t → Steps p.tables e below (s₁.setTop (mkF m 0 #[.val (.int p1), .val (.int p2), .val (.int p3), .val (.int p4), .val (.int p5), .unset, .unset, .unset, .unset, .unset, .unset, .unset, .unset] [])) t) := by
    refine ⟨(p1 &&& (3 : Int32)), (p2 &&& (15 : Int32)), (p3 &&& (15 : Int32)), (p4 &&& (15 : Int32)), own_m3 p1, (own_m15 p2).1, (own_m15 p2).2, (own_m15 p3).1, (own_m15 p3).2, (own_m15 p4).1, (own_m15 p4).2, fun t kt => ?_⟩
    show Steps p.tables e below (s₁.setTop (mkF m 0 #[.val (.int p1), .val (.int p2), .val (.int p3), .val (.int p4), .val (.int p5), .unset, .unset, .unset, .unset, .unset, .unset, .unset, .unset] [])) _
    refine XS.iloadN X0.here hx rfl (hb hby at_0) rfl ?_
    show Steps p.tables e below (s₁.setTop (mkF m 1 #[.val (.int p1), .val (.int p2), .val (.int p3), .val (.int p4), .val (.int p5), .unset, .unset, .unset, .unset, .unset, .unset, .unset, .unset] [(.int p1)])) _
    refine XS.iconst X0.here hx rfl (hb hby at_1) ?_
    show Steps p.tables e below (s₁.setTop (mkF m 2 #[.val (.int p1), .val (.int p2), .val (.int p3), .val (.int p4), .val (.int p5), .unset, .unset, .unset, .unset, .unset, .unset, .unset, .unset] [(.int (3 : Int32)), (.int p1)])) _
    refine XS.iand X0.here hx rfl (hb hby at_2) rfl ?_
    show Steps p.tables e below (s₁.setTop (mkF m 3 #[.val (.int p1), .val (.int p2), .val (.int p3), .val (.int p4), .val (.int p5), .unset, .unset, .unset, .unset, .unset, .unset, .unset, .unset] [(.int (p1 &&& (3 : Int32)))])) _
    refine XS.istore X0.here hx rfl (hb hby at_3) rfl (l' := #[.val (.int p1), .val (.int p2), .val (.int p3), .val (.int p4), .val (.int p5), .val (.int (p1 &&& (3 : Int32))), .unset, .unset, .unset, .unset, .unset, .unset, .unset]) rfl ?_
    show Steps p.tables e below (s₁.setTop (mkF m 5 #[.val (.int p1), .val (.int p2), .val (.int p3), .val (.int p4), .val (.int p5), .val (.int (p1 &&& (3 : Int32))), .unset, .unset, .unset, .unset, .unset, .unset, .unset] [])) _
    refine XS.iloadN X0.here hx rfl (hb hby at_5) rfl ?_
    show Steps p.tables e below (s₁.setTop (mkF m 6 #[.val (.int p1), .val (.int p2), .val (.int p3), .val (.int p4), .val (.int p5), .val (.int (p1 &&& (3 : Int32))), .unset, .unset, .unset, .unset, .unset, .unset, .unset] [(.int p2)])) _
    refine XS.bipush X0.here hx rfl (hb hby at_6) ?_
    show Steps p.tables e below (s₁.setTop (mkF m 8 #[.val (.int p1), .val (.int p2), .val (.int p3), .val (.int p4), .val (.int p5), .val (.int (p1 &&& (3 : Int32))), .unset, .unset, .unset, .unset, .unset, .unset, .unset] [(.int (15 : Int32)), (.int p2)])) _
    refine XS.iand X0.here hx rfl (hb hby at_8) rfl ?_
    show Steps p.tables e below (s₁.setTop (mkF m 9 #[.val (.int p1), .val (.int p2), .val (.int p3), .val (.int p4), .val (.int p5), .val (.int (p1 &&& (3 : Int32))), .unset, .unset, .unset, .unset, .unset, .unset, .unset] [(.int (p2 &&& (15 : Int32)))])) _
    refine XS.istore X0.here hx rfl (hb hby at_9) rfl (l' := #[.val (.int p1), .val (.int p2), .val (.int p3), .val (.int p4), .val (.int p5), .val (.int (p1 &&& (3 : Int32))), .val (.int (p2 &&& (15 : Int32))), .unset, .unset, .unset, .unset, .unset, .unset]) rfl ?_
    show Steps p.tables e below (s₁.setTop (mkF m 11 #[.val (.int p1), .val (.int p2), .val (.int p3), .val (.int p4), .val (.int p5), .val (.int (p1 &&& (3 : Int32))), .val (.int (p2 &&& (15 : Int32))), .unset, .unset, .unset, .unset, .unset, .unset] [])) _
    refine XS.iloadN X0.here hx rfl (hb hby at_11) rfl ?_
    show Steps p.tables e below (s₁.setTop (mkF m 12 #[.val (.int p1), .val (.int p2), .val (.int p3), .val (.int p4), .val (.int p5), .val (.int (p1 &&& (3 : Int32))), .val (.int (p2 &&& (15 : Int32))), .unset, .unset, .unset, .unset, .unset, .unset] [(.int p3)])) _
    refine XS.bipush X0.here hx rfl (hb hby at_12) ?_
    show Steps p.tables e below (s₁.setTop (mkF m 14 #[.val (.int p1), .val (.int p2), .val (.int p3), .val (.int p4), .val (.int p5), .val (.int (p1 &&& (3 : Int32))), .val (.int (p2 &&& (15 : Int32))), .unset, .unset, .unset, .unset, .unset, .unset] [(.int (15 : Int32)), (.int p3)])) _
    refine XS.iand X0.here hx rfl (hb hby at_14) rfl ?_
    show Steps p.tables e below (s₁.setTop (mkF m 15 #[.val (.int p1), .val (.int p2), .val (.int p3), .val (.int p4), .val (.int p5), .val (.int (p1 &&& (3 : Int32))), .val (.int (p2 &&& (15 : Int32))), .unset, .unset, .unset, .unset, .unset, .unset] [(.int (p3 &&& (15 : Int32)))])) _
    refine XS.istore X0.here hx rfl (hb hby at_15) rfl (l' := #[.val (.int p1), .val (.int p2), .val (.int p3), .val (.int p4), .val (.int p5), .val (.int (p1 &&& (3 : Int32))), .val (.int (p2 &&& (15 : Int32))), .val (.int (p3 &&& (15 : Int32))), .unset, .unset, .unset, .unset, .unset]) rfl ?_
    show Steps p.tables e below (s₁.setTop (mkF m 17 #[.val (.int p1), .val (.int p2), .val (.int p3), .val (.int p4), .val (.int p5), .val (.int (p1 &&& (3 : Int32))), .val (.int (p2 &&& (15 : Int32))), .val (.int (p3 &&& (15 : Int32))), .unset, .unset, .unset, .unset, .unset] [])) _
    refine XS.iloadN X0.here hx rfl (hb hby at_17) rfl ?_
    show Steps p.tables e below (s₁.setTop (mkF m 18 #[.val (.int p1), .val (.int p2), .val (.int p3), .val (.int p4), .val (.int p5), .val (.int (p1 &&& (3 : Int32))), .val (.int (p2 &&& (15 : Int32))), .val (.int (p3 &&& (15 : Int32))), .unset, .unset, .unset, .unset, .unset] [(.int p4)])) _
    refine XS.bipush X0.here hx rfl (hb hby at_18) ?_
    show Steps p.tables e below (s₁.setTop (mkF m 20 #[.val (.int p1), .val (.int p2), .val (.int p3), .val (.int p4), .val (.int p5), .val (.int (p1 &&& (3 : Int32))), .val (.int (p2 &&& (15 : Int32))), .val (.int (p3 &&& (15 : Int32))), .unset, .unset, .unset, .unset, .unset] [(.int (15 : Int32)), (.int p4)])) _
    refine XS.iand X0.here hx rfl (hb hby at_20) rfl ?_
    show Steps p.tables e below (s₁.setTop (mkF m 21 #[.val (.int p1), .val (.int p2), .val (.int p3), .val (.int p4), .val (.int p5), .val (.int (p1 &&& (3 : Int32))), .val (.int (p2 &&& (15 : Int32))), .val (.int (p3 &&& (15 : Int32))), .unset, .unset, .unset, .unset, .unset] [(.int (p4 &&& (15 : Int32)))])) _
    refine XS.istore X0.here hx rfl (hb hby at_21) rfl (l' := #[.val (.int p1), .val (.int p2), .val (.int p3), .val (.int p4), .val (.int p5), .val (.int (p1 &&& (3 : Int32))), .val (.int (p2 &&& (15 : Int32))), .val (.int (p3 &&& (15 : Int32))), .val (.int (p4 &&& (15 : Int32))), .unset, .unset, .unset, .unset]) rfl ?_
    exact kt
  have s2 := own_add la0 la1 lb0 lb1 (by decide)
  have s20 := s2.1
  have s21 := s2.2
  rcases hct with rfl | rfl | rfl | rfl
  · skip
    obtain ⟨T6, h6, k6, X6, e6, E6, A6, st6⟩ := newP X0 hx hZ (hw _ (List.mem_of_getElem? (i := 0) rfl)) e0 (g := (mkF m 25 #[.val (.int p1), .val (.int p2), .val (.int p3), .val (.int p4), .val (.int p5), .val (.int (0 : Int32)), .val (.int la), .val (.int lb), .val (.int lc), .unset, .unset, .unset, .unset] [(.int (16 : Int32))])) rfl (hb hby at_25) rfl (by decide) (cap := 16) (by decide) (by decide) (by decide) (by decide)
    obtain ⟨b6, g6⟩ : ∃ z, z = h0.size := ⟨_, rfl⟩
    rw [← g6] at A6 st6
    have V_b6 : Arv Z h6 b6 k6 .int (16 : Int32) [(.int (0 : Int32)), (.int (0 : Int32)), (.int (0 : Int32)), (.int (0 : Int32)), (.int (0 : Int32)), (.int (0 : Int32)), (.int (0 : Int32)), (.int (0 : Int32)), (.int (0 : Int32)), (.int (0 : Int32)), (.int (0 : Int32)), (.int (0 : Int32)), (.int (0 : Int32)), (.int (0 : Int32)), (.int (0 : Int32)), (.int (0 : Int32))] (.int (0 : Int32)) := (Arv.new A6 (by decide)).pad (pad_rep [] (.int (0 : Int32)) 16)
    have g_b6 : n0 ≤ b6 := Nat.le_trans Z0 (Nat.le_of_eq g6.symm)
    have sz_b6 : h0.size ≤ b6 := (Nat.le_trans (Keep.refl h0 []).1 (Nat.le_of_eq g6.symm))
    have K6 : Keep h0 h6 [] := (Keep.refl h0 []).ext E6
    obtain ⟨T7, h7, X7, e7, E7, A7, D7, -, st7⟩ := newO X6 hx hZ hown (hw _ (List.mem_of_getElem? (i := 1) rfl)) (hw _ (List.mem_of_getElem? (i := 2) rfl)) (hw _ (List.mem_of_getElem? (i := 3) rfl)) e6 (g := (mkF m 29 #[.val (.int p1), .val (.int p2), .val (.int p3), .val (.int p4), .val (.int p5), .val (.int (0 : Int32)), .val (.int la), .val (.int lb), .val (.int lc), .val (.ref b6), .unset, .unset, .unset] [])) rfl (hb hby at_29) (by decide) (by decide)
    obtain ⟨b7, g7⟩ : ∃ z, z = h6.size := ⟨_, rfl⟩
    rw [← g7] at A7 D7 st7
    have F_pages_b7 : Fld Z h7 b7 "com/example/surfwalk/surfwalk/Surfer$Paths" "pages" "[I" .null := D7 (Or.inl (hw _ (List.mem_of_getElem? (i := 11) rfl))) (ty := (.array .int)) (by decide)
    have F_ends_b7 : Fld Z h7 b7 "com/example/surfwalk/surfwalk/Surfer$Paths" "ends" "[I" .null := D7 (Or.inr (hw _ (List.mem_of_getElem? (i := 13) rfl))) (ty := (.array .int)) (by decide)
    have F_count_b7 : Fld Z h7 b7 "com/example/surfwalk/surfwalk/Surfer$Paths" "count" "I" (.int (0 : Int32)) := D7 (Or.inl (hw _ (List.mem_of_getElem? (i := 26) rfl))) (ty := .int) (by decide)
    have E_b7 := A7
    have g_b7 : n0 ≤ b7 := Nat.le_trans (Nat.le_trans Z0 E6.1) (Nat.le_of_eq g7.symm)
    have sz_b7 : h0.size ≤ b7 := (Nat.le_trans K6.1 (Nat.le_of_eq g7.symm))
    have K7 : Keep h0 h7 [] := K6.ext E7
    obtain ⟨_, _, ⟨T8, L8, k8, n8⟩, -, X8, ⟨Lc8, hQ8, l8, y8, z8⟩, st8⟩ := X7.specialBack hx (y := (⟨"com/example/surfwalk/surfwalk/Surfer$Paths", "<init>", "()V"⟩ : MethodName)) rfl hown (mvT hZ (hw _ (List.mem_of_getElem? (i := 4) rfl))) (mvT hZ (hw _ (List.mem_of_getElem? (i := 5) rfl))) (mvT hZ (hw _ (List.mem_of_getElem? (i := 6) rfl))) (by decide) (backOf (W := 1) (rm1 l Z a0 hw [] b7 .null .null h7 n0 (Nat.le_trans Z0 K7.1) E_b7 F_pages_b7 g_b7 F_ends_b7 F_count_b7) hZ (hw _ (List.mem_of_getElem? (i := 6) rfl)) (hw _ (List.mem_of_getElem? (i := 3) rfl)) (by decide) (by decide)) (g := (mkF m 33 #[.val (.int p1), .val (.int p2), .val (.int p3), .val (.int p4), .val (.int p5), .val (.int (0 : Int32)), .val (.int la), .val (.int lb), .val (.int lc), .val (.ref b6), .unset, .unset, .unset] [(.ref b7), (.ref b7)])) rfl (by rw [hml]; rfl) (Steps.refl _) (a := b7) (argsL := []) (rest := [(.ref b7)]) (lenOf pd_0_0 rfl) rfl (by show 2 * 0 + _ ≤ _; exact Nat.le_of_eq rfl) (hb hby at_33) (fun _ _ => ⟨rfl, e7, (by decide : 2 + 2 ≤ _), (by decide : 19 + 5120 ≤ _)⟩)
    dsimp only [Pt.U, Pt.locs, Pt.cells, Pt.slots] at X8 l8 y8 z8 st8 hQ8
    subst l8 y8 z8
    obtain ⟨rfl, N8q, Kc, Ex0, Fc0, bp, be, kp, ke, szp, sze, hpe, Fp0, Fe0, Vp0, Ve0⟩ := hQ8
    have gbp : n0 ≤ bp := Nat.le_trans (Nat.le_trans Z0 K7.1) szp
    have gbe : n0 ≤ be := Nat.le_trans (Nat.le_trans Z0 K7.1) sze
    have hbe : be ≠ bp := Ne.symm hpe
    have VsA : Arv Z h6 b6 k6 .int (16 : Int32) [] (.int (0 : Int32)) := (Arv.new A6 (by decide) : Arv Z h6 b6 k6 .int (16 : Int32) [] (.int (0 : Int32)))
    have VsB : Arv Z h7 b6 k6 .int (16 : Int32) [] (.int (0 : Int32)) := VsA.ext E7
    have hAp : b6 ≠ bp := Nat.ne_of_lt (Nat.lt_of_lt_of_le VsB.lt szp)
    have hAe : b6 ≠ be := Nat.ne_of_lt (Nat.lt_of_lt_of_le VsB.lt sze)
    have hAP : b6 ∉ [b7] := fun z => Nat.ne_of_lt (Nat.lt_of_lt_of_le VsA.lt (Nat.le_of_eq g7.symm)) (List.mem_singleton.mp z)
    have Vs0 : Arv Z T8.heap b6 k6 .int (16 : Int32) [] (.int (0 : Int32)) := VsB.keep Kc hAP
    have hv0 : (List.replicate 48 (.int (0 : Int32)) : List Value).length = 48 := by simp
    obtain ⟨vp0, evp0⟩ : ∃ z : List Value, z = List.replicate 48 (.int (0 : Int32)) := ⟨_, rfl⟩
    rw [← evp0] at Vp0 hv0
    have N8 := Fr.app N0 N8q
    obtain ⟨cq9, kq9, q9a, q9b, q9c⟩ := isOf hZ rfl Ex0
    obtain ⟨_, _, ⟨T9, L9, k9, n9⟩, -, X9, ⟨Lc9, hQ9, l9, y9, z9⟩, st9⟩ := X8.virtualBack hx (y := (⟨"com/example/surfwalk/surfwalk/Surfer$Paths", "end", "(I)I"⟩ : MethodName)) (z := (⟨"com/example/surfwalk/surfwalk/Surfer$Paths", "end", "(I)I"⟩ : MethodName)) hown (mvT hZ (hw _ (List.mem_of_getElem? (i := 15) rfl))) (mvT hZ (hw _ (List.mem_of_getElem? (i := 16) rfl))) (notFace_of_selects (args := #[]) (mvT hZ (hw _ (List.mem_of_getElem? (i := 18) rfl)))) (mvT hZ (hw _ (List.mem_of_getElem? (i := 18) rfl))) (mvT hZ (hw _ (List.mem_of_getElem? (i := 17) rfl))) (by decide) (backOf (W := 0) (rm3n l Z a0 hw [] b7 (-1 : Int32) T8.heap n0 (Nat.le_trans (Nat.le_trans Z0 K7.1) Kc.1) (by decide)) hZ (hw _ (List.mem_of_getElem? (i := 19) rfl)) (hw _ (List.mem_of_getElem? (i := 3) rfl)) (by decide) (by decide)) q9a q9c (g := (mkF m 95 #[.val (.int p1), .val (.int p2), .val (.int p3), .val (.int p4), .val (.int p5), .val (.int (0 : Int32)), .val (.int la), .val (.int lb), .val (.int lc), .val (.ref b6), .val (.ref b7), .val (.int (p5 ||| (-2147483648 : Int32))), .unset] [(.int (-1 : Int32)), (.ref b7)])) rfl (by rw [hml]; rfl) (Steps.refl _) (argsL := [(.int (-1 : Int32))]) (rest := []) (lenOf pd_0_1 rfl) rfl (by show 2 * 0 + _ ≤ _; exact Nat.le_of_eq rfl) (hb hby at_95) (fun _ _ => ⟨rfl, rfl, (by decide : 4 + 0 ≤ _), (by decide : 5139 + 0 ≤ _)⟩)
    dsimp only [Pt.U, Pt.locs, Pt.cells, Pt.slots] at X9 l9 y9 z9 st9 hQ9
    subst l9 y9 z9
    obtain ⟨rfl, N9q, e9⟩ := hQ9
    have N9 := Fr.app N8 N9q
    obtain ⟨cq10, kq10, q10a, q10b, q10c⟩ := isOf hZ e9 Ex0
    obtain ⟨_, _, ⟨T10, L10, k10, n10⟩, -, X10, ⟨Lc10, hQ10, l10, y10, z10⟩, st10⟩ := X9.virtualBack hx (y := (⟨"com/example/surfwalk/surfwalk/Surfer$Paths", "end", "(I)I"⟩ : MethodName)) (z := (⟨"com/example/surfwalk/surfwalk/Surfer$Paths", "end", "(I)I"⟩ : MethodName)) hown (mvT hZ (hw _ (List.mem_of_getElem? (i := 15) rfl))) (mvT hZ (hw _ (List.mem_of_getElem? (i := 16) rfl))) (notFace_of_selects (args := #[]) (mvT hZ (hw _ (List.mem_of_getElem? (i := 18) rfl)))) (mvT hZ (hw _ (List.mem_of_getElem? (i := 18) rfl))) (mvT hZ (hw _ (List.mem_of_getElem? (i := 17) rfl))) (by decide) (backOf (W := 0) (rm3n l Z a0 hw [] b7 (p5 ||| (-2147483648 : Int32)) T8.heap n0 (Nat.le_trans (Nat.le_trans Z0 K7.1) Kc.1) (own_neg p5)) hZ (hw _ (List.mem_of_getElem? (i := 19) rfl)) (hw _ (List.mem_of_getElem? (i := 3) rfl)) (by decide) (by decide)) q10a q10c (g := (mkF m 105 #[.val (.int p1), .val (.int p2), .val (.int p3), .val (.int p4), .val (.int p5), .val (.int (0 : Int32)), .val (.int la), .val (.int lb), .val (.int lc), .val (.ref b6), .val (.ref b7), .val (.int (p5 ||| (-2147483648 : Int32))), .unset] [(.int (p5 ||| (-2147483648 : Int32))), (.ref b7)])) rfl (by rw [hml]; rfl) (Steps.refl _) (argsL := [(.int (p5 ||| (-2147483648 : Int32)))]) (rest := []) (lenOf pd_0_1 rfl) rfl (by show 2 * 0 + _ ≤ _; exact Nat.le_of_eq rfl) (hb hby at_105) (fun _ _ => ⟨rfl, e9, (by decide : 4 + 0 ≤ _), (by decide : 5139 + 0 ≤ _)⟩)
    dsimp only [Pt.U, Pt.locs, Pt.cells, Pt.slots] at X10 l10 y10 z10 st10 hQ10
    subst l10 y10 z10
    obtain ⟨rfl, N10q, e10⟩ := hQ10
    have N10 := Fr.app N9 N10q
    obtain ⟨fs, hr, hrun, hended, hW, hsame⟩ := X10.leave (v := some (.int (1 : Int32))) (fun h => by rw [Bd.returns] at h; cases h)
    refine ⟨_, _, pre0 _ (pre1 _ ?_), hrun, hended, _, _, rfl, ?_, ⟨_, rfl⟩, hW, hsame.mono (by decide) (by decide)⟩
    · show Steps p.tables e below (s₁.setTop (mkF m 23 #[.val (.int p1), .val (.int p2), .val (.int p3), .val (.int p4), .val (.int p5), .val (.int (0 : Int32)), .val (.int la), .val (.int lb), .val (.int lc), .unset, .unset, .unset, .unset] [])) _
      refine XS.bipush X0.here hx rfl (hb hby at_23) ?_
      show Steps p.tables e below (s₁.setTop (mkF m 25 #[.val (.int p1), .val (.int p2), .val (.int p3), .val (.int p4), .val (.int p5), .val (.int (0 : Int32)), .val (.int la), .val (.int lb), .val (.int lc), .unset, .unset, .unset, .unset] [(.int (16 : Int32))])) _
      refine st6 _ ?_
      show Steps p.tables e below (T6.setTop (mkF m 27 #[.val (.int p1), .val (.int p2), .val (.int p3), .val (.int p4), .val (.int p5), .val (.int (0 : Int32)), .val (.int la), .val (.int lb), .val (.int lc), .unset, .unset, .unset, .unset] [(.ref b6)])) _
      refine XS.astore X6.here hx rfl (hb hby at_27) rfl rfl (l' := #[.val (.int p1), .val (.int p2), .val (.int p3), .val (.int p4), .val (.int p5), .val (.int (0 : Int32)), .val (.int la), .val (.int lb), .val (.int lc), .val (.ref b6), .unset, .unset, .unset]) rfl ?_
      show Steps p.tables e below (T6.setTop (mkF m 29 #[.val (.int p1), .val (.int p2), .val (.int p3), .val (.int p4), .val (.int p5), .val (.int (0 : Int32)), .val (.int la), .val (.int lb), .val (.int lc), .val (.ref b6), .unset, .unset, .unset] [])) _
      refine st7 _ ?_
      show Steps p.tables e below (T7.setTop (mkF m 32 #[.val (.int p1), .val (.int p2), .val (.int p3), .val (.int p4), .val (.int p5), .val (.int (0 : Int32)), .val (.int la), .val (.int lb), .val (.int lc), .val (.ref b6), .unset, .unset, .unset] [(.ref b7)])) _
      refine XS.dup X7.here hx rfl (hb hby at_32) rfl rfl ?_
      show Steps p.tables e below (T7.setTop (mkF m 33 #[.val (.int p1), .val (.int p2), .val (.int p3), .val (.int p4), .val (.int p5), .val (.int (0 : Int32)), .val (.int la), .val (.int lb), .val (.int lc), .val (.ref b6), .unset, .unset, .unset] [(.ref b7), (.ref b7)])) _
      refine st8.trans ?_
      show Steps p.tables e below (T8.setTop (mkF m 36 #[.val (.int p1), .val (.int p2), .val (.int p3), .val (.int p4), .val (.int p5), .val (.int (0 : Int32)), .val (.int la), .val (.int lb), .val (.int lc), .val (.ref b6), .unset, .unset, .unset] [(.ref b7)])) _
      refine XS.astore X8.here hx rfl (hb hby at_36) rfl rfl (l' := #[.val (.int p1), .val (.int p2), .val (.int p3), .val (.int p4), .val (.int p5), .val (.int (0 : Int32)), .val (.int la), .val (.int lb), .val (.int lc), .val (.ref b6), .val (.ref b7), .unset, .unset]) rfl ?_
      show Steps p.tables e below (T8.setTop (mkF m 38 #[.val (.int p1), .val (.int p2), .val (.int p3), .val (.int p4), .val (.int p5), .val (.int (0 : Int32)), .val (.int la), .val (.int lb), .val (.int lc), .val (.ref b6), .val (.ref b7), .unset, .unset] [])) _
      refine XS.iload X8.here hx rfl (hb hby at_38) rfl ?_
      show Steps p.tables e below (T8.setTop (mkF m 40 #[.val (.int p1), .val (.int p2), .val (.int p3), .val (.int p4), .val (.int p5), .val (.int (0 : Int32)), .val (.int la), .val (.int lb), .val (.int lc), .val (.ref b6), .val (.ref b7), .unset, .unset] [(.int (0 : Int32))])) _
      refine XS.ifYes X8.here hx rfl (pc0 := 40) (pc' := 53) rfl (hb hby at_40) rfl ((if0 _ _).trans (flt (by decide : ¬ ((0 : Int32) < (0 : Int32)))).2.2.2) (by decide) (by decide) ?_
      show Steps p.tables e below (T8.setTop (mkF m 53 #[.val (.int p1), .val (.int p2), .val (.int p3), .val (.int p4), .val (.int p5), .val (.int (0 : Int32)), .val (.int la), .val (.int lb), .val (.int lc), .val (.ref b6), .val (.ref b7), .unset, .unset] [])) _
      refine XS.iload X8.here hx rfl (hb hby at_53) rfl ?_
      show Steps p.tables e below (T8.setTop (mkF m 55 #[.val (.int p1), .val (.int p2), .val (.int p3), .val (.int p4), .val (.int p5), .val (.int (0 : Int32)), .val (.int la), .val (.int lb), .val (.int lc), .val (.ref b6), .val (.ref b7), .unset, .unset] [(.int (0 : Int32))])) _
      refine XS.iconst X8.here hx rfl (hb hby at_55) ?_
      show Steps p.tables e below (T8.setTop (mkF m 56 #[.val (.int p1), .val (.int p2), .val (.int p3), .val (.int p4), .val (.int p5), .val (.int (0 : Int32)), .val (.int la), .val (.int lb), .val (.int lc), .val (.ref b6), .val (.ref b7), .unset, .unset] [(.int (1 : Int32)), (.int (0 : Int32))])) _
      refine XS.icmpYes X8.here hx rfl (pc0 := 56) (pc' := 69) rfl (hb hby at_56) rfl (flt (by decide : ¬ ((1 : Int32) < (0 : Int32)))).2.2.2 (by decide) (by decide) ?_
      show Steps p.tables e below (T8.setTop (mkF m 69 #[.val (.int p1), .val (.int p2), .val (.int p3), .val (.int p4), .val (.int p5), .val (.int (0 : Int32)), .val (.int la), .val (.int lb), .val (.int lc), .val (.ref b6), .val (.ref b7), .unset, .unset] [])) _
      refine XS.iload X8.here hx rfl (hb hby at_69) rfl ?_
      show Steps p.tables e below (T8.setTop (mkF m 71 #[.val (.int p1), .val (.int p2), .val (.int p3), .val (.int p4), .val (.int p5), .val (.int (0 : Int32)), .val (.int la), .val (.int lb), .val (.int lc), .val (.ref b6), .val (.ref b7), .unset, .unset] [(.int (0 : Int32))])) _
      refine XS.iconst X8.here hx rfl (hb hby at_71) ?_
      show Steps p.tables e below (T8.setTop (mkF m 72 #[.val (.int p1), .val (.int p2), .val (.int p3), .val (.int p4), .val (.int p5), .val (.int (0 : Int32)), .val (.int la), .val (.int lb), .val (.int lc), .val (.ref b6), .val (.ref b7), .unset, .unset] [(.int (2 : Int32)), (.int (0 : Int32))])) _
      refine XS.icmpYes X8.here hx rfl (pc0 := 72) (pc' := 85) rfl (hb hby at_72) rfl (flt (by decide : ¬ ((2 : Int32) < (0 : Int32)))).2.2.2 (by decide) (by decide) ?_
      show Steps p.tables e below (T8.setTop (mkF m 85 #[.val (.int p1), .val (.int p2), .val (.int p3), .val (.int p4), .val (.int p5), .val (.int (0 : Int32)), .val (.int la), .val (.int lb), .val (.int lc), .val (.ref b6), .val (.ref b7), .unset, .unset] [])) _
      refine XS.iload X8.here hx rfl (hb hby at_85) rfl ?_
      show Steps p.tables e below (T8.setTop (mkF m 87 #[.val (.int p1), .val (.int p2), .val (.int p3), .val (.int p4), .val (.int p5), .val (.int (0 : Int32)), .val (.int la), .val (.int lb), .val (.int lc), .val (.ref b6), .val (.ref b7), .unset, .unset] [(.int p5)])) _
      refine X8.ldcInt hx hown (mvT hZ (hw _ (List.mem_of_getElem? (i := 14) rfl))) (g := (mkF m 87 #[.val (.int p1), .val (.int p2), .val (.int p3), .val (.int p4), .val (.int p5), .val (.int (0 : Int32)), .val (.int la), .val (.int lb), .val (.int lc), .val (.ref b6), .val (.ref b7), .unset, .unset] [(.int p5)])) rfl (hb hby at_87) _ ?_
      show Steps p.tables e below (T8.setTop (mkF m 89 #[.val (.int p1), .val (.int p2), .val (.int p3), .val (.int p4), .val (.int p5), .val (.int (0 : Int32)), .val (.int la), .val (.int lb), .val (.int lc), .val (.ref b6), .val (.ref b7), .unset, .unset] [(.int (-2147483648 : Int32)), (.int p5)])) _
      refine XS.ior X8.here hx rfl (hb hby at_89) rfl ?_
      show Steps p.tables e below (T8.setTop (mkF m 90 #[.val (.int p1), .val (.int p2), .val (.int p3), .val (.int p4), .val (.int p5), .val (.int (0 : Int32)), .val (.int la), .val (.int lb), .val (.int lc), .val (.ref b6), .val (.ref b7), .unset, .unset] [(.int (p5 ||| (-2147483648 : Int32)))])) _
      refine XS.istore X8.here hx rfl (hb hby at_90) rfl (l' := #[.val (.int p1), .val (.int p2), .val (.int p3), .val (.int p4), .val (.int p5), .val (.int (0 : Int32)), .val (.int la), .val (.int lb), .val (.int lc), .val (.ref b6), .val (.ref b7), .val (.int (p5 ||| (-2147483648 : Int32))), .unset]) rfl ?_
      show Steps p.tables e below (T8.setTop (mkF m 92 #[.val (.int p1), .val (.int p2), .val (.int p3), .val (.int p4), .val (.int p5), .val (.int (0 : Int32)), .val (.int la), .val (.int lb), .val (.int lc), .val (.ref b6), .val (.ref b7), .val (.int (p5 ||| (-2147483648 : Int32))), .unset] [])) _
      refine XS.aload X8.here hx rfl (hb hby at_92) rfl rfl ?_
      show Steps p.tables e below (T8.setTop (mkF m 94 #[.val (.int p1), .val (.int p2), .val (.int p3), .val (.int p4), .val (.int p5), .val (.int (0 : Int32)), .val (.int la), .val (.int lb), .val (.int lc), .val (.ref b6), .val (.ref b7), .val (.int (p5 ||| (-2147483648 : Int32))), .unset] [(.ref b7)])) _
      refine XS.iconst X8.here hx rfl (hb hby at_94) ?_
      show Steps p.tables e below (T8.setTop (mkF m 95 #[.val (.int p1), .val (.int p2), .val (.int p3), .val (.int p4), .val (.int p5), .val (.int (0 : Int32)), .val (.int la), .val (.int lb), .val (.int lc), .val (.ref b6), .val (.ref b7), .val (.int (p5 ||| (-2147483648 : Int32))), .unset] [(.int (-1 : Int32)), (.ref b7)])) _
      refine st9.trans ?_
      show Steps p.tables e below (T9.setTop (mkF m 98 #[.val (.int p1), .val (.int p2), .val (.int p3), .val (.int p4), .val (.int p5), .val (.int (0 : Int32)), .val (.int la), .val (.int lb), .val (.int lc), .val (.ref b6), .val (.ref b7), .val (.int (p5 ||| (-2147483648 : Int32))), .unset] [(.int (0 : Int32))])) _
      refine XS.ifNo X9.here hx rfl (hb hby at_98) rfl ((if0 _ _).trans (teq (rfl : (0 : Int32) = (0 : Int32))).2) ?_
      show Steps p.tables e below (T9.setTop (mkF m 101 #[.val (.int p1), .val (.int p2), .val (.int p3), .val (.int p4), .val (.int p5), .val (.int (0 : Int32)), .val (.int la), .val (.int lb), .val (.int lc), .val (.ref b6), .val (.ref b7), .val (.int (p5 ||| (-2147483648 : Int32))), .unset] [])) _
      refine XS.aload X9.here hx rfl (hb hby at_101) rfl rfl ?_
      show Steps p.tables e below (T9.setTop (mkF m 103 #[.val (.int p1), .val (.int p2), .val (.int p3), .val (.int p4), .val (.int p5), .val (.int (0 : Int32)), .val (.int la), .val (.int lb), .val (.int lc), .val (.ref b6), .val (.ref b7), .val (.int (p5 ||| (-2147483648 : Int32))), .unset] [(.ref b7)])) _
      refine XS.iload X9.here hx rfl (hb hby at_103) rfl ?_
      show Steps p.tables e below (T9.setTop (mkF m 105 #[.val (.int p1), .val (.int p2), .val (.int p3), .val (.int p4), .val (.int p5), .val (.int (0 : Int32)), .val (.int la), .val (.int lb), .val (.int lc), .val (.ref b6), .val (.ref b7), .val (.int (p5 ||| (-2147483648 : Int32))), .unset] [(.int (p5 ||| (-2147483648 : Int32))), (.ref b7)])) _
      refine st10.trans ?_
      show Steps p.tables e below (T10.setTop (mkF m 108 #[.val (.int p1), .val (.int p2), .val (.int p3), .val (.int p4), .val (.int p5), .val (.int (0 : Int32)), .val (.int la), .val (.int lb), .val (.int lc), .val (.ref b6), .val (.ref b7), .val (.int (p5 ||| (-2147483648 : Int32))), .unset] [(.int (0 : Int32))])) _
      refine XS.ifNo X10.here hx rfl (hb hby at_108) rfl ((if0 _ _).trans (teq (rfl : (0 : Int32) = (0 : Int32))).2) ?_
      show Steps p.tables e below (T10.setTop (mkF m 111 #[.val (.int p1), .val (.int p2), .val (.int p3), .val (.int p4), .val (.int p5), .val (.int (0 : Int32)), .val (.int la), .val (.int lb), .val (.int lc), .val (.ref b6), .val (.ref b7), .val (.int (p5 ||| (-2147483648 : Int32))), .unset] [])) _
      refine XS.iconst X10.here hx rfl (hb hby at_111) ?_
      show Steps p.tables e below (T10.setTop (mkF m 112 #[.val (.int p1), .val (.int p2), .val (.int p3), .val (.int p4), .val (.int p5), .val (.int (0 : Int32)), .val (.int la), .val (.int lb), .val (.int lc), .val (.ref b6), .val (.ref b7), .val (.int (p5 ||| (-2147483648 : Int32))), .unset] [(.int (1 : Int32))])) _
      refine XS.goto X10.here hx rfl (pc0 := 112) (pc' := 116) rfl (hb hby at_112) (by decide) (by decide) ?_
      show Steps p.tables e below (T10.setTop (mkF m 116 #[.val (.int p1), .val (.int p2), .val (.int p3), .val (.int p4), .val (.int p5), .val (.int (0 : Int32)), .val (.int la), .val (.int lb), .val (.int lc), .val (.ref b6), .val (.ref b7), .val (.int (p5 ||| (-2147483648 : Int32))), .unset] [(.int (1 : Int32))])) _
      refine XS.istore X10.here hx rfl (hb hby at_116) rfl (l' := #[.val (.int p1), .val (.int p2), .val (.int p3), .val (.int p4), .val (.int p5), .val (.int (0 : Int32)), .val (.int la), .val (.int lb), .val (.int lc), .val (.ref b6), .val (.ref b7), .val (.int (p5 ||| (-2147483648 : Int32))), .val (.int (1 : Int32))]) rfl ?_
      show Steps p.tables e below (T10.setTop (mkF m 118 #[.val (.int p1), .val (.int p2), .val (.int p3), .val (.int p4), .val (.int p5), .val (.int (0 : Int32)), .val (.int la), .val (.int lb), .val (.int lc), .val (.ref b6), .val (.ref b7), .val (.int (p5 ||| (-2147483648 : Int32))), .val (.int (1 : Int32))] [])) _
      refine XS.iload X10.here hx rfl (hb hby at_118) rfl ?_
      show Steps p.tables e below (T10.setTop (mkF m 120 #[.val (.int p1), .val (.int p2), .val (.int p3), .val (.int p4), .val (.int p5), .val (.int (0 : Int32)), .val (.int la), .val (.int lb), .val (.int lc), .val (.ref b6), .val (.ref b7), .val (.int (p5 ||| (-2147483648 : Int32))), .val (.int (1 : Int32))] [(.int (0 : Int32))])) _
      refine XS.ifYes X10.here hx rfl (pc0 := 120) (pc' := 146) rfl (hb hby at_120) rfl ((if0 _ _).trans (flt (by decide : ¬ ((0 : Int32) < (0 : Int32)))).2.2.2) (by decide) (by decide) ?_
      show Steps p.tables e below (T10.setTop (mkF m 146 #[.val (.int p1), .val (.int p2), .val (.int p3), .val (.int p4), .val (.int p5), .val (.int (0 : Int32)), .val (.int la), .val (.int lb), .val (.int lc), .val (.ref b6), .val (.ref b7), .val (.int (p5 ||| (-2147483648 : Int32))), .val (.int (1 : Int32))] [])) _
      refine XS.iload X10.here hx rfl (hb hby at_146) rfl ?_
      show Steps p.tables e below (T10.setTop (mkF m 148 #[.val (.int p1), .val (.int p2), .val (.int p3), .val (.int p4), .val (.int p5), .val (.int (0 : Int32)), .val (.int la), .val (.int lb), .val (.int lc), .val (.ref b6), .val (.ref b7), .val (.int (p5 ||| (-2147483648 : Int32))), .val (.int (1 : Int32))] [(.int (0 : Int32))])) _
      refine XS.iconst X10.here hx rfl (hb hby at_148) ?_
      show Steps p.tables e below (T10.setTop (mkF m 149 #[.val (.int p1), .val (.int p2), .val (.int p3), .val (.int p4), .val (.int p5), .val (.int (0 : Int32)), .val (.int la), .val (.int lb), .val (.int lc), .val (.ref b6), .val (.ref b7), .val (.int (p5 ||| (-2147483648 : Int32))), .val (.int (1 : Int32))] [(.int (1 : Int32)), (.int (0 : Int32))])) _
      refine XS.icmpYes X10.here hx rfl (pc0 := 149) (pc' := 178) rfl (hb hby at_149) rfl (flt (by decide : ¬ ((1 : Int32) < (0 : Int32)))).2.2.2 (by decide) (by decide) ?_
      show Steps p.tables e below (T10.setTop (mkF m 178 #[.val (.int p1), .val (.int p2), .val (.int p3), .val (.int p4), .val (.int p5), .val (.int (0 : Int32)), .val (.int la), .val (.int lb), .val (.int lc), .val (.ref b6), .val (.ref b7), .val (.int (p5 ||| (-2147483648 : Int32))), .val (.int (1 : Int32))] [])) _
      refine XS.iload X10.here hx rfl (hb hby at_178) rfl ?_
      show Steps p.tables e below (T10.setTop (mkF m 180 #[.val (.int p1), .val (.int p2), .val (.int p3), .val (.int p4), .val (.int p5), .val (.int (0 : Int32)), .val (.int la), .val (.int lb), .val (.int lc), .val (.ref b6), .val (.ref b7), .val (.int (p5 ||| (-2147483648 : Int32))), .val (.int (1 : Int32))] [(.int (0 : Int32))])) _
      refine XS.iconst X10.here hx rfl (hb hby at_180) ?_
      show Steps p.tables e below (T10.setTop (mkF m 181 #[.val (.int p1), .val (.int p2), .val (.int p3), .val (.int p4), .val (.int p5), .val (.int (0 : Int32)), .val (.int la), .val (.int lb), .val (.int lc), .val (.ref b6), .val (.ref b7), .val (.int (p5 ||| (-2147483648 : Int32))), .val (.int (1 : Int32))] [(.int (2 : Int32)), (.int (0 : Int32))])) _
      refine XS.icmpYes X10.here hx rfl (pc0 := 181) (pc' := 213) rfl (hb hby at_181) rfl (flt (by decide : ¬ ((2 : Int32) < (0 : Int32)))).2.2.2 (by decide) (by decide) ?_
      show Steps p.tables e below (T10.setTop (mkF m 213 #[.val (.int p1), .val (.int p2), .val (.int p3), .val (.int p4), .val (.int p5), .val (.int (0 : Int32)), .val (.int la), .val (.int lb), .val (.int lc), .val (.ref b6), .val (.ref b7), .val (.int (p5 ||| (-2147483648 : Int32))), .val (.int (1 : Int32))] [])) _
      refine XS.iload X10.here hx rfl (hb hby at_213) rfl ?_
      show Steps p.tables e below (T10.setTop (mkF m 215 #[.val (.int p1), .val (.int p2), .val (.int p3), .val (.int p4), .val (.int p5), .val (.int (0 : Int32)), .val (.int la), .val (.int lb), .val (.int lc), .val (.ref b6), .val (.ref b7), .val (.int (p5 ||| (-2147483648 : Int32))), .val (.int (1 : Int32))] [(.int (1 : Int32))])) _
      exact retN X10 hx (t := .boolean) Bd.returns (by simp) (hb hby at_215) hr
    · show Q0 Z p1 p2 p3 p4 p5 h0 n0 _ T10.heap _
      rw [e10]
      exact ⟨rfl, N10⟩
  · skip
    obtain ⟨T6, h6, k6, X6, e6, E6, A6, st6⟩ := newP X0 hx hZ (hw _ (List.mem_of_getElem? (i := 0) rfl)) e0 (g := (mkF m 25 #[.val (.int p1), .val (.int p2), .val (.int p3), .val (.int p4), .val (.int p5), .val (.int (1 : Int32)), .val (.int la), .val (.int lb), .val (.int lc), .unset, .unset, .unset, .unset] [(.int (16 : Int32))])) rfl (hb hby at_25) rfl (by decide) (cap := 16) (by decide) (by decide) (by decide) (by decide)
    obtain ⟨b6, g6⟩ : ∃ z, z = h0.size := ⟨_, rfl⟩
    rw [← g6] at A6 st6
    have V_b6 : Arv Z h6 b6 k6 .int (16 : Int32) [(.int (0 : Int32)), (.int (0 : Int32)), (.int (0 : Int32)), (.int (0 : Int32)), (.int (0 : Int32)), (.int (0 : Int32)), (.int (0 : Int32)), (.int (0 : Int32)), (.int (0 : Int32)), (.int (0 : Int32)), (.int (0 : Int32)), (.int (0 : Int32)), (.int (0 : Int32)), (.int (0 : Int32)), (.int (0 : Int32)), (.int (0 : Int32))] (.int (0 : Int32)) := (Arv.new A6 (by decide)).pad (pad_rep [] (.int (0 : Int32)) 16)
    have g_b6 : n0 ≤ b6 := Nat.le_trans Z0 (Nat.le_of_eq g6.symm)
    have sz_b6 : h0.size ≤ b6 := (Nat.le_trans (Keep.refl h0 []).1 (Nat.le_of_eq g6.symm))
    have K6 : Keep h0 h6 [] := (Keep.refl h0 []).ext E6
    obtain ⟨T7, h7, X7, e7, E7, A7, D7, -, st7⟩ := newO X6 hx hZ hown (hw _ (List.mem_of_getElem? (i := 1) rfl)) (hw _ (List.mem_of_getElem? (i := 2) rfl)) (hw _ (List.mem_of_getElem? (i := 3) rfl)) e6 (g := (mkF m 29 #[.val (.int p1), .val (.int p2), .val (.int p3), .val (.int p4), .val (.int p5), .val (.int (1 : Int32)), .val (.int la), .val (.int lb), .val (.int lc), .val (.ref b6), .unset, .unset, .unset] [])) rfl (hb hby at_29) (by decide) (by decide)
    obtain ⟨b7, g7⟩ : ∃ z, z = h6.size := ⟨_, rfl⟩
    rw [← g7] at A7 D7 st7
    have F_pages_b7 : Fld Z h7 b7 "com/example/surfwalk/surfwalk/Surfer$Paths" "pages" "[I" .null := D7 (Or.inl (hw _ (List.mem_of_getElem? (i := 11) rfl))) (ty := (.array .int)) (by decide)
    have F_ends_b7 : Fld Z h7 b7 "com/example/surfwalk/surfwalk/Surfer$Paths" "ends" "[I" .null := D7 (Or.inr (hw _ (List.mem_of_getElem? (i := 13) rfl))) (ty := (.array .int)) (by decide)
    have F_count_b7 : Fld Z h7 b7 "com/example/surfwalk/surfwalk/Surfer$Paths" "count" "I" (.int (0 : Int32)) := D7 (Or.inl (hw _ (List.mem_of_getElem? (i := 26) rfl))) (ty := .int) (by decide)
    have E_b7 := A7
    have g_b7 : n0 ≤ b7 := Nat.le_trans (Nat.le_trans Z0 E6.1) (Nat.le_of_eq g7.symm)
    have sz_b7 : h0.size ≤ b7 := (Nat.le_trans K6.1 (Nat.le_of_eq g7.symm))
    have K7 : Keep h0 h7 [] := K6.ext E7
    obtain ⟨_, _, ⟨T8, L8, k8, n8⟩, -, X8, ⟨Lc8, hQ8, l8, y8, z8⟩, st8⟩ := X7.specialBack hx (y := (⟨"com/example/surfwalk/surfwalk/Surfer$Paths", "<init>", "()V"⟩ : MethodName)) rfl hown (mvT hZ (hw _ (List.mem_of_getElem? (i := 4) rfl))) (mvT hZ (hw _ (List.mem_of_getElem? (i := 5) rfl))) (mvT hZ (hw _ (List.mem_of_getElem? (i := 6) rfl))) (by decide) (backOf (W := 1) (rm1 l Z a0 hw [] b7 .null .null h7 n0 (Nat.le_trans Z0 K7.1) E_b7 F_pages_b7 g_b7 F_ends_b7 F_count_b7) hZ (hw _ (List.mem_of_getElem? (i := 6) rfl)) (hw _ (List.mem_of_getElem? (i := 3) rfl)) (by decide) (by decide)) (g := (mkF m 33 #[.val (.int p1), .val (.int p2), .val (.int p3), .val (.int p4), .val (.int p5), .val (.int (1 : Int32)), .val (.int la), .val (.int lb), .val (.int lc), .val (.ref b6), .unset, .unset, .unset] [(.ref b7), (.ref b7)])) rfl (by rw [hml]; rfl) (Steps.refl _) (a := b7) (argsL := []) (rest := [(.ref b7)]) (lenOf pd_0_0 rfl) rfl (by show 2 * 0 + _ ≤ _; exact Nat.le_of_eq rfl) (hb hby at_33) (fun _ _ => ⟨rfl, e7, (by decide : 2 + 2 ≤ _), (by decide : 19 + 5120 ≤ _)⟩)
    dsimp only [Pt.U, Pt.locs, Pt.cells, Pt.slots] at X8 l8 y8 z8 st8 hQ8
    subst l8 y8 z8
    obtain ⟨rfl, N8q, Kc, Ex0, Fc0, bp, be, kp, ke, szp, sze, hpe, Fp0, Fe0, Vp0, Ve0⟩ := hQ8
    have gbp : n0 ≤ bp := Nat.le_trans (Nat.le_trans Z0 K7.1) szp
    have gbe : n0 ≤ be := Nat.le_trans (Nat.le_trans Z0 K7.1) sze
    have hbe : be ≠ bp := Ne.symm hpe
    have VsA : Arv Z h6 b6 k6 .int (16 : Int32) [] (.int (0 : Int32)) := (Arv.new A6 (by decide) : Arv Z h6 b6 k6 .int (16 : Int32) [] (.int (0 : Int32)))
    have VsB : Arv Z h7 b6 k6 .int (16 : Int32) [] (.int (0 : Int32)) := VsA.ext E7
    have hAp : b6 ≠ bp := Nat.ne_of_lt (Nat.lt_of_lt_of_le VsB.lt szp)
    have hAe : b6 ≠ be := Nat.ne_of_lt (Nat.lt_of_lt_of_le VsB.lt sze)
    have hAP : b6 ∉ [b7] := fun z => Nat.ne_of_lt (Nat.lt_of_lt_of_le VsA.lt (Nat.le_of_eq g7.symm)) (List.mem_singleton.mp z)
    have Vs0 : Arv Z T8.heap b6 k6 .int (16 : Int32) [] (.int (0 : Int32)) := VsB.keep Kc hAP
    have hv0 : (List.replicate 48 (.int (0 : Int32)) : List Value).length = 48 := by simp
    obtain ⟨vp0, evp0⟩ : ∃ z : List Value, z = List.replicate 48 (.int (0 : Int32)) := ⟨_, rfl⟩
    rw [← evp0] at Vp0 hv0
    have N8 := Fr.app N0 N8q
    obtain ⟨cq9, kq9, q9a, q9b, q9c⟩ := isOf hZ rfl Ex0
    obtain ⟨_, _, ⟨T9, L9, k9, n9⟩, -, X9, ⟨Lc9, hQ9, l9, y9, z9⟩, st9⟩ := X8.virtualBack hx (y := (⟨"com/example/surfwalk/surfwalk/Surfer$Paths", "addWalk", "([IILjava/util/SplittableRandom;)V"⟩ : MethodName)) (z := (⟨"com/example/surfwalk/surfwalk/Surfer$Paths", "addWalk", "([IILjava/util/SplittableRandom;)V"⟩ : MethodName)) hown (mvT hZ (hw _ (List.mem_of_getElem? (i := 20) rfl))) (mvT hZ (hw _ (List.mem_of_getElem? (i := 21) rfl))) (notFace_of_selects (args := #[]) (mvT hZ (hw _ (List.mem_of_getElem? (i := 23) rfl)))) (mvT hZ (hw _ (List.mem_of_getElem? (i := 23) rfl))) (mvT hZ (hw _ (List.mem_of_getElem? (i := 22) rfl))) (by decide) (backOf (W := 0) (rm4 l Z a0 hw [] b7 b6 la (0 : Int32) (0 : Int32) bp be kp ke k6 vp0 [(.int (0 : Int32)), (.int (0 : Int32)), (.int (0 : Int32))] T8.heap n0 (Nat.le_trans (Nat.le_trans Z0 K7.1) Kc.1) Fc0 Ex0 Fp0 Fe0 Vs0 Vp0 hv0 Ve0 (by decide) (Nat.le_of_ble_eq_true rfl) g_b7 gbp gbe hbe hAp hAe (by decide) (by decide) la0 (by omega) (rm3n l Z a0 hw [] b7 ((0 : Int32) - (1 : Int32)) T8.heap n0 (Nat.le_trans (Nat.le_trans Z0 K7.1) Kc.1) (by decide))) hZ (hw _ (List.mem_of_getElem? (i := 24) rfl)) (hw _ (List.mem_of_getElem? (i := 3) rfl)) (by decide) (by decide)) q9a q9c (g := (mkF m 50 #[.val (.int p1), .val (.int p2), .val (.int p3), .val (.int p4), .val (.int p5), .val (.int (1 : Int32)), .val (.int la), .val (.int lb), .val (.int lc), .val (.ref b6), .val (.ref b7), .unset, .unset] [.null, (.int la), (.ref b6), (.ref b7)])) rfl (by rw [hml]; rfl) (Steps.refl _) (argsL := [(.ref b6), (.int la), .null]) (rest := []) (lenOf pd_0_2 rfl) rfl (by show 2 * 0 + _ ≤ _; exact Nat.le_of_eq rfl) (hb hby at_50) (fun _ _ => ⟨rfl, rfl, (by decide : 4 + 0 ≤ _), (by decide : 5139 + 0 ≤ _)⟩)
    dsimp only [Pt.U, Pt.locs, Pt.cells, Pt.slots] at X9 l9 y9 z9 st9 hQ9
    subst l9 y9 z9
    obtain ⟨rfl, N9q, K9q, Ex1, Fp1, Fe1, Fc1r, ⟨vp1, hv1, Vp1⟩, Ve1r, Vs1⟩ := hQ9
    have Fc1 : Fld Z T9.heap b7 "com/example/surfwalk/surfwalk/Surfer$Paths" "count" "I" (.int (1 : Int32)) := Fc1r
    rw [Int32.zero_add] at Ve1r
    have Ve1 : Arv Z T9.heap be ke .int (1024 : Int32) [(.int la), (.int (0 : Int32)), (.int (0 : Int32))] (.int (0 : Int32)) := Ve1r
    have N9 := Fr.app N8 N9q
    obtain ⟨cq10, kq10, q10a, q10b, q10c⟩ := isOf hZ rfl Ex1
    obtain ⟨_, _, ⟨T10, L10, k10, n10⟩, -, X10, ⟨Lc10, hQ10, l10, y10, z10⟩, st10⟩ := X9.virtualBack hx (y := (⟨"com/example/surfwalk/surfwalk/Surfer$Paths", "end", "(I)I"⟩ : MethodName)) (z := (⟨"com/example/surfwalk/surfwalk/Surfer$Paths", "end", "(I)I"⟩ : MethodName)) hown (mvT hZ (hw _ (List.mem_of_getElem? (i := 15) rfl))) (mvT hZ (hw _ (List.mem_of_getElem? (i := 16) rfl))) (notFace_of_selects (args := #[]) (mvT hZ (hw _ (List.mem_of_getElem? (i := 18) rfl)))) (mvT hZ (hw _ (List.mem_of_getElem? (i := 18) rfl))) (mvT hZ (hw _ (List.mem_of_getElem? (i := 17) rfl))) (by decide) (backOf (W := 0) (rm3n l Z a0 hw [] b7 (-1 : Int32) T9.heap n0 (Nat.le_trans (Nat.le_trans (Nat.le_trans Z0 K7.1) Kc.1) K9q.1) (by decide)) hZ (hw _ (List.mem_of_getElem? (i := 19) rfl)) (hw _ (List.mem_of_getElem? (i := 3) rfl)) (by decide) (by decide)) q10a q10c (g := (mkF m 95 #[.val (.int p1), .val (.int p2), .val (.int p3), .val (.int p4), .val (.int p5), .val (.int (1 : Int32)), .val (.int la), .val (.int lb), .val (.int lc), .val (.ref b6), .val (.ref b7), .val (.int (p5 ||| (-2147483648 : Int32))), .unset] [(.int (-1 : Int32)), (.ref b7)])) rfl (by rw [hml]; rfl) (Steps.refl _) (argsL := [(.int (-1 : Int32))]) (rest := []) (lenOf pd_0_1 rfl) rfl (by show 2 * 0 + _ ≤ _; exact Nat.le_of_eq rfl) (hb hby at_95) (fun _ _ => ⟨rfl, rfl, (by decide : 4 + 0 ≤ _), (by decide : 5139 + 0 ≤ _)⟩)
    dsimp only [Pt.U, Pt.locs, Pt.cells, Pt.slots] at X10 l10 y10 z10 st10 hQ10
    subst l10 y10 z10
    obtain ⟨rfl, N10q, e10⟩ := hQ10
    have N10 := Fr.app N9 N10q
    obtain ⟨cq11, kq11, q11a, q11b, q11c⟩ := isOf hZ e10 Ex1
    obtain ⟨_, _, ⟨T11, L11, k11, n11⟩, -, X11, ⟨Lc11, hQ11, l11, y11, z11⟩, st11⟩ := X10.virtualBack hx (y := (⟨"com/example/surfwalk/surfwalk/Surfer$Paths", "end", "(I)I"⟩ : MethodName)) (z := (⟨"com/example/surfwalk/surfwalk/Surfer$Paths", "end", "(I)I"⟩ : MethodName)) hown (mvT hZ (hw _ (List.mem_of_getElem? (i := 15) rfl))) (mvT hZ (hw _ (List.mem_of_getElem? (i := 16) rfl))) (notFace_of_selects (args := #[]) (mvT hZ (hw _ (List.mem_of_getElem? (i := 18) rfl)))) (mvT hZ (hw _ (List.mem_of_getElem? (i := 18) rfl))) (mvT hZ (hw _ (List.mem_of_getElem? (i := 17) rfl))) (by decide) (backOf (W := 0) (rm3n l Z a0 hw [] b7 (p5 ||| (-2147483648 : Int32)) T9.heap n0 (Nat.le_trans (Nat.le_trans (Nat.le_trans Z0 K7.1) Kc.1) K9q.1) (own_neg p5)) hZ (hw _ (List.mem_of_getElem? (i := 19) rfl)) (hw _ (List.mem_of_getElem? (i := 3) rfl)) (by decide) (by decide)) q11a q11c (g := (mkF m 105 #[.val (.int p1), .val (.int p2), .val (.int p3), .val (.int p4), .val (.int p5), .val (.int (1 : Int32)), .val (.int la), .val (.int lb), .val (.int lc), .val (.ref b6), .val (.ref b7), .val (.int (p5 ||| (-2147483648 : Int32))), .unset] [(.int (p5 ||| (-2147483648 : Int32))), (.ref b7)])) rfl (by rw [hml]; rfl) (Steps.refl _) (argsL := [(.int (p5 ||| (-2147483648 : Int32)))]) (rest := []) (lenOf pd_0_1 rfl) rfl (by show 2 * 0 + _ ≤ _; exact Nat.le_of_eq rfl) (hb hby at_105) (fun _ _ => ⟨rfl, e10, (by decide : 4 + 0 ≤ _), (by decide : 5139 + 0 ≤ _)⟩)
    dsimp only [Pt.U, Pt.locs, Pt.cells, Pt.slots] at X11 l11 y11 z11 st11 hQ11
    subst l11 y11 z11
    obtain ⟨rfl, N11q, e11⟩ := hQ11
    have N11 := Fr.app N10 N11q
    obtain ⟨cq12, kq12, q12a, q12b, q12c⟩ := isOf hZ e11 Ex1
    obtain ⟨_, _, ⟨T12, L12, k12, n12⟩, -, X12, ⟨Lc12, hQ12, l12, y12, z12⟩, st12⟩ := X11.virtualBack hx (y := (⟨"com/example/surfwalk/surfwalk/Surfer$Paths", "end", "(I)I"⟩ : MethodName)) (z := (⟨"com/example/surfwalk/surfwalk/Surfer$Paths", "end", "(I)I"⟩ : MethodName)) hown (mvT hZ (hw _ (List.mem_of_getElem? (i := 15) rfl))) (mvT hZ (hw _ (List.mem_of_getElem? (i := 16) rfl))) (notFace_of_selects (args := #[]) (mvT hZ (hw _ (List.mem_of_getElem? (i := 18) rfl)))) (mvT hZ (hw _ (List.mem_of_getElem? (i := 18) rfl))) (mvT hZ (hw _ (List.mem_of_getElem? (i := 17) rfl))) (by decide) (backOf (W := 0) (own_end l Z a0 hw b7 (0 : Int32) la be T9.heap n0 (Nat.le_trans (Nat.le_trans (Nat.le_trans Z0 K7.1) Kc.1) K9q.1) Fe1 Ve1 (by decide) rfl) hZ (hw _ (List.mem_of_getElem? (i := 19) rfl)) (hw _ (List.mem_of_getElem? (i := 3) rfl)) (by decide) (by decide)) q12a q12c (g := (mkF m 131 #[.val (.int p1), .val (.int p2), .val (.int p3), .val (.int p4), .val (.int p5), .val (.int (1 : Int32)), .val (.int la), .val (.int lb), .val (.int lc), .val (.ref b6), .val (.ref b7), .val (.int (p5 ||| (-2147483648 : Int32))), .val (.int (1 : Int32))] [(.int (0 : Int32)), (.ref b7)])) rfl (by rw [hml]; rfl) (Steps.refl _) (argsL := [(.int (0 : Int32))]) (rest := []) (lenOf pd_0_1 rfl) rfl (by show 2 * 0 + _ ≤ _; exact Nat.le_of_eq rfl) (hb hby at_131) (fun _ _ => ⟨rfl, e11, (by decide : 4 + 0 ≤ _), (by decide : 5139 + 0 ≤ _)⟩)
    dsimp only [Pt.U, Pt.locs, Pt.cells, Pt.slots] at X12 l12 y12 z12 st12 hQ12
    subst l12 y12 z12
    obtain ⟨rfl, N12q, e12⟩ := hQ12
    have N12 := Fr.app N11 N12q
    obtain ⟨fs, hr, hrun, hended, hW, hsame⟩ := X12.leave (v := some (.int (1 : Int32))) (fun h => by rw [Bd.returns] at h; cases h)
    refine ⟨_, _, pre0 _ (pre1 _ ?_), hrun, hended, _, _, rfl, ?_, ⟨_, rfl⟩, hW, hsame.mono (by decide) (by decide)⟩
    · show Steps p.tables e below (s₁.setTop (mkF m 23 #[.val (.int p1), .val (.int p2), .val (.int p3), .val (.int p4), .val (.int p5), .val (.int (1 : Int32)), .val (.int la), .val (.int lb), .val (.int lc), .unset, .unset, .unset, .unset] [])) _
      refine XS.bipush X0.here hx rfl (hb hby at_23) ?_
      show Steps p.tables e below (s₁.setTop (mkF m 25 #[.val (.int p1), .val (.int p2), .val (.int p3), .val (.int p4), .val (.int p5), .val (.int (1 : Int32)), .val (.int la), .val (.int lb), .val (.int lc), .unset, .unset, .unset, .unset] [(.int (16 : Int32))])) _
      refine st6 _ ?_
      show Steps p.tables e below (T6.setTop (mkF m 27 #[.val (.int p1), .val (.int p2), .val (.int p3), .val (.int p4), .val (.int p5), .val (.int (1 : Int32)), .val (.int la), .val (.int lb), .val (.int lc), .unset, .unset, .unset, .unset] [(.ref b6)])) _
      refine XS.astore X6.here hx rfl (hb hby at_27) rfl rfl (l' := #[.val (.int p1), .val (.int p2), .val (.int p3), .val (.int p4), .val (.int p5), .val (.int (1 : Int32)), .val (.int la), .val (.int lb), .val (.int lc), .val (.ref b6), .unset, .unset, .unset]) rfl ?_
      show Steps p.tables e below (T6.setTop (mkF m 29 #[.val (.int p1), .val (.int p2), .val (.int p3), .val (.int p4), .val (.int p5), .val (.int (1 : Int32)), .val (.int la), .val (.int lb), .val (.int lc), .val (.ref b6), .unset, .unset, .unset] [])) _
      refine st7 _ ?_
      show Steps p.tables e below (T7.setTop (mkF m 32 #[.val (.int p1), .val (.int p2), .val (.int p3), .val (.int p4), .val (.int p5), .val (.int (1 : Int32)), .val (.int la), .val (.int lb), .val (.int lc), .val (.ref b6), .unset, .unset, .unset] [(.ref b7)])) _
      refine XS.dup X7.here hx rfl (hb hby at_32) rfl rfl ?_
      show Steps p.tables e below (T7.setTop (mkF m 33 #[.val (.int p1), .val (.int p2), .val (.int p3), .val (.int p4), .val (.int p5), .val (.int (1 : Int32)), .val (.int la), .val (.int lb), .val (.int lc), .val (.ref b6), .unset, .unset, .unset] [(.ref b7), (.ref b7)])) _
      refine st8.trans ?_
      show Steps p.tables e below (T8.setTop (mkF m 36 #[.val (.int p1), .val (.int p2), .val (.int p3), .val (.int p4), .val (.int p5), .val (.int (1 : Int32)), .val (.int la), .val (.int lb), .val (.int lc), .val (.ref b6), .unset, .unset, .unset] [(.ref b7)])) _
      refine XS.astore X8.here hx rfl (hb hby at_36) rfl rfl (l' := #[.val (.int p1), .val (.int p2), .val (.int p3), .val (.int p4), .val (.int p5), .val (.int (1 : Int32)), .val (.int la), .val (.int lb), .val (.int lc), .val (.ref b6), .val (.ref b7), .unset, .unset]) rfl ?_
      show Steps p.tables e below (T8.setTop (mkF m 38 #[.val (.int p1), .val (.int p2), .val (.int p3), .val (.int p4), .val (.int p5), .val (.int (1 : Int32)), .val (.int la), .val (.int lb), .val (.int lc), .val (.ref b6), .val (.ref b7), .unset, .unset] [])) _
      refine XS.iload X8.here hx rfl (hb hby at_38) rfl ?_
      show Steps p.tables e below (T8.setTop (mkF m 40 #[.val (.int p1), .val (.int p2), .val (.int p3), .val (.int p4), .val (.int p5), .val (.int (1 : Int32)), .val (.int la), .val (.int lb), .val (.int lc), .val (.ref b6), .val (.ref b7), .unset, .unset] [(.int (1 : Int32))])) _
      refine XS.ifNo X8.here hx rfl (hb hby at_40) rfl ((if0 _ _).trans (tlt (by decide : (0 : Int32) < (1 : Int32))).2.2.2) ?_
      show Steps p.tables e below (T8.setTop (mkF m 43 #[.val (.int p1), .val (.int p2), .val (.int p3), .val (.int p4), .val (.int p5), .val (.int (1 : Int32)), .val (.int la), .val (.int lb), .val (.int lc), .val (.ref b6), .val (.ref b7), .unset, .unset] [])) _
      refine XS.aload X8.here hx rfl (hb hby at_43) rfl rfl ?_
      show Steps p.tables e below (T8.setTop (mkF m 45 #[.val (.int p1), .val (.int p2), .val (.int p3), .val (.int p4), .val (.int p5), .val (.int (1 : Int32)), .val (.int la), .val (.int lb), .val (.int lc), .val (.ref b6), .val (.ref b7), .unset, .unset] [(.ref b7)])) _
      refine XS.aload X8.here hx rfl (hb hby at_45) rfl rfl ?_
      show Steps p.tables e below (T8.setTop (mkF m 47 #[.val (.int p1), .val (.int p2), .val (.int p3), .val (.int p4), .val (.int p5), .val (.int (1 : Int32)), .val (.int la), .val (.int lb), .val (.int lc), .val (.ref b6), .val (.ref b7), .unset, .unset] [(.ref b6), (.ref b7)])) _
      refine XS.iload X8.here hx rfl (hb hby at_47) rfl ?_
      show Steps p.tables e below (T8.setTop (mkF m 49 #[.val (.int p1), .val (.int p2), .val (.int p3), .val (.int p4), .val (.int p5), .val (.int (1 : Int32)), .val (.int la), .val (.int lb), .val (.int lc), .val (.ref b6), .val (.ref b7), .unset, .unset] [(.int la), (.ref b6), (.ref b7)])) _
      refine XS.aconstNull X8.here hx rfl (hb hby at_49) ?_
      show Steps p.tables e below (T8.setTop (mkF m 50 #[.val (.int p1), .val (.int p2), .val (.int p3), .val (.int p4), .val (.int p5), .val (.int (1 : Int32)), .val (.int la), .val (.int lb), .val (.int lc), .val (.ref b6), .val (.ref b7), .unset, .unset] [.null, (.int la), (.ref b6), (.ref b7)])) _
      refine st9.trans ?_
      show Steps p.tables e below (T9.setTop (mkF m 53 #[.val (.int p1), .val (.int p2), .val (.int p3), .val (.int p4), .val (.int p5), .val (.int (1 : Int32)), .val (.int la), .val (.int lb), .val (.int lc), .val (.ref b6), .val (.ref b7), .unset, .unset] [])) _
      refine XS.iload X9.here hx rfl (hb hby at_53) rfl ?_
      show Steps p.tables e below (T9.setTop (mkF m 55 #[.val (.int p1), .val (.int p2), .val (.int p3), .val (.int p4), .val (.int p5), .val (.int (1 : Int32)), .val (.int la), .val (.int lb), .val (.int lc), .val (.ref b6), .val (.ref b7), .unset, .unset] [(.int (1 : Int32))])) _
      refine XS.iconst X9.here hx rfl (hb hby at_55) ?_
      show Steps p.tables e below (T9.setTop (mkF m 56 #[.val (.int p1), .val (.int p2), .val (.int p3), .val (.int p4), .val (.int p5), .val (.int (1 : Int32)), .val (.int la), .val (.int lb), .val (.int lc), .val (.ref b6), .val (.ref b7), .unset, .unset] [(.int (1 : Int32)), (.int (1 : Int32))])) _
      refine XS.icmpYes X9.here hx rfl (pc0 := 56) (pc' := 69) rfl (hb hby at_56) rfl (flt (by decide : ¬ ((1 : Int32) < (1 : Int32)))).2.2.2 (by decide) (by decide) ?_
      show Steps p.tables e below (T9.setTop (mkF m 69 #[.val (.int p1), .val (.int p2), .val (.int p3), .val (.int p4), .val (.int p5), .val (.int (1 : Int32)), .val (.int la), .val (.int lb), .val (.int lc), .val (.ref b6), .val (.ref b7), .unset, .unset] [])) _
      refine XS.iload X9.here hx rfl (hb hby at_69) rfl ?_
      show Steps p.tables e below (T9.setTop (mkF m 71 #[.val (.int p1), .val (.int p2), .val (.int p3), .val (.int p4), .val (.int p5), .val (.int (1 : Int32)), .val (.int la), .val (.int lb), .val (.int lc), .val (.ref b6), .val (.ref b7), .unset, .unset] [(.int (1 : Int32))])) _
      refine XS.iconst X9.here hx rfl (hb hby at_71) ?_
      show Steps p.tables e below (T9.setTop (mkF m 72 #[.val (.int p1), .val (.int p2), .val (.int p3), .val (.int p4), .val (.int p5), .val (.int (1 : Int32)), .val (.int la), .val (.int lb), .val (.int lc), .val (.ref b6), .val (.ref b7), .unset, .unset] [(.int (2 : Int32)), (.int (1 : Int32))])) _
      refine XS.icmpYes X9.here hx rfl (pc0 := 72) (pc' := 85) rfl (hb hby at_72) rfl (flt (by decide : ¬ ((2 : Int32) < (1 : Int32)))).2.2.2 (by decide) (by decide) ?_
      show Steps p.tables e below (T9.setTop (mkF m 85 #[.val (.int p1), .val (.int p2), .val (.int p3), .val (.int p4), .val (.int p5), .val (.int (1 : Int32)), .val (.int la), .val (.int lb), .val (.int lc), .val (.ref b6), .val (.ref b7), .unset, .unset] [])) _
      refine XS.iload X9.here hx rfl (hb hby at_85) rfl ?_
      show Steps p.tables e below (T9.setTop (mkF m 87 #[.val (.int p1), .val (.int p2), .val (.int p3), .val (.int p4), .val (.int p5), .val (.int (1 : Int32)), .val (.int la), .val (.int lb), .val (.int lc), .val (.ref b6), .val (.ref b7), .unset, .unset] [(.int p5)])) _
      refine X9.ldcInt hx hown (mvT hZ (hw _ (List.mem_of_getElem? (i := 14) rfl))) (g := (mkF m 87 #[.val (.int p1), .val (.int p2), .val (.int p3), .val (.int p4), .val (.int p5), .val (.int (1 : Int32)), .val (.int la), .val (.int lb), .val (.int lc), .val (.ref b6), .val (.ref b7), .unset, .unset] [(.int p5)])) rfl (hb hby at_87) _ ?_
      show Steps p.tables e below (T9.setTop (mkF m 89 #[.val (.int p1), .val (.int p2), .val (.int p3), .val (.int p4), .val (.int p5), .val (.int (1 : Int32)), .val (.int la), .val (.int lb), .val (.int lc), .val (.ref b6), .val (.ref b7), .unset, .unset] [(.int (-2147483648 : Int32)), (.int p5)])) _
      refine XS.ior X9.here hx rfl (hb hby at_89) rfl ?_
      show Steps p.tables e below (T9.setTop (mkF m 90 #[.val (.int p1), .val (.int p2), .val (.int p3), .val (.int p4), .val (.int p5), .val (.int (1 : Int32)), .val (.int la), .val (.int lb), .val (.int lc), .val (.ref b6), .val (.ref b7), .unset, .unset] [(.int (p5 ||| (-2147483648 : Int32)))])) _
      refine XS.istore X9.here hx rfl (hb hby at_90) rfl (l' := #[.val (.int p1), .val (.int p2), .val (.int p3), .val (.int p4), .val (.int p5), .val (.int (1 : Int32)), .val (.int la), .val (.int lb), .val (.int lc), .val (.ref b6), .val (.ref b7), .val (.int (p5 ||| (-2147483648 : Int32))), .unset]) rfl ?_
      show Steps p.tables e below (T9.setTop (mkF m 92 #[.val (.int p1), .val (.int p2), .val (.int p3), .val (.int p4), .val (.int p5), .val (.int (1 : Int32)), .val (.int la), .val (.int lb), .val (.int lc), .val (.ref b6), .val (.ref b7), .val (.int (p5 ||| (-2147483648 : Int32))), .unset] [])) _
      refine XS.aload X9.here hx rfl (hb hby at_92) rfl rfl ?_
      show Steps p.tables e below (T9.setTop (mkF m 94 #[.val (.int p1), .val (.int p2), .val (.int p3), .val (.int p4), .val (.int p5), .val (.int (1 : Int32)), .val (.int la), .val (.int lb), .val (.int lc), .val (.ref b6), .val (.ref b7), .val (.int (p5 ||| (-2147483648 : Int32))), .unset] [(.ref b7)])) _
      refine XS.iconst X9.here hx rfl (hb hby at_94) ?_
      show Steps p.tables e below (T9.setTop (mkF m 95 #[.val (.int p1), .val (.int p2), .val (.int p3), .val (.int p4), .val (.int p5), .val (.int (1 : Int32)), .val (.int la), .val (.int lb), .val (.int lc), .val (.ref b6), .val (.ref b7), .val (.int (p5 ||| (-2147483648 : Int32))), .unset] [(.int (-1 : Int32)), (.ref b7)])) _
      refine st10.trans ?_
      show Steps p.tables e below (T10.setTop (mkF m 98 #[.val (.int p1), .val (.int p2), .val (.int p3), .val (.int p4), .val (.int p5), .val (.int (1 : Int32)), .val (.int la), .val (.int lb), .val (.int lc), .val (.ref b6), .val (.ref b7), .val (.int (p5 ||| (-2147483648 : Int32))), .unset] [(.int (0 : Int32))])) _
      refine XS.ifNo X10.here hx rfl (hb hby at_98) rfl ((if0 _ _).trans (teq (rfl : (0 : Int32) = (0 : Int32))).2) ?_
      show Steps p.tables e below (T10.setTop (mkF m 101 #[.val (.int p1), .val (.int p2), .val (.int p3), .val (.int p4), .val (.int p5), .val (.int (1 : Int32)), .val (.int la), .val (.int lb), .val (.int lc), .val (.ref b6), .val (.ref b7), .val (.int (p5 ||| (-2147483648 : Int32))), .unset] [])) _
      refine XS.aload X10.here hx rfl (hb hby at_101) rfl rfl ?_
      show Steps p.tables e below (T10.setTop (mkF m 103 #[.val (.int p1), .val (.int p2), .val (.int p3), .val (.int p4), .val (.int p5), .val (.int (1 : Int32)), .val (.int la), .val (.int lb), .val (.int lc), .val (.ref b6), .val (.ref b7), .val (.int (p5 ||| (-2147483648 : Int32))), .unset] [(.ref b7)])) _
      refine XS.iload X10.here hx rfl (hb hby at_103) rfl ?_
      show Steps p.tables e below (T10.setTop (mkF m 105 #[.val (.int p1), .val (.int p2), .val (.int p3), .val (.int p4), .val (.int p5), .val (.int (1 : Int32)), .val (.int la), .val (.int lb), .val (.int lc), .val (.ref b6), .val (.ref b7), .val (.int (p5 ||| (-2147483648 : Int32))), .unset] [(.int (p5 ||| (-2147483648 : Int32))), (.ref b7)])) _
      refine st11.trans ?_
      show Steps p.tables e below (T11.setTop (mkF m 108 #[.val (.int p1), .val (.int p2), .val (.int p3), .val (.int p4), .val (.int p5), .val (.int (1 : Int32)), .val (.int la), .val (.int lb), .val (.int lc), .val (.ref b6), .val (.ref b7), .val (.int (p5 ||| (-2147483648 : Int32))), .unset] [(.int (0 : Int32))])) _
      refine XS.ifNo X11.here hx rfl (hb hby at_108) rfl ((if0 _ _).trans (teq (rfl : (0 : Int32) = (0 : Int32))).2) ?_
      show Steps p.tables e below (T11.setTop (mkF m 111 #[.val (.int p1), .val (.int p2), .val (.int p3), .val (.int p4), .val (.int p5), .val (.int (1 : Int32)), .val (.int la), .val (.int lb), .val (.int lc), .val (.ref b6), .val (.ref b7), .val (.int (p5 ||| (-2147483648 : Int32))), .unset] [])) _
      refine XS.iconst X11.here hx rfl (hb hby at_111) ?_
      show Steps p.tables e below (T11.setTop (mkF m 112 #[.val (.int p1), .val (.int p2), .val (.int p3), .val (.int p4), .val (.int p5), .val (.int (1 : Int32)), .val (.int la), .val (.int lb), .val (.int lc), .val (.ref b6), .val (.ref b7), .val (.int (p5 ||| (-2147483648 : Int32))), .unset] [(.int (1 : Int32))])) _
      refine XS.goto X11.here hx rfl (pc0 := 112) (pc' := 116) rfl (hb hby at_112) (by decide) (by decide) ?_
      show Steps p.tables e below (T11.setTop (mkF m 116 #[.val (.int p1), .val (.int p2), .val (.int p3), .val (.int p4), .val (.int p5), .val (.int (1 : Int32)), .val (.int la), .val (.int lb), .val (.int lc), .val (.ref b6), .val (.ref b7), .val (.int (p5 ||| (-2147483648 : Int32))), .unset] [(.int (1 : Int32))])) _
      refine XS.istore X11.here hx rfl (hb hby at_116) rfl (l' := #[.val (.int p1), .val (.int p2), .val (.int p3), .val (.int p4), .val (.int p5), .val (.int (1 : Int32)), .val (.int la), .val (.int lb), .val (.int lc), .val (.ref b6), .val (.ref b7), .val (.int (p5 ||| (-2147483648 : Int32))), .val (.int (1 : Int32))]) rfl ?_
      show Steps p.tables e below (T11.setTop (mkF m 118 #[.val (.int p1), .val (.int p2), .val (.int p3), .val (.int p4), .val (.int p5), .val (.int (1 : Int32)), .val (.int la), .val (.int lb), .val (.int lc), .val (.ref b6), .val (.ref b7), .val (.int (p5 ||| (-2147483648 : Int32))), .val (.int (1 : Int32))] [])) _
      refine XS.iload X11.here hx rfl (hb hby at_118) rfl ?_
      show Steps p.tables e below (T11.setTop (mkF m 120 #[.val (.int p1), .val (.int p2), .val (.int p3), .val (.int p4), .val (.int p5), .val (.int (1 : Int32)), .val (.int la), .val (.int lb), .val (.int lc), .val (.ref b6), .val (.ref b7), .val (.int (p5 ||| (-2147483648 : Int32))), .val (.int (1 : Int32))] [(.int (1 : Int32))])) _
      refine XS.ifNo X11.here hx rfl (hb hby at_120) rfl ((if0 _ _).trans (tlt (by decide : (0 : Int32) < (1 : Int32))).2.2.2) ?_
      show Steps p.tables e below (T11.setTop (mkF m 123 #[.val (.int p1), .val (.int p2), .val (.int p3), .val (.int p4), .val (.int p5), .val (.int (1 : Int32)), .val (.int la), .val (.int lb), .val (.int lc), .val (.ref b6), .val (.ref b7), .val (.int (p5 ||| (-2147483648 : Int32))), .val (.int (1 : Int32))] [])) _
      refine XS.iload X11.here hx rfl (hb hby at_123) rfl ?_
      show Steps p.tables e below (T11.setTop (mkF m 125 #[.val (.int p1), .val (.int p2), .val (.int p3), .val (.int p4), .val (.int p5), .val (.int (1 : Int32)), .val (.int la), .val (.int lb), .val (.int lc), .val (.ref b6), .val (.ref b7), .val (.int (p5 ||| (-2147483648 : Int32))), .val (.int (1 : Int32))] [(.int (1 : Int32))])) _
      refine XS.ifNo X11.here hx rfl (hb hby at_125) rfl ((if0 _ _).trans (feq (by decide : ¬ ((1 : Int32) = (0 : Int32)))).1) ?_
      show Steps p.tables e below (T11.setTop (mkF m 128 #[.val (.int p1), .val (.int p2), .val (.int p3), .val (.int p4), .val (.int p5), .val (.int (1 : Int32)), .val (.int la), .val (.int lb), .val (.int lc), .val (.ref b6), .val (.ref b7), .val (.int (p5 ||| (-2147483648 : Int32))), .val (.int (1 : Int32))] [])) _
      refine XS.aload X11.here hx rfl (hb hby at_128) rfl rfl ?_
      show Steps p.tables e below (T11.setTop (mkF m 130 #[.val (.int p1), .val (.int p2), .val (.int p3), .val (.int p4), .val (.int p5), .val (.int (1 : Int32)), .val (.int la), .val (.int lb), .val (.int lc), .val (.ref b6), .val (.ref b7), .val (.int (p5 ||| (-2147483648 : Int32))), .val (.int (1 : Int32))] [(.ref b7)])) _
      refine XS.iconst X11.here hx rfl (hb hby at_130) ?_
      show Steps p.tables e below (T11.setTop (mkF m 131 #[.val (.int p1), .val (.int p2), .val (.int p3), .val (.int p4), .val (.int p5), .val (.int (1 : Int32)), .val (.int la), .val (.int lb), .val (.int lc), .val (.ref b6), .val (.ref b7), .val (.int (p5 ||| (-2147483648 : Int32))), .val (.int (1 : Int32))] [(.int (0 : Int32)), (.ref b7)])) _
      refine st12.trans ?_
      show Steps p.tables e below (T12.setTop (mkF m 134 #[.val (.int p1), .val (.int p2), .val (.int p3), .val (.int p4), .val (.int p5), .val (.int (1 : Int32)), .val (.int la), .val (.int lb), .val (.int lc), .val (.ref b6), .val (.ref b7), .val (.int (p5 ||| (-2147483648 : Int32))), .val (.int (1 : Int32))] [(.int la)])) _
      refine XS.iload X12.here hx rfl (hb hby at_134) rfl ?_
      show Steps p.tables e below (T12.setTop (mkF m 136 #[.val (.int p1), .val (.int p2), .val (.int p3), .val (.int p4), .val (.int p5), .val (.int (1 : Int32)), .val (.int la), .val (.int lb), .val (.int lc), .val (.ref b6), .val (.ref b7), .val (.int (p5 ||| (-2147483648 : Int32))), .val (.int (1 : Int32))] [(.int la), (.int la)])) _
      refine XS.icmpNo X12.here hx rfl (hb hby at_136) rfl (teq (rfl : la = la)).2 ?_
      show Steps p.tables e below (T12.setTop (mkF m 139 #[.val (.int p1), .val (.int p2), .val (.int p3), .val (.int p4), .val (.int p5), .val (.int (1 : Int32)), .val (.int la), .val (.int lb), .val (.int lc), .val (.ref b6), .val (.ref b7), .val (.int (p5 ||| (-2147483648 : Int32))), .val (.int (1 : Int32))] [])) _
      refine XS.iconst X12.here hx rfl (hb hby at_139) ?_
      show Steps p.tables e below (T12.setTop (mkF m 140 #[.val (.int p1), .val (.int p2), .val (.int p3), .val (.int p4), .val (.int p5), .val (.int (1 : Int32)), .val (.int la), .val (.int lb), .val (.int lc), .val (.ref b6), .val (.ref b7), .val (.int (p5 ||| (-2147483648 : Int32))), .val (.int (1 : Int32))] [(.int (1 : Int32))])) _
      refine XS.goto X12.here hx rfl (pc0 := 140) (pc' := 144) rfl (hb hby at_140) (by decide) (by decide) ?_
      show Steps p.tables e below (T12.setTop (mkF m 144 #[.val (.int p1), .val (.int p2), .val (.int p3), .val (.int p4), .val (.int p5), .val (.int (1 : Int32)), .val (.int la), .val (.int lb), .val (.int lc), .val (.ref b6), .val (.ref b7), .val (.int (p5 ||| (-2147483648 : Int32))), .val (.int (1 : Int32))] [(.int (1 : Int32))])) _
      refine XS.istore X12.here hx rfl (hb hby at_144) rfl (l' := #[.val (.int p1), .val (.int p2), .val (.int p3), .val (.int p4), .val (.int p5), .val (.int (1 : Int32)), .val (.int la), .val (.int lb), .val (.int lc), .val (.ref b6), .val (.ref b7), .val (.int (p5 ||| (-2147483648 : Int32))), .val (.int (1 : Int32))]) rfl ?_
      show Steps p.tables e below (T12.setTop (mkF m 146 #[.val (.int p1), .val (.int p2), .val (.int p3), .val (.int p4), .val (.int p5), .val (.int (1 : Int32)), .val (.int la), .val (.int lb), .val (.int lc), .val (.ref b6), .val (.ref b7), .val (.int (p5 ||| (-2147483648 : Int32))), .val (.int (1 : Int32))] [])) _
      refine XS.iload X12.here hx rfl (hb hby at_146) rfl ?_
      show Steps p.tables e below (T12.setTop (mkF m 148 #[.val (.int p1), .val (.int p2), .val (.int p3), .val (.int p4), .val (.int p5), .val (.int (1 : Int32)), .val (.int la), .val (.int lb), .val (.int lc), .val (.ref b6), .val (.ref b7), .val (.int (p5 ||| (-2147483648 : Int32))), .val (.int (1 : Int32))] [(.int (1 : Int32))])) _
      refine XS.iconst X12.here hx rfl (hb hby at_148) ?_
      show Steps p.tables e below (T12.setTop (mkF m 149 #[.val (.int p1), .val (.int p2), .val (.int p3), .val (.int p4), .val (.int p5), .val (.int (1 : Int32)), .val (.int la), .val (.int lb), .val (.int lc), .val (.ref b6), .val (.ref b7), .val (.int (p5 ||| (-2147483648 : Int32))), .val (.int (1 : Int32))] [(.int (1 : Int32)), (.int (1 : Int32))])) _
      refine XS.icmpYes X12.here hx rfl (pc0 := 149) (pc' := 178) rfl (hb hby at_149) rfl (flt (by decide : ¬ ((1 : Int32) < (1 : Int32)))).2.2.2 (by decide) (by decide) ?_
      show Steps p.tables e below (T12.setTop (mkF m 178 #[.val (.int p1), .val (.int p2), .val (.int p3), .val (.int p4), .val (.int p5), .val (.int (1 : Int32)), .val (.int la), .val (.int lb), .val (.int lc), .val (.ref b6), .val (.ref b7), .val (.int (p5 ||| (-2147483648 : Int32))), .val (.int (1 : Int32))] [])) _
      refine XS.iload X12.here hx rfl (hb hby at_178) rfl ?_
      show Steps p.tables e below (T12.setTop (mkF m 180 #[.val (.int p1), .val (.int p2), .val (.int p3), .val (.int p4), .val (.int p5), .val (.int (1 : Int32)), .val (.int la), .val (.int lb), .val (.int lc), .val (.ref b6), .val (.ref b7), .val (.int (p5 ||| (-2147483648 : Int32))), .val (.int (1 : Int32))] [(.int (1 : Int32))])) _
      refine XS.iconst X12.here hx rfl (hb hby at_180) ?_
      show Steps p.tables e below (T12.setTop (mkF m 181 #[.val (.int p1), .val (.int p2), .val (.int p3), .val (.int p4), .val (.int p5), .val (.int (1 : Int32)), .val (.int la), .val (.int lb), .val (.int lc), .val (.ref b6), .val (.ref b7), .val (.int (p5 ||| (-2147483648 : Int32))), .val (.int (1 : Int32))] [(.int (2 : Int32)), (.int (1 : Int32))])) _
      refine XS.icmpYes X12.here hx rfl (pc0 := 181) (pc' := 213) rfl (hb hby at_181) rfl (flt (by decide : ¬ ((2 : Int32) < (1 : Int32)))).2.2.2 (by decide) (by decide) ?_
      show Steps p.tables e below (T12.setTop (mkF m 213 #[.val (.int p1), .val (.int p2), .val (.int p3), .val (.int p4), .val (.int p5), .val (.int (1 : Int32)), .val (.int la), .val (.int lb), .val (.int lc), .val (.ref b6), .val (.ref b7), .val (.int (p5 ||| (-2147483648 : Int32))), .val (.int (1 : Int32))] [])) _
      refine XS.iload X12.here hx rfl (hb hby at_213) rfl ?_
      show Steps p.tables e below (T12.setTop (mkF m 215 #[.val (.int p1), .val (.int p2), .val (.int p3), .val (.int p4), .val (.int p5), .val (.int (1 : Int32)), .val (.int la), .val (.int lb), .val (.int lc), .val (.ref b6), .val (.ref b7), .val (.int (p5 ||| (-2147483648 : Int32))), .val (.int (1 : Int32))] [(.int (1 : Int32))])) _
      exact retN X12 hx (t := .boolean) Bd.returns (by simp) (hb hby at_215) hr
    · show Q0 Z p1 p2 p3 p4 p5 h0 n0 _ T12.heap _
      rw [e12]
      exact ⟨rfl, N12⟩
  · skip
    obtain ⟨T6, h6, k6, X6, e6, E6, A6, st6⟩ := newP X0 hx hZ (hw _ (List.mem_of_getElem? (i := 0) rfl)) e0 (g := (mkF m 25 #[.val (.int p1), .val (.int p2), .val (.int p3), .val (.int p4), .val (.int p5), .val (.int (2 : Int32)), .val (.int la), .val (.int lb), .val (.int lc), .unset, .unset, .unset, .unset] [(.int (16 : Int32))])) rfl (hb hby at_25) rfl (by decide) (cap := 16) (by decide) (by decide) (by decide) (by decide)
    obtain ⟨b6, g6⟩ : ∃ z, z = h0.size := ⟨_, rfl⟩
    rw [← g6] at A6 st6
    have V_b6 : Arv Z h6 b6 k6 .int (16 : Int32) [(.int (0 : Int32)), (.int (0 : Int32)), (.int (0 : Int32)), (.int (0 : Int32)), (.int (0 : Int32)), (.int (0 : Int32)), (.int (0 : Int32)), (.int (0 : Int32)), (.int (0 : Int32)), (.int (0 : Int32)), (.int (0 : Int32)), (.int (0 : Int32)), (.int (0 : Int32)), (.int (0 : Int32)), (.int (0 : Int32)), (.int (0 : Int32))] (.int (0 : Int32)) := (Arv.new A6 (by decide)).pad (pad_rep [] (.int (0 : Int32)) 16)
    have g_b6 : n0 ≤ b6 := Nat.le_trans Z0 (Nat.le_of_eq g6.symm)
    have sz_b6 : h0.size ≤ b6 := (Nat.le_trans (Keep.refl h0 []).1 (Nat.le_of_eq g6.symm))
    have K6 : Keep h0 h6 [] := (Keep.refl h0 []).ext E6
    obtain ⟨T7, h7, X7, e7, E7, A7, D7, -, st7⟩ := newO X6 hx hZ hown (hw _ (List.mem_of_getElem? (i := 1) rfl)) (hw _ (List.mem_of_getElem? (i := 2) rfl)) (hw _ (List.mem_of_getElem? (i := 3) rfl)) e6 (g := (mkF m 29 #[.val (.int p1), .val (.int p2), .val (.int p3), .val (.int p4), .val (.int p5), .val (.int (2 : Int32)), .val (.int la), .val (.int lb), .val (.int lc), .val (.ref b6), .unset, .unset, .unset] [])) rfl (hb hby at_29) (by decide) (by decide)
    obtain ⟨b7, g7⟩ : ∃ z, z = h6.size := ⟨_, rfl⟩
    rw [← g7] at A7 D7 st7
    have F_pages_b7 : Fld Z h7 b7 "com/example/surfwalk/surfwalk/Surfer$Paths" "pages" "[I" .null := D7 (Or.inl (hw _ (List.mem_of_getElem? (i := 11) rfl))) (ty := (.array .int)) (by decide)
    have F_ends_b7 : Fld Z h7 b7 "com/example/surfwalk/surfwalk/Surfer$Paths" "ends" "[I" .null := D7 (Or.inr (hw _ (List.mem_of_getElem? (i := 13) rfl))) (ty := (.array .int)) (by decide)
    have F_count_b7 : Fld Z h7 b7 "com/example/surfwalk/surfwalk/Surfer$Paths" "count" "I" (.int (0 : Int32)) := D7 (Or.inl (hw _ (List.mem_of_getElem? (i := 26) rfl))) (ty := .int) (by decide)
    have E_b7 := A7
    have g_b7 : n0 ≤ b7 := Nat.le_trans (Nat.le_trans Z0 E6.1) (Nat.le_of_eq g7.symm)
    have sz_b7 : h0.size ≤ b7 := (Nat.le_trans K6.1 (Nat.le_of_eq g7.symm))
    have K7 : Keep h0 h7 [] := K6.ext E7
    obtain ⟨_, _, ⟨T8, L8, k8, n8⟩, -, X8, ⟨Lc8, hQ8, l8, y8, z8⟩, st8⟩ := X7.specialBack hx (y := (⟨"com/example/surfwalk/surfwalk/Surfer$Paths", "<init>", "()V"⟩ : MethodName)) rfl hown (mvT hZ (hw _ (List.mem_of_getElem? (i := 4) rfl))) (mvT hZ (hw _ (List.mem_of_getElem? (i := 5) rfl))) (mvT hZ (hw _ (List.mem_of_getElem? (i := 6) rfl))) (by decide) (backOf (W := 1) (rm1 l Z a0 hw [] b7 .null .null h7 n0 (Nat.le_trans Z0 K7.1) E_b7 F_pages_b7 g_b7 F_ends_b7 F_count_b7) hZ (hw _ (List.mem_of_getElem? (i := 6) rfl)) (hw _ (List.mem_of_getElem? (i := 3) rfl)) (by decide) (by decide)) (g := (mkF m 33 #[.val (.int p1), .val (.int p2), .val (.int p3), .val (.int p4), .val (.int p5), .val (.int (2 : Int32)), .val (.int la), .val (.int lb), .val (.int lc), .val (.ref b6), .unset, .unset, .unset] [(.ref b7), (.ref b7)])) rfl (by rw [hml]; rfl) (Steps.refl _) (a := b7) (argsL := []) (rest := [(.ref b7)]) (lenOf pd_0_0 rfl) rfl (by show 2 * 0 + _ ≤ _; exact Nat.le_of_eq rfl) (hb hby at_33) (fun _ _ => ⟨rfl, e7, (by decide : 2 + 2 ≤ _), (by decide : 19 + 5120 ≤ _)⟩)
    dsimp only [Pt.U, Pt.locs, Pt.cells, Pt.slots] at X8 l8 y8 z8 st8 hQ8
    subst l8 y8 z8
    obtain ⟨rfl, N8q, Kc, Ex0, Fc0, bp, be, kp, ke, szp, sze, hpe, Fp0, Fe0, Vp0, Ve0⟩ := hQ8
    have gbp : n0 ≤ bp := Nat.le_trans (Nat.le_trans Z0 K7.1) szp
    have gbe : n0 ≤ be := Nat.le_trans (Nat.le_trans Z0 K7.1) sze
    have hbe : be ≠ bp := Ne.symm hpe
    have VsA : Arv Z h6 b6 k6 .int (16 : Int32) [] (.int (0 : Int32)) := (Arv.new A6 (by decide) : Arv Z h6 b6 k6 .int (16 : Int32) [] (.int (0 : Int32)))
    have VsB : Arv Z h7 b6 k6 .int (16 : Int32) [] (.int (0 : Int32)) := VsA.ext E7
    have hAp : b6 ≠ bp := Nat.ne_of_lt (Nat.lt_of_lt_of_le VsB.lt szp)
    have hAe : b6 ≠ be := Nat.ne_of_lt (Nat.lt_of_lt_of_le VsB.lt sze)
    have hAP : b6 ∉ [b7] := fun z => Nat.ne_of_lt (Nat.lt_of_lt_of_le VsA.lt (Nat.le_of_eq g7.symm)) (List.mem_singleton.mp z)
    have Vs0 : Arv Z T8.heap b6 k6 .int (16 : Int32) [] (.int (0 : Int32)) := VsB.keep Kc hAP
    have hv0 : (List.replicate 48 (.int (0 : Int32)) : List Value).length = 48 := by simp
    obtain ⟨vp0, evp0⟩ : ∃ z : List Value, z = List.replicate 48 (.int (0 : Int32)) := ⟨_, rfl⟩
    rw [← evp0] at Vp0 hv0
    have N8 := Fr.app N0 N8q
    obtain ⟨cq9, kq9, q9a, q9b, q9c⟩ := isOf hZ rfl Ex0
    obtain ⟨_, _, ⟨T9, L9, k9, n9⟩, -, X9, ⟨Lc9, hQ9, l9, y9, z9⟩, st9⟩ := X8.virtualBack hx (y := (⟨"com/example/surfwalk/surfwalk/Surfer$Paths", "addWalk", "([IILjava/util/SplittableRandom;)V"⟩ : MethodName)) (z := (⟨"com/example/surfwalk/surfwalk/Surfer$Paths", "addWalk", "([IILjava/util/SplittableRandom;)V"⟩ : MethodName)) hown (mvT hZ (hw _ (List.mem_of_getElem? (i := 20) rfl))) (mvT hZ (hw _ (List.mem_of_getElem? (i := 21) rfl))) (notFace_of_selects (args := #[]) (mvT hZ (hw _ (List.mem_of_getElem? (i := 23) rfl)))) (mvT hZ (hw _ (List.mem_of_getElem? (i := 23) rfl))) (mvT hZ (hw _ (List.mem_of_getElem? (i := 22) rfl))) (by decide) (backOf (W := 0) (rm4 l Z a0 hw [] b7 b6 la (0 : Int32) (0 : Int32) bp be kp ke k6 vp0 [(.int (0 : Int32)), (.int (0 : Int32)), (.int (0 : Int32))] T8.heap n0 (Nat.le_trans (Nat.le_trans Z0 K7.1) Kc.1) Fc0 Ex0 Fp0 Fe0 Vs0 Vp0 hv0 Ve0 (by decide) (Nat.le_of_ble_eq_true rfl) g_b7 gbp gbe hbe hAp hAe (by decide) (by decide) la0 (by omega) (rm3n l Z a0 hw [] b7 ((0 : Int32) - (1 : Int32)) T8.heap n0 (Nat.le_trans (Nat.le_trans Z0 K7.1) Kc.1) (by decide))) hZ (hw _ (List.mem_of_getElem? (i := 24) rfl)) (hw _ (List.mem_of_getElem? (i := 3) rfl)) (by decide) (by decide)) q9a q9c (g := (mkF m 50 #[.val (.int p1), .val (.int p2), .val (.int p3), .val (.int p4), .val (.int p5), .val (.int (2 : Int32)), .val (.int la), .val (.int lb), .val (.int lc), .val (.ref b6), .val (.ref b7), .unset, .unset] [.null, (.int la), (.ref b6), (.ref b7)])) rfl (by rw [hml]; rfl) (Steps.refl _) (argsL := [(.ref b6), (.int la), .null]) (rest := []) (lenOf pd_0_2 rfl) rfl (by show 2 * 0 + _ ≤ _; exact Nat.le_of_eq rfl) (hb hby at_50) (fun _ _ => ⟨rfl, rfl, (by decide : 4 + 0 ≤ _), (by decide : 5139 + 0 ≤ _)⟩)
    dsimp only [Pt.U, Pt.locs, Pt.cells, Pt.slots] at X9 l9 y9 z9 st9 hQ9
    subst l9 y9 z9
    obtain ⟨rfl, N9q, K9q, Ex1, Fp1, Fe1, Fc1r, ⟨vp1, hv1, Vp1⟩, Ve1r, Vs1⟩ := hQ9
    have Fc1 : Fld Z T9.heap b7 "com/example/surfwalk/surfwalk/Surfer$Paths" "count" "I" (.int (1 : Int32)) := Fc1r
    rw [Int32.zero_add] at Ve1r
    have Ve1 : Arv Z T9.heap be ke .int (1024 : Int32) [(.int la), (.int (0 : Int32)), (.int (0 : Int32))] (.int (0 : Int32)) := Ve1r
    have N9 := Fr.app N8 N9q
    obtain ⟨cq10, kq10, q10a, q10b, q10c⟩ := isOf hZ rfl Ex1
    obtain ⟨_, _, ⟨T10, L10, k10, n10⟩, -, X10, ⟨Lc10, hQ10, l10, y10, z10⟩, st10⟩ := X9.virtualBack hx (y := (⟨"com/example/surfwalk/surfwalk/Surfer$Paths", "addWalk", "([IILjava/util/SplittableRandom;)V"⟩ : MethodName)) (z := (⟨"com/example/surfwalk/surfwalk/Surfer$Paths", "addWalk", "([IILjava/util/SplittableRandom;)V"⟩ : MethodName)) hown (mvT hZ (hw _ (List.mem_of_getElem? (i := 20) rfl))) (mvT hZ (hw _ (List.mem_of_getElem? (i := 21) rfl))) (notFace_of_selects (args := #[]) (mvT hZ (hw _ (List.mem_of_getElem? (i := 23) rfl)))) (mvT hZ (hw _ (List.mem_of_getElem? (i := 23) rfl))) (mvT hZ (hw _ (List.mem_of_getElem? (i := 22) rfl))) (by decide) (backOf (W := 0) (rm4 l Z a0 hw [] b7 b6 lb (1 : Int32) la bp be kp ke k6 vp1 [(.int la), (.int (0 : Int32)), (.int (0 : Int32))] T9.heap n0 (Nat.le_trans (Nat.le_trans (Nat.le_trans Z0 K7.1) Kc.1) K9q.1) Fc1 Ex1 Fp1 Fe1 Vs1 Vp1 hv1 Ve1 (by decide) (Nat.le_of_ble_eq_true rfl) g_b7 gbp gbe hbe hAp hAe la0 (by omega) lb0 (by omega) (own_end l Z a0 hw b7 ((1 : Int32) - (1 : Int32)) la be T9.heap n0 (Nat.le_trans (Nat.le_trans (Nat.le_trans Z0 K7.1) Kc.1) K9q.1) Fe1 Ve1 (by decide) rfl)) hZ (hw _ (List.mem_of_getElem? (i := 24) rfl)) (hw _ (List.mem_of_getElem? (i := 3) rfl)) (by decide) (by decide)) q10a q10c (g := (mkF m 66 #[.val (.int p1), .val (.int p2), .val (.int p3), .val (.int p4), .val (.int p5), .val (.int (2 : Int32)), .val (.int la), .val (.int lb), .val (.int lc), .val (.ref b6), .val (.ref b7), .unset, .unset] [.null, (.int lb), (.ref b6), (.ref b7)])) rfl (by rw [hml]; rfl) (Steps.refl _) (argsL := [(.ref b6), (.int lb), .null]) (rest := []) (lenOf pd_0_2 rfl) rfl (by show 2 * 0 + _ ≤ _; exact Nat.le_of_eq rfl) (hb hby at_66) (fun _ _ => ⟨rfl, rfl, (by decide : 4 + 0 ≤ _), (by decide : 5139 + 0 ≤ _)⟩)
    dsimp only [Pt.U, Pt.locs, Pt.cells, Pt.slots] at X10 l10 y10 z10 st10 hQ10
    subst l10 y10 z10
    obtain ⟨rfl, N10q, K10q, Ex2, Fp2, Fe2, Fc2r, ⟨vp2, hv2, Vp2⟩, Ve2r, Vs2⟩ := hQ10
    have Fc2 : Fld Z T10.heap b7 "com/example/surfwalk/surfwalk/Surfer$Paths" "count" "I" (.int (2 : Int32)) := Fc2r
    have Ve2 : Arv Z T10.heap be ke .int (1024 : Int32) [(.int la), (.int (la + lb)), (.int (0 : Int32))] (.int (0 : Int32)) := Ve2r
    have N10 := Fr.app N9 N10q
    obtain ⟨cq11, kq11, q11a, q11b, q11c⟩ := isOf hZ rfl Ex2
    obtain ⟨_, _, ⟨T11, L11, k11, n11⟩, -, X11, ⟨Lc11, hQ11, l11, y11, z11⟩, st11⟩ := X10.virtualBack hx (y := (⟨"com/example/surfwalk/surfwalk/Surfer$Paths", "end", "(I)I"⟩ : MethodName)) (z := (⟨"com/example/surfwalk/surfwalk/Surfer$Paths", "end", "(I)I"⟩ : MethodName)) hown (mvT hZ (hw _ (List.mem_of_getElem? (i := 15) rfl))) (mvT hZ (hw _ (List.mem_of_getElem? (i := 16) rfl))) (notFace_of_selects (args := #[]) (mvT hZ (hw _ (List.mem_of_getElem? (i := 18) rfl)))) (mvT hZ (hw _ (List.mem_of_getElem? (i := 18) rfl))) (mvT hZ (hw _ (List.mem_of_getElem? (i := 17) rfl))) (by decide) (backOf (W := 0) (rm3n l Z a0 hw [] b7 (-1 : Int32) T10.heap n0 (Nat.le_trans (Nat.le_trans (Nat.le_trans (Nat.le_trans Z0 K7.1) Kc.1) K9q.1) K10q.1) (by decide)) hZ (hw _ (List.mem_of_getElem? (i := 19) rfl)) (hw _ (List.mem_of_getElem? (i := 3) rfl)) (by decide) (by decide)) q11a q11c (g := (mkF m 95 #[.val (.int p1), .val (.int p2), .val (.int p3), .val (.int p4), .val (.int p5), .val (.int (2 : Int32)), .val (.int la), .val (.int lb), .val (.int lc), .val (.ref b6), .val (.ref b7), .val (.int (p5 ||| (-2147483648 : Int32))), .unset] [(.int (-1 : Int32)), (.ref b7)])) rfl (by rw [hml]; rfl) (Steps.refl _) (argsL := [(.int (-1 : Int32))]) (rest := []) (lenOf pd_0_1 rfl) rfl (by show 2 * 0 + _ ≤ _; exact Nat.le_of_eq rfl) (hb hby at_95) (fun _ _ => ⟨rfl, rfl, (by decide : 4 + 0 ≤ _), (by decide : 5139 + 0 ≤ _)⟩)
    dsimp only [Pt.U, Pt.locs, Pt.cells, Pt.slots] at X11 l11 y11 z11 st11 hQ11
    subst l11 y11 z11
    obtain ⟨rfl, N11q, e11⟩ := hQ11
    have N11 := Fr.app N10 N11q
    obtain ⟨cq12, kq12, q12a, q12b, q12c⟩ := isOf hZ e11 Ex2
    obtain ⟨_, _, ⟨T12, L12, k12, n12⟩, -, X12, ⟨Lc12, hQ12, l12, y12, z12⟩, st12⟩ := X11.virtualBack hx (y := (⟨"com/example/surfwalk/surfwalk/Surfer$Paths", "end", "(I)I"⟩ : MethodName)) (z := (⟨"com/example/surfwalk/surfwalk/Surfer$Paths", "end", "(I)I"⟩ : MethodName)) hown (mvT hZ (hw _ (List.mem_of_getElem? (i := 15) rfl))) (mvT hZ (hw _ (List.mem_of_getElem? (i := 16) rfl))) (notFace_of_selects (args := #[]) (mvT hZ (hw _ (List.mem_of_getElem? (i := 18) rfl)))) (mvT hZ (hw _ (List.mem_of_getElem? (i := 18) rfl))) (mvT hZ (hw _ (List.mem_of_getElem? (i := 17) rfl))) (by decide) (backOf (W := 0) (rm3n l Z a0 hw [] b7 (p5 ||| (-2147483648 : Int32)) T10.heap n0 (Nat.le_trans (Nat.le_trans (Nat.le_trans (Nat.le_trans Z0 K7.1) Kc.1) K9q.1) K10q.1) (own_neg p5)) hZ (hw _ (List.mem_of_getElem? (i := 19) rfl)) (hw _ (List.mem_of_getElem? (i := 3) rfl)) (by decide) (by decide)) q12a q12c (g := (mkF m 105 #[.val (.int p1), .val (.int p2), .val (.int p3), .val (.int p4), .val (.int p5), .val (.int (2 : Int32)), .val (.int la), .val (.int lb), .val (.int lc), .val (.ref b6), .val (.ref b7), .val (.int (p5 ||| (-2147483648 : Int32))), .unset] [(.int (p5 ||| (-2147483648 : Int32))), (.ref b7)])) rfl (by rw [hml]; rfl) (Steps.refl _) (argsL := [(.int (p5 ||| (-2147483648 : Int32)))]) (rest := []) (lenOf pd_0_1 rfl) rfl (by show 2 * 0 + _ ≤ _; exact Nat.le_of_eq rfl) (hb hby at_105) (fun _ _ => ⟨rfl, e11, (by decide : 4 + 0 ≤ _), (by decide : 5139 + 0 ≤ _)⟩)
    dsimp only [Pt.U, Pt.locs, Pt.cells, Pt.slots] at X12 l12 y12 z12 st12 hQ12
    subst l12 y12 z12
    obtain ⟨rfl, N12q, e12⟩ := hQ12
    have N12 := Fr.app N11 N12q
    obtain ⟨cq13, kq13, q13a, q13b, q13c⟩ := isOf hZ e12 Ex2
    obtain ⟨_, _, ⟨T13, L13, k13, n13⟩, -, X13, ⟨Lc13, hQ13, l13, y13, z13⟩, st13⟩ := X12.virtualBack hx (y := (⟨"com/example/surfwalk/surfwalk/Surfer$Paths", "end", "(I)I"⟩ : MethodName)) (z := (⟨"com/example/surfwalk/surfwalk/Surfer$Paths", "end", "(I)I"⟩ : MethodName)) hown (mvT hZ (hw _ (List.mem_of_getElem? (i := 15) rfl))) (mvT hZ (hw _ (List.mem_of_getElem? (i := 16) rfl))) (notFace_of_selects (args := #[]) (mvT hZ (hw _ (List.mem_of_getElem? (i := 18) rfl)))) (mvT hZ (hw _ (List.mem_of_getElem? (i := 18) rfl))) (mvT hZ (hw _ (List.mem_of_getElem? (i := 17) rfl))) (by decide) (backOf (W := 0) (own_end l Z a0 hw b7 (0 : Int32) la be T10.heap n0 (Nat.le_trans (Nat.le_trans (Nat.le_trans (Nat.le_trans Z0 K7.1) Kc.1) K9q.1) K10q.1) Fe2 Ve2 (by decide) rfl) hZ (hw _ (List.mem_of_getElem? (i := 19) rfl)) (hw _ (List.mem_of_getElem? (i := 3) rfl)) (by decide) (by decide)) q13a q13c (g := (mkF m 131 #[.val (.int p1), .val (.int p2), .val (.int p3), .val (.int p4), .val (.int p5), .val (.int (2 : Int32)), .val (.int la), .val (.int lb), .val (.int lc), .val (.ref b6), .val (.ref b7), .val (.int (p5 ||| (-2147483648 : Int32))), .val (.int (1 : Int32))] [(.int (0 : Int32)), (.ref b7)])) rfl (by rw [hml]; rfl) (Steps.refl _) (argsL := [(.int (0 : Int32))]) (rest := []) (lenOf pd_0_1 rfl) rfl (by show 2 * 0 + _ ≤ _; exact Nat.le_of_eq rfl) (hb hby at_131) (fun _ _ => ⟨rfl, e12, (by decide : 4 + 0 ≤ _), (by decide : 5139 + 0 ≤ _)⟩)
    dsimp only [Pt.U, Pt.locs, Pt.cells, Pt.slots] at X13 l13 y13 z13 st13 hQ13
    subst l13 y13 z13
    obtain ⟨rfl, N13q, e13⟩ := hQ13
    have N13 := Fr.app N12 N13q
    obtain ⟨cq14, kq14, q14a, q14b, q14c⟩ := isOf hZ e13 Ex2
    obtain ⟨_, _, ⟨T14, L14, k14, n14⟩, -, X14, ⟨Lc14, hQ14, l14, y14, z14⟩, st14⟩ := X13.virtualBack hx (y := (⟨"com/example/surfwalk/surfwalk/Surfer$Paths", "end", "(I)I"⟩ : MethodName)) (z := (⟨"com/example/surfwalk/surfwalk/Surfer$Paths", "end", "(I)I"⟩ : MethodName)) hown (mvT hZ (hw _ (List.mem_of_getElem? (i := 15) rfl))) (mvT hZ (hw _ (List.mem_of_getElem? (i := 16) rfl))) (notFace_of_selects (args := #[]) (mvT hZ (hw _ (List.mem_of_getElem? (i := 18) rfl)))) (mvT hZ (hw _ (List.mem_of_getElem? (i := 18) rfl))) (mvT hZ (hw _ (List.mem_of_getElem? (i := 17) rfl))) (by decide) (backOf (W := 0) (own_end l Z a0 hw b7 (1 : Int32) (la + lb) be T10.heap n0 (Nat.le_trans (Nat.le_trans (Nat.le_trans (Nat.le_trans Z0 K7.1) Kc.1) K9q.1) K10q.1) Fe2 Ve2 (by decide) rfl) hZ (hw _ (List.mem_of_getElem? (i := 19) rfl)) (hw _ (List.mem_of_getElem? (i := 3) rfl)) (by decide) (by decide)) q14a q14c (g := (mkF m 160 #[.val (.int p1), .val (.int p2), .val (.int p3), .val (.int p4), .val (.int p5), .val (.int (2 : Int32)), .val (.int la), .val (.int lb), .val (.int lc), .val (.ref b6), .val (.ref b7), .val (.int (p5 ||| (-2147483648 : Int32))), .val (.int (1 : Int32))] [(.int (1 : Int32)), (.ref b7)])) rfl (by rw [hml]; rfl) (Steps.refl _) (argsL := [(.int (1 : Int32))]) (rest := []) (lenOf pd_0_1 rfl) rfl (by show 2 * 0 + _ ≤ _; exact Nat.le_of_eq rfl) (hb hby at_160) (fun _ _ => ⟨rfl, e13, (by decide : 4 + 0 ≤ _), (by decide : 5139 + 0 ≤ _)⟩)
    dsimp only [Pt.U, Pt.locs, Pt.cells, Pt.slots] at X14 l14 y14 z14 st14 hQ14
    subst l14 y14 z14
    obtain ⟨rfl, N14q, e14⟩ := hQ14
    have N14 := Fr.app N13 N14q
    obtain ⟨fs, hr, hrun, hended, hW, hsame⟩ := X14.leave (v := some (.int (1 : Int32))) (fun h => by rw [Bd.returns] at h; cases h)
    refine ⟨_, _, pre0 _ (pre1 _ ?_), hrun, hended, _, _, rfl, ?_, ⟨_, rfl⟩, hW, hsame.mono (by decide) (by decide)⟩
    · show Steps p.tables e below (s₁.setTop (mkF m 23 #[.val (.int p1), .val (.int p2), .val (.int p3), .val (.int p4), .val (.int p5), .val (.int (2 : Int32)), .val (.int la), .val (.int lb), .val (.int lc), .unset, .unset, .unset, .unset] [])) _
      refine XS.bipush X0.here hx rfl (hb hby at_23) ?_
      show Steps p.tables e below (s₁.setTop (mkF m 25 #[.val (.int p1), .val (.int p2), .val (.int p3), .val (.int p4), .val (.int p5), .val (.int (2 : Int32)), .val (.int la), .val (.int lb), .val (.int lc), .unset, .unset, .unset, .unset] [(.int (16 : Int32))])) _
      refine st6 _ ?_
      show Steps p.tables e below (T6.setTop (mkF m 27 #[.val (.int p1), .val (.int p2), .val (.int p3), .val (.int p4), .val (.int p5), .val (.int (2 : Int32)), .val (.int la), .val (.int lb), .val (.int lc), .unset, .unset, .unset, .unset] [(.ref b6)])) _
      refine XS.astore X6.here hx rfl (hb hby at_27) rfl rfl (l' := #[.val (.int p1), .val (.int p2), .val (.int p3), .val (.int p4), .val (.int p5), .val (.int (2 : Int32)), .val (.int la), .val (.int lb), .val (.int lc), .val (.ref b6), .unset, .unset, .unset]) rfl ?_
      show Steps p.tables e below (T6.setTop (mkF m 29 #[.val (.int p1), .val (.int p2), .val (.int p3), .val (.int p4), .val (.int p5), .val (.int (2 : Int32)), .val (.int la), .val (.int lb), .val (.int lc), .val (.ref b6), .unset, .unset, .unset] [])) _
      refine st7 _ ?_
      show Steps p.tables e below (T7.setTop (mkF m 32 #[.val (.int p1), .val (.int p2), .val (.int p3), .val (.int p4), .val (.int p5), .val (.int (2 : Int32)), .val (.int la), .val (.int lb), .val (.int lc), .val (.ref b6), .unset, .unset, .unset] [(.ref b7)])) _
      refine XS.dup X7.here hx rfl (hb hby at_32) rfl rfl ?_
      show Steps p.tables e below (T7.setTop (mkF m 33 #[.val (.int p1), .val (.int p2), .val (.int p3), .val (.int p4), .val (.int p5), .val (.int (2 : Int32)), .val (.int la), .val (.int lb), .val (.int lc), .val (.ref b6), .unset, .unset, .unset] [(.ref b7), (.ref b7)])) _
      refine st8.trans ?_
      show Steps p.tables e below (T8.setTop (mkF m 36 #[.val (.int p1), .val (.int p2), .val (.int p3), .val (.int p4), .val (.int p5), .val (.int (2 : Int32)), .val (.int la), .val (.int lb), .val (.int lc), .val (.ref b6), .unset, .unset, .unset] [(.ref b7)])) _
      refine XS.astore X8.here hx rfl (hb hby at_36) rfl rfl (l' := #[.val (.int p1), .val (.int p2), .val (.int p3), .val (.int p4), .val (.int p5), .val (.int (2 : Int32)), .val (.int la), .val (.int lb), .val (.int lc), .val (.ref b6), .val (.ref b7), .unset, .unset]) rfl ?_
      show Steps p.tables e below (T8.setTop (mkF m 38 #[.val (.int p1), .val (.int p2), .val (.int p3), .val (.int p4), .val (.int p5), .val (.int (2 : Int32)), .val (.int la), .val (.int lb), .val (.int lc), .val (.ref b6), .val (.ref b7), .unset, .unset] [])) _
      refine XS.iload X8.here hx rfl (hb hby at_38) rfl ?_
      show Steps p.tables e below (T8.setTop (mkF m 40 #[.val (.int p1), .val (.int p2), .val (.int p3), .val (.int p4), .val (.int p5), .val (.int (2 : Int32)), .val (.int la), .val (.int lb), .val (.int lc), .val (.ref b6), .val (.ref b7), .unset, .unset] [(.int (2 : Int32))])) _
      refine XS.ifNo X8.here hx rfl (hb hby at_40) rfl ((if0 _ _).trans (tlt (by decide : (0 : Int32) < (2 : Int32))).2.2.2) ?_
      show Steps p.tables e below (T8.setTop (mkF m 43 #[.val (.int p1), .val (.int p2), .val (.int p3), .val (.int p4), .val (.int p5), .val (.int (2 : Int32)), .val (.int la), .val (.int lb), .val (.int lc), .val (.ref b6), .val (.ref b7), .unset, .unset] [])) _
      refine XS.aload X8.here hx rfl (hb hby at_43) rfl rfl ?_
      show Steps p.tables e below (T8.setTop (mkF m 45 #[.val (.int p1), .val (.int p2), .val (.int p3), .val (.int p4), .val (.int p5), .val (.int (2 : Int32)), .val (.int la), .val (.int lb), .val (.int lc), .val (.ref b6), .val (.ref b7), .unset, .unset] [(.ref b7)])) _
      refine XS.aload X8.here hx rfl (hb hby at_45) rfl rfl ?_
      show Steps p.tables e below (T8.setTop (mkF m 47 #[.val (.int p1), .val (.int p2), .val (.int p3), .val (.int p4), .val (.int p5), .val (.int (2 : Int32)), .val (.int la), .val (.int lb), .val (.int lc), .val (.ref b6), .val (.ref b7), .unset, .unset] [(.ref b6), (.ref b7)])) _
      refine XS.iload X8.here hx rfl (hb hby at_47) rfl ?_
      show Steps p.tables e below (T8.setTop (mkF m 49 #[.val (.int p1), .val (.int p2), .val (.int p3), .val (.int p4), .val (.int p5), .val (.int (2 : Int32)), .val (.int la), .val (.int lb), .val (.int lc), .val (.ref b6), .val (.ref b7), .unset, .unset] [(.int la), (.ref b6), (.ref b7)])) _
      refine XS.aconstNull X8.here hx rfl (hb hby at_49) ?_
      show Steps p.tables e below (T8.setTop (mkF m 50 #[.val (.int p1), .val (.int p2), .val (.int p3), .val (.int p4), .val (.int p5), .val (.int (2 : Int32)), .val (.int la), .val (.int lb), .val (.int lc), .val (.ref b6), .val (.ref b7), .unset, .unset] [.null, (.int la), (.ref b6), (.ref b7)])) _
      refine st9.trans ?_
      show Steps p.tables e below (T9.setTop (mkF m 53 #[.val (.int p1), .val (.int p2), .val (.int p3), .val (.int p4), .val (.int p5), .val (.int (2 : Int32)), .val (.int la), .val (.int lb), .val (.int lc), .val (.ref b6), .val (.ref b7), .unset, .unset] [])) _
      refine XS.iload X9.here hx rfl (hb hby at_53) rfl ?_
      show Steps p.tables e below (T9.setTop (mkF m 55 #[.val (.int p1), .val (.int p2), .val (.int p3), .val (.int p4), .val (.int p5), .val (.int (2 : Int32)), .val (.int la), .val (.int lb), .val (.int lc), .val (.ref b6), .val (.ref b7), .unset, .unset] [(.int (2 : Int32))])) _
      refine XS.iconst X9.here hx rfl (hb hby at_55) ?_
      show Steps p.tables e below (T9.setTop (mkF m 56 #[.val (.int p1), .val (.int p2), .val (.int p3), .val (.int p4), .val (.int p5), .val (.int (2 : Int32)), .val (.int la), .val (.int lb), .val (.int lc), .val (.ref b6), .val (.ref b7), .unset, .unset] [(.int (1 : Int32)), (.int (2 : Int32))])) _
      refine XS.icmpNo X9.here hx rfl (hb hby at_56) rfl (tlt (by decide : (1 : Int32) < (2 : Int32))).2.2.2 ?_
      show Steps p.tables e below (T9.setTop (mkF m 59 #[.val (.int p1), .val (.int p2), .val (.int p3), .val (.int p4), .val (.int p5), .val (.int (2 : Int32)), .val (.int la), .val (.int lb), .val (.int lc), .val (.ref b6), .val (.ref b7), .unset, .unset] [])) _
      refine XS.aload X9.here hx rfl (hb hby at_59) rfl rfl ?_
      show Steps p.tables e below (T9.setTop (mkF m 61 #[.val (.int p1), .val (.int p2), .val (.int p3), .val (.int p4), .val (.int p5), .val (.int (2 : Int32)), .val (.int la), .val (.int lb), .val (.int lc), .val (.ref b6), .val (.ref b7), .unset, .unset] [(.ref b7)])) _
      refine XS.aload X9.here hx rfl (hb hby at_61) rfl rfl ?_
      show Steps p.tables e below (T9.setTop (mkF m 63 #[.val (.int p1), .val (.int p2), .val (.int p3), .val (.int p4), .val (.int p5), .val (.int (2 : Int32)), .val (.int la), .val (.int lb), .val (.int lc), .val (.ref b6), .val (.ref b7), .unset, .unset] [(.ref b6), (.ref b7)])) _
      refine XS.iload X9.here hx rfl (hb hby at_63) rfl ?_
      show Steps p.tables e below (T9.setTop (mkF m 65 #[.val (.int p1), .val (.int p2), .val (.int p3), .val (.int p4), .val (.int p5), .val (.int (2 : Int32)), .val (.int la), .val (.int lb), .val (.int lc), .val (.ref b6), .val (.ref b7), .unset, .unset] [(.int lb), (.ref b6), (.ref b7)])) _
      refine XS.aconstNull X9.here hx rfl (hb hby at_65) ?_
      show Steps p.tables e below (T9.setTop (mkF m 66 #[.val (.int p1), .val (.int p2), .val (.int p3), .val (.int p4), .val (.int p5), .val (.int (2 : Int32)), .val (.int la), .val (.int lb), .val (.int lc), .val (.ref b6), .val (.ref b7), .unset, .unset] [.null, (.int lb), (.ref b6), (.ref b7)])) _
      refine st10.trans ?_
      show Steps p.tables e below (T10.setTop (mkF m 69 #[.val (.int p1), .val (.int p2), .val (.int p3), .val (.int p4), .val (.int p5), .val (.int (2 : Int32)), .val (.int la), .val (.int lb), .val (.int lc), .val (.ref b6), .val (.ref b7), .unset, .unset] [])) _
      refine XS.iload X10.here hx rfl (hb hby at_69) rfl ?_
      show Steps p.tables e below (T10.setTop (mkF m 71 #[.val (.int p1), .val (.int p2), .val (.int p3), .val (.int p4), .val (.int p5), .val (.int (2 : Int32)), .val (.int la), .val (.int lb), .val (.int lc), .val (.ref b6), .val (.ref b7), .unset, .unset] [(.int (2 : Int32))])) _
      refine XS.iconst X10.here hx rfl (hb hby at_71) ?_
      show Steps p.tables e below (T10.setTop (mkF m 72 #[.val (.int p1), .val (.int p2), .val (.int p3), .val (.int p4), .val (.int p5), .val (.int (2 : Int32)), .val (.int la), .val (.int lb), .val (.int lc), .val (.ref b6), .val (.ref b7), .unset, .unset] [(.int (2 : Int32)), (.int (2 : Int32))])) _
      refine XS.icmpYes X10.here hx rfl (pc0 := 72) (pc' := 85) rfl (hb hby at_72) rfl (flt (by decide : ¬ ((2 : Int32) < (2 : Int32)))).2.2.2 (by decide) (by decide) ?_
      show Steps p.tables e below (T10.setTop (mkF m 85 #[.val (.int p1), .val (.int p2), .val (.int p3), .val (.int p4), .val (.int p5), .val (.int (2 : Int32)), .val (.int la), .val (.int lb), .val (.int lc), .val (.ref b6), .val (.ref b7), .unset, .unset] [])) _
      refine XS.iload X10.here hx rfl (hb hby at_85) rfl ?_
      show Steps p.tables e below (T10.setTop (mkF m 87 #[.val (.int p1), .val (.int p2), .val (.int p3), .val (.int p4), .val (.int p5), .val (.int (2 : Int32)), .val (.int la), .val (.int lb), .val (.int lc), .val (.ref b6), .val (.ref b7), .unset, .unset] [(.int p5)])) _
      refine X10.ldcInt hx hown (mvT hZ (hw _ (List.mem_of_getElem? (i := 14) rfl))) (g := (mkF m 87 #[.val (.int p1), .val (.int p2), .val (.int p3), .val (.int p4), .val (.int p5), .val (.int (2 : Int32)), .val (.int la), .val (.int lb), .val (.int lc), .val (.ref b6), .val (.ref b7), .unset, .unset] [(.int p5)])) rfl (hb hby at_87) _ ?_
      show Steps p.tables e below (T10.setTop (mkF m 89 #[.val (.int p1), .val (.int p2), .val (.int p3), .val (.int p4), .val (.int p5), .val (.int (2 : Int32)), .val (.int la), .val (.int lb), .val (.int lc), .val (.ref b6), .val (.ref b7), .unset, .unset] [(.int (-2147483648 : Int32)), (.int p5)])) _
      refine XS.ior X10.here hx rfl (hb hby at_89) rfl ?_
      show Steps p.tables e below (T10.setTop (mkF m 90 #[.val (.int p1), .val (.int p2), .val (.int p3), .val (.int p4), .val (.int p5), .val (.int (2 : Int32)), .val (.int la), .val (.int lb), .val (.int lc), .val (.ref b6), .val (.ref b7), .unset, .unset] [(.int (p5 ||| (-2147483648 : Int32)))])) _
      refine XS.istore X10.here hx rfl (hb hby at_90) rfl (l' := #[.val (.int p1), .val (.int p2), .val (.int p3), .val (.int p4), .val (.int p5), .val (.int (2 : Int32)), .val (.int la), .val (.int lb), .val (.int lc), .val (.ref b6), .val (.ref b7), .val (.int (p5 ||| (-2147483648 : Int32))), .unset]) rfl ?_
      show Steps p.tables e below (T10.setTop (mkF m 92 #[.val (.int p1), .val (.int p2), .val (.int p3), .val (.int p4), .val (.int p5), .val (.int (2 : Int32)), .val (.int la), .val (.int lb), .val (.int lc), .val (.ref b6), .val (.ref b7), .val (.int (p5 ||| (-2147483648 : Int32))), .unset] [])) _
      refine XS.aload X10.here hx rfl (hb hby at_92) rfl rfl ?_
      show Steps p.tables e below (T10.setTop (mkF m 94 #[.val (.int p1), .val (.int p2), .val (.int p3), .val (.int p4), .val (.int p5), .val (.int (2 : Int32)), .val (.int la), .val (.int lb), .val (.int lc), .val (.ref b6), .val (.ref b7), .val (.int (p5 ||| (-2147483648 : Int32))), .unset] [(.ref b7)])) _
      refine XS.iconst X10.here hx rfl (hb hby at_94) ?_
      show Steps p.tables e below (T10.setTop (mkF m 95 #[.val (.int p1), .val (.int p2), .val (.int p3), .val (.int p4), .val (.int p5), .val (.int (2 : Int32)), .val (.int la), .val (.int lb), .val (.int lc), .val (.ref b6), .val (.ref b7), .val (.int (p5 ||| (-2147483648 : Int32))), .unset] [(.int (-1 : Int32)), (.ref b7)])) _
      refine st11.trans ?_
      show Steps p.tables e below (T11.setTop (mkF m 98 #[.val (.int p1), .val (.int p2), .val (.int p3), .val (.int p4), .val (.int p5), .val (.int (2 : Int32)), .val (.int la), .val (.int lb), .val (.int lc), .val (.ref b6), .val (.ref b7), .val (.int (p5 ||| (-2147483648 : Int32))), .unset] [(.int (0 : Int32))])) _
      refine XS.ifNo X11.here hx rfl (hb hby at_98) rfl ((if0 _ _).trans (teq (rfl : (0 : Int32) = (0 : Int32))).2) ?_
      show Steps p.tables e below (T11.setTop (mkF m 101 #[.val (.int p1), .val (.int p2), .val (.int p3), .val (.int p4), .val (.int p5), .val (.int (2 : Int32)), .val (.int la), .val (.int lb), .val (.int lc), .val (.ref b6), .val (.ref b7), .val (.int (p5 ||| (-2147483648 : Int32))), .unset] [])) _
      refine XS.aload X11.here hx rfl (hb hby at_101) rfl rfl ?_
      show Steps p.tables e below (T11.setTop (mkF m 103 #[.val (.int p1), .val (.int p2), .val (.int p3), .val (.int p4), .val (.int p5), .val (.int (2 : Int32)), .val (.int la), .val (.int lb), .val (.int lc), .val (.ref b6), .val (.ref b7), .val (.int (p5 ||| (-2147483648 : Int32))), .unset] [(.ref b7)])) _
      refine XS.iload X11.here hx rfl (hb hby at_103) rfl ?_
      show Steps p.tables e below (T11.setTop (mkF m 105 #[.val (.int p1), .val (.int p2), .val (.int p3), .val (.int p4), .val (.int p5), .val (.int (2 : Int32)), .val (.int la), .val (.int lb), .val (.int lc), .val (.ref b6), .val (.ref b7), .val (.int (p5 ||| (-2147483648 : Int32))), .unset] [(.int (p5 ||| (-2147483648 : Int32))), (.ref b7)])) _
      refine st12.trans ?_
      show Steps p.tables e below (T12.setTop (mkF m 108 #[.val (.int p1), .val (.int p2), .val (.int p3), .val (.int p4), .val (.int p5), .val (.int (2 : Int32)), .val (.int la), .val (.int lb), .val (.int lc), .val (.ref b6), .val (.ref b7), .val (.int (p5 ||| (-2147483648 : Int32))), .unset] [(.int (0 : Int32))])) _
      refine XS.ifNo X12.here hx rfl (hb hby at_108) rfl ((if0 _ _).trans (teq (rfl : (0 : Int32) = (0 : Int32))).2) ?_
      show Steps p.tables e below (T12.setTop (mkF m 111 #[.val (.int p1), .val (.int p2), .val (.int p3), .val (.int p4), .val (.int p5), .val (.int (2 : Int32)), .val (.int la), .val (.int lb), .val (.int lc), .val (.ref b6), .val (.ref b7), .val (.int (p5 ||| (-2147483648 : Int32))), .unset] [])) _
      refine XS.iconst X12.here hx rfl (hb hby at_111) ?_
      show Steps p.tables e below (T12.setTop (mkF m 112 #[.val (.int p1), .val (.int p2), .val (.int p3), .val (.int p4), .val (.int p5), .val (.int (2 : Int32)), .val (.int la), .val (.int lb), .val (.int lc), .val (.ref b6), .val (.ref b7), .val (.int (p5 ||| (-2147483648 : Int32))), .unset] [(.int (1 : Int32))])) _
      refine XS.goto X12.here hx rfl (pc0 := 112) (pc' := 116) rfl (hb hby at_112) (by decide) (by decide) ?_
      show Steps p.tables e below (T12.setTop (mkF m 116 #[.val (.int p1), .val (.int p2), .val (.int p3), .val (.int p4), .val (.int p5), .val (.int (2 : Int32)), .val (.int la), .val (.int lb), .val (.int lc), .val (.ref b6), .val (.ref b7), .val (.int (p5 ||| (-2147483648 : Int32))), .unset] [(.int (1 : Int32))])) _
      refine XS.istore X12.here hx rfl (hb hby at_116) rfl (l' := #[.val (.int p1), .val (.int p2), .val (.int p3), .val (.int p4), .val (.int p5), .val (.int (2 : Int32)), .val (.int la), .val (.int lb), .val (.int lc), .val (.ref b6), .val (.ref b7), .val (.int (p5 ||| (-2147483648 : Int32))), .val (.int (1 : Int32))]) rfl ?_
      show Steps p.tables e below (T12.setTop (mkF m 118 #[.val (.int p1), .val (.int p2), .val (.int p3), .val (.int p4), .val (.int p5), .val (.int (2 : Int32)), .val (.int la), .val (.int lb), .val (.int lc), .val (.ref b6), .val (.ref b7), .val (.int (p5 ||| (-2147483648 : Int32))), .val (.int (1 : Int32))] [])) _
      refine XS.iload X12.here hx rfl (hb hby at_118) rfl ?_
      show Steps p.tables e below (T12.setTop (mkF m 120 #[.val (.int p1), .val (.int p2), .val (.int p3), .val (.int p4), .val (.int p5), .val (.int (2 : Int32)), .val (.int la), .val (.int lb), .val (.int lc), .val (.ref b6), .val (.ref b7), .val (.int (p5 ||| (-2147483648 : Int32))), .val (.int (1 : Int32))] [(.int (2 : Int32))])) _
      refine XS.ifNo X12.here hx rfl (hb hby at_120) rfl ((if0 _ _).trans (tlt (by decide : (0 : Int32) < (2 : Int32))).2.2.2) ?_
      show Steps p.tables e below (T12.setTop (mkF m 123 #[.val (.int p1), .val (.int p2), .val (.int p3), .val (.int p4), .val (.int p5), .val (.int (2 : Int32)), .val (.int la), .val (.int lb), .val (.int lc), .val (.ref b6), .val (.ref b7), .val (.int (p5 ||| (-2147483648 : Int32))), .val (.int (1 : Int32))] [])) _
      refine XS.iload X12.here hx rfl (hb hby at_123) rfl ?_
      show Steps p.tables e below (T12.setTop (mkF m 125 #[.val (.int p1), .val (.int p2), .val (.int p3), .val (.int p4), .val (.int p5), .val (.int (2 : Int32)), .val (.int la), .val (.int lb), .val (.int lc), .val (.ref b6), .val (.ref b7), .val (.int (p5 ||| (-2147483648 : Int32))), .val (.int (1 : Int32))] [(.int (1 : Int32))])) _
      refine XS.ifNo X12.here hx rfl (hb hby at_125) rfl ((if0 _ _).trans (feq (by decide : ¬ ((1 : Int32) = (0 : Int32)))).1) ?_
      show Steps p.tables e below (T12.setTop (mkF m 128 #[.val (.int p1), .val (.int p2), .val (.int p3), .val (.int p4), .val (.int p5), .val (.int (2 : Int32)), .val (.int la), .val (.int lb), .val (.int lc), .val (.ref b6), .val (.ref b7), .val (.int (p5 ||| (-2147483648 : Int32))), .val (.int (1 : Int32))] [])) _
      refine XS.aload X12.here hx rfl (hb hby at_128) rfl rfl ?_
      show Steps p.tables e below (T12.setTop (mkF m 130 #[.val (.int p1), .val (.int p2), .val (.int p3), .val (.int p4), .val (.int p5), .val (.int (2 : Int32)), .val (.int la), .val (.int lb), .val (.int lc), .val (.ref b6), .val (.ref b7), .val (.int (p5 ||| (-2147483648 : Int32))), .val (.int (1 : Int32))] [(.ref b7)])) _
      refine XS.iconst X12.here hx rfl (hb hby at_130) ?_
      show Steps p.tables e below (T12.setTop (mkF m 131 #[.val (.int p1), .val (.int p2), .val (.int p3), .val (.int p4), .val (.int p5), .val (.int (2 : Int32)), .val (.int la), .val (.int lb), .val (.int lc), .val (.ref b6), .val (.ref b7), .val (.int (p5 ||| (-2147483648 : Int32))), .val (.int (1 : Int32))] [(.int (0 : Int32)), (.ref b7)])) _
      refine st13.trans ?_
      show Steps p.tables e below (T13.setTop (mkF m 134 #[.val (.int p1), .val (.int p2), .val (.int p3), .val (.int p4), .val (.int p5), .val (.int (2 : Int32)), .val (.int la), .val (.int lb), .val (.int lc), .val (.ref b6), .val (.ref b7), .val (.int (p5 ||| (-2147483648 : Int32))), .val (.int (1 : Int32))] [(.int la)])) _
      refine XS.iload X13.here hx rfl (hb hby at_134) rfl ?_
      show Steps p.tables e below (T13.setTop (mkF m 136 #[.val (.int p1), .val (.int p2), .val (.int p3), .val (.int p4), .val (.int p5), .val (.int (2 : Int32)), .val (.int la), .val (.int lb), .val (.int lc), .val (.ref b6), .val (.ref b7), .val (.int (p5 ||| (-2147483648 : Int32))), .val (.int (1 : Int32))] [(.int la), (.int la)])) _
      refine XS.icmpNo X13.here hx rfl (hb hby at_136) rfl (teq (rfl : la = la)).2 ?_
      show Steps p.tables e below (T13.setTop (mkF m 139 #[.val (.int p1), .val (.int p2), .val (.int p3), .val (.int p4), .val (.int p5), .val (.int (2 : Int32)), .val (.int la), .val (.int lb), .val (.int lc), .val (.ref b6), .val (.ref b7), .val (.int (p5 ||| (-2147483648 : Int32))), .val (.int (1 : Int32))] [])) _
      refine XS.iconst X13.here hx rfl (hb hby at_139) ?_
      show Steps p.tables e below (T13.setTop (mkF m 140 #[.val (.int p1), .val (.int p2), .val (.int p3), .val (.int p4), .val (.int p5), .val (.int (2 : Int32)), .val (.int la), .val (.int lb), .val (.int lc), .val (.ref b6), .val (.ref b7), .val (.int (p5 ||| (-2147483648 : Int32))), .val (.int (1 : Int32))] [(.int (1 : Int32))])) _
      refine XS.goto X13.here hx rfl (pc0 := 140) (pc' := 144) rfl (hb hby at_140) (by decide) (by decide) ?_
      show Steps p.tables e below (T13.setTop (mkF m 144 #[.val (.int p1), .val (.int p2), .val (.int p3), .val (.int p4), .val (.int p5), .val (.int (2 : Int32)), .val (.int la), .val (.int lb), .val (.int lc), .val (.ref b6), .val (.ref b7), .val (.int (p5 ||| (-2147483648 : Int32))), .val (.int (1 : Int32))] [(.int (1 : Int32))])) _
      refine XS.istore X13.here hx rfl (hb hby at_144) rfl (l' := #[.val (.int p1), .val (.int p2), .val (.int p3), .val (.int p4), .val (.int p5), .val (.int (2 : Int32)), .val (.int la), .val (.int lb), .val (.int lc), .val (.ref b6), .val (.ref b7), .val (.int (p5 ||| (-2147483648 : Int32))), .val (.int (1 : Int32))]) rfl ?_
      show Steps p.tables e below (T13.setTop (mkF m 146 #[.val (.int p1), .val (.int p2), .val (.int p3), .val (.int p4), .val (.int p5), .val (.int (2 : Int32)), .val (.int la), .val (.int lb), .val (.int lc), .val (.ref b6), .val (.ref b7), .val (.int (p5 ||| (-2147483648 : Int32))), .val (.int (1 : Int32))] [])) _
      refine XS.iload X13.here hx rfl (hb hby at_146) rfl ?_
      show Steps p.tables e below (T13.setTop (mkF m 148 #[.val (.int p1), .val (.int p2), .val (.int p3), .val (.int p4), .val (.int p5), .val (.int (2 : Int32)), .val (.int la), .val (.int lb), .val (.int lc), .val (.ref b6), .val (.ref b7), .val (.int (p5 ||| (-2147483648 : Int32))), .val (.int (1 : Int32))] [(.int (2 : Int32))])) _
      refine XS.iconst X13.here hx rfl (hb hby at_148) ?_
      show Steps p.tables e below (T13.setTop (mkF m 149 #[.val (.int p1), .val (.int p2), .val (.int p3), .val (.int p4), .val (.int p5), .val (.int (2 : Int32)), .val (.int la), .val (.int lb), .val (.int lc), .val (.ref b6), .val (.ref b7), .val (.int (p5 ||| (-2147483648 : Int32))), .val (.int (1 : Int32))] [(.int (1 : Int32)), (.int (2 : Int32))])) _
      refine XS.icmpNo X13.here hx rfl (hb hby at_149) rfl (tlt (by decide : (1 : Int32) < (2 : Int32))).2.2.2 ?_
      show Steps p.tables e below (T13.setTop (mkF m 152 #[.val (.int p1), .val (.int p2), .val (.int p3), .val (.int p4), .val (.int p5), .val (.int (2 : Int32)), .val (.int la), .val (.int lb), .val (.int lc), .val (.ref b6), .val (.ref b7), .val (.int (p5 ||| (-2147483648 : Int32))), .val (.int (1 : Int32))] [])) _
      refine XS.iload X13.here hx rfl (hb hby at_152) rfl ?_
      show Steps p.tables e below (T13.setTop (mkF m 154 #[.val (.int p1), .val (.int p2), .val (.int p3), .val (.int p4), .val (.int p5), .val (.int (2 : Int32)), .val (.int la), .val (.int lb), .val (.int lc), .val (.ref b6), .val (.ref b7), .val (.int (p5 ||| (-2147483648 : Int32))), .val (.int (1 : Int32))] [(.int (1 : Int32))])) _
      refine XS.ifNo X13.here hx rfl (hb hby at_154) rfl ((if0 _ _).trans (feq (by decide : ¬ ((1 : Int32) = (0 : Int32)))).1) ?_
      show Steps p.tables e below (T13.setTop (mkF m 157 #[.val (.int p1), .val (.int p2), .val (.int p3), .val (.int p4), .val (.int p5), .val (.int (2 : Int32)), .val (.int la), .val (.int lb), .val (.int lc), .val (.ref b6), .val (.ref b7), .val (.int (p5 ||| (-2147483648 : Int32))), .val (.int (1 : Int32))] [])) _
      refine XS.aload X13.here hx rfl (hb hby at_157) rfl rfl ?_
      show Steps p.tables e below (T13.setTop (mkF m 159 #[.val (.int p1), .val (.int p2), .val (.int p3), .val (.int p4), .val (.int p5), .val (.int (2 : Int32)), .val (.int la), .val (.int lb), .val (.int lc), .val (.ref b6), .val (.ref b7), .val (.int (p5 ||| (-2147483648 : Int32))), .val (.int (1 : Int32))] [(.ref b7)])) _
      refine XS.iconst X13.here hx rfl (hb hby at_159) ?_
      show Steps p.tables e below (T13.setTop (mkF m 160 #[.val (.int p1), .val (.int p2), .val (.int p3), .val (.int p4), .val (.int p5), .val (.int (2 : Int32)), .val (.int la), .val (.int lb), .val (.int lc), .val (.ref b6), .val (.ref b7), .val (.int (p5 ||| (-2147483648 : Int32))), .val (.int (1 : Int32))] [(.int (1 : Int32)), (.ref b7)])) _
      refine st14.trans ?_
      show Steps p.tables e below (T14.setTop (mkF m 163 #[.val (.int p1), .val (.int p2), .val (.int p3), .val (.int p4), .val (.int p5), .val (.int (2 : Int32)), .val (.int la), .val (.int lb), .val (.int lc), .val (.ref b6), .val (.ref b7), .val (.int (p5 ||| (-2147483648 : Int32))), .val (.int (1 : Int32))] [(.int (la + lb))])) _
      refine XS.iload X14.here hx rfl (hb hby at_163) rfl ?_
      show Steps p.tables e below (T14.setTop (mkF m 165 #[.val (.int p1), .val (.int p2), .val (.int p3), .val (.int p4), .val (.int p5), .val (.int (2 : Int32)), .val (.int la), .val (.int lb), .val (.int lc), .val (.ref b6), .val (.ref b7), .val (.int (p5 ||| (-2147483648 : Int32))), .val (.int (1 : Int32))] [(.int la), (.int (la + lb))])) _
      refine XS.iload X14.here hx rfl (hb hby at_165) rfl ?_
      show Steps p.tables e below (T14.setTop (mkF m 167 #[.val (.int p1), .val (.int p2), .val (.int p3), .val (.int p4), .val (.int p5), .val (.int (2 : Int32)), .val (.int la), .val (.int lb), .val (.int lc), .val (.ref b6), .val (.ref b7), .val (.int (p5 ||| (-2147483648 : Int32))), .val (.int (1 : Int32))] [(.int lb), (.int la), (.int (la + lb))])) _
      refine XS.iadd X14.here hx rfl (hb hby at_167) rfl ?_
      show Steps p.tables e below (T14.setTop (mkF m 168 #[.val (.int p1), .val (.int p2), .val (.int p3), .val (.int p4), .val (.int p5), .val (.int (2 : Int32)), .val (.int la), .val (.int lb), .val (.int lc), .val (.ref b6), .val (.ref b7), .val (.int (p5 ||| (-2147483648 : Int32))), .val (.int (1 : Int32))] [(.int (la + lb)), (.int (la + lb))])) _
      refine XS.icmpNo X14.here hx rfl (hb hby at_168) rfl (teq (rfl : (la + lb) = (la + lb))).2 ?_
      show Steps p.tables e below (T14.setTop (mkF m 171 #[.val (.int p1), .val (.int p2), .val (.int p3), .val (.int p4), .val (.int p5), .val (.int (2 : Int32)), .val (.int la), .val (.int lb), .val (.int lc), .val (.ref b6), .val (.ref b7), .val (.int (p5 ||| (-2147483648 : Int32))), .val (.int (1 : Int32))] [])) _
      refine XS.iconst X14.here hx rfl (hb hby at_171) ?_
      show Steps p.tables e below (T14.setTop (mkF m 172 #[.val (.int p1), .val (.int p2), .val (.int p3), .val (.int p4), .val (.int p5), .val (.int (2 : Int32)), .val (.int la), .val (.int lb), .val (.int lc), .val (.ref b6), .val (.ref b7), .val (.int (p5 ||| (-2147483648 : Int32))), .val (.int (1 : Int32))] [(.int (1 : Int32))])) _
      refine XS.goto X14.here hx rfl (pc0 := 172) (pc' := 176) rfl (hb hby at_172) (by decide) (by decide) ?_
      show Steps p.tables e below (T14.setTop (mkF m 176 #[.val (.int p1), .val (.int p2), .val (.int p3), .val (.int p4), .val (.int p5), .val (.int (2 : Int32)), .val (.int la), .val (.int lb), .val (.int lc), .val (.ref b6), .val (.ref b7), .val (.int (p5 ||| (-2147483648 : Int32))), .val (.int (1 : Int32))] [(.int (1 : Int32))])) _
      refine XS.istore X14.here hx rfl (hb hby at_176) rfl (l' := #[.val (.int p1), .val (.int p2), .val (.int p3), .val (.int p4), .val (.int p5), .val (.int (2 : Int32)), .val (.int la), .val (.int lb), .val (.int lc), .val (.ref b6), .val (.ref b7), .val (.int (p5 ||| (-2147483648 : Int32))), .val (.int (1 : Int32))]) rfl ?_
      show Steps p.tables e below (T14.setTop (mkF m 178 #[.val (.int p1), .val (.int p2), .val (.int p3), .val (.int p4), .val (.int p5), .val (.int (2 : Int32)), .val (.int la), .val (.int lb), .val (.int lc), .val (.ref b6), .val (.ref b7), .val (.int (p5 ||| (-2147483648 : Int32))), .val (.int (1 : Int32))] [])) _
      refine XS.iload X14.here hx rfl (hb hby at_178) rfl ?_
      show Steps p.tables e below (T14.setTop (mkF m 180 #[.val (.int p1), .val (.int p2), .val (.int p3), .val (.int p4), .val (.int p5), .val (.int (2 : Int32)), .val (.int la), .val (.int lb), .val (.int lc), .val (.ref b6), .val (.ref b7), .val (.int (p5 ||| (-2147483648 : Int32))), .val (.int (1 : Int32))] [(.int (2 : Int32))])) _
      refine XS.iconst X14.here hx rfl (hb hby at_180) ?_
      show Steps p.tables e below (T14.setTop (mkF m 181 #[.val (.int p1), .val (.int p2), .val (.int p3), .val (.int p4), .val (.int p5), .val (.int (2 : Int32)), .val (.int la), .val (.int lb), .val (.int lc), .val (.ref b6), .val (.ref b7), .val (.int (p5 ||| (-2147483648 : Int32))), .val (.int (1 : Int32))] [(.int (2 : Int32)), (.int (2 : Int32))])) _
      refine XS.icmpYes X14.here hx rfl (pc0 := 181) (pc' := 213) rfl (hb hby at_181) rfl (flt (by decide : ¬ ((2 : Int32) < (2 : Int32)))).2.2.2 (by decide) (by decide) ?_
      show Steps p.tables e below (T14.setTop (mkF m 213 #[.val (.int p1), .val (.int p2), .val (.int p3), .val (.int p4), .val (.int p5), .val (.int (2 : Int32)), .val (.int la), .val (.int lb), .val (.int lc), .val (.ref b6), .val (.ref b7), .val (.int (p5 ||| (-2147483648 : Int32))), .val (.int (1 : Int32))] [])) _
      refine XS.iload X14.here hx rfl (hb hby at_213) rfl ?_
      show Steps p.tables e below (T14.setTop (mkF m 215 #[.val (.int p1), .val (.int p2), .val (.int p3), .val (.int p4), .val (.int p5), .val (.int (2 : Int32)), .val (.int la), .val (.int lb), .val (.int lc), .val (.ref b6), .val (.ref b7), .val (.int (p5 ||| (-2147483648 : Int32))), .val (.int (1 : Int32))] [(.int (1 : Int32))])) _
      exact retN X14 hx (t := .boolean) Bd.returns (by simp) (hb hby at_215) hr
    · show Q0 Z p1 p2 p3 p4 p5 h0 n0 _ T14.heap _
      rw [e14]
      exact ⟨rfl, N14⟩
  · skip
    obtain ⟨T6, h6, k6, X6, e6, E6, A6, st6⟩ := newP X0 hx hZ (hw _ (List.mem_of_getElem? (i := 0) rfl)) e0 (g := (mkF m 25 #[.val (.int p1), .val (.int p2), .val (.int p3), .val (.int p4), .val (.int p5), .val (.int (3 : Int32)), .val (.int la), .val (.int lb), .val (.int lc), .unset, .unset, .unset, .unset] [(.int (16 : Int32))])) rfl (hb hby at_25) rfl (by decide) (cap := 16) (by decide) (by decide) (by decide) (by decide)
    obtain ⟨b6, g6⟩ : ∃ z, z = h0.size := ⟨_, rfl⟩
    rw [← g6] at A6 st6
    have V_b6 : Arv Z h6 b6 k6 .int (16 : Int32) [(.int (0 : Int32)), (.int (0 : Int32)), (.int (0 : Int32)), (.int (0 : Int32)), (.int (0 : Int32)), (.int (0 : Int32)), (.int (0 : Int32)), (.int (0 : Int32)), (.int (0 : Int32)), (.int (0 : Int32)), (.int (0 : Int32)), (.int (0 : Int32)), (.int (0 : Int32)), (.int (0 : Int32)), (.int (0 : Int32)), (.int (0 : Int32))] (.int (0 : Int32)) := (Arv.new A6 (by decide)).pad (pad_rep [] (.int (0 : Int32)) 16)
    have g_b6 : n0 ≤ b6 := Nat.le_trans Z0 (Nat.le_of_eq g6.symm)
    have sz_b6 : h0.size ≤ b6 := (Nat.le_trans (Keep.refl h0 []).1 (Nat.le_of_eq g6.symm))
    have K6 : Keep h0 h6 [] := (Keep.refl h0 []).ext E6
    obtain ⟨T7, h7, X7, e7, E7, A7, D7, -, st7⟩ := newO X6 hx hZ hown (hw _ (List.mem_of_getElem? (i := 1) rfl)) (hw _ (List.mem_of_getElem? (i := 2) rfl)) (hw _ (List.mem_of_getElem? (i := 3) rfl)) e6 (g := (mkF m 29 #[.val (.int p1), .val (.int p2), .val (.int p3), .val (.int p4), .val (.int p5), .val (.int (3 : Int32)), .val (.int la), .val (.int lb), .val (.int lc), .val (.ref b6), .unset, .unset, .unset] [])) rfl (hb hby at_29) (by decide) (by decide)
    obtain ⟨b7, g7⟩ : ∃ z, z = h6.size := ⟨_, rfl⟩
    rw [← g7] at A7 D7 st7
    have F_pages_b7 : Fld Z h7 b7 "com/example/surfwalk/surfwalk/Surfer$Paths" "pages" "[I" .null := D7 (Or.inl (hw _ (List.mem_of_getElem? (i := 11) rfl))) (ty := (.array .int)) (by decide)
    have F_ends_b7 : Fld Z h7 b7 "com/example/surfwalk/surfwalk/Surfer$Paths" "ends" "[I" .null := D7 (Or.inr (hw _ (List.mem_of_getElem? (i := 13) rfl))) (ty := (.array .int)) (by decide)
    have F_count_b7 : Fld Z h7 b7 "com/example/surfwalk/surfwalk/Surfer$Paths" "count" "I" (.int (0 : Int32)) := D7 (Or.inl (hw _ (List.mem_of_getElem? (i := 26) rfl))) (ty := .int) (by decide)
    have E_b7 := A7
    have g_b7 : n0 ≤ b7 := Nat.le_trans (Nat.le_trans Z0 E6.1) (Nat.le_of_eq g7.symm)
    have sz_b7 : h0.size ≤ b7 := (Nat.le_trans K6.1 (Nat.le_of_eq g7.symm))
    have K7 : Keep h0 h7 [] := K6.ext E7
    obtain ⟨_, _, ⟨T8, L8, k8, n8⟩, -, X8, ⟨Lc8, hQ8, l8, y8, z8⟩, st8⟩ := X7.specialBack hx (y := (⟨"com/example/surfwalk/surfwalk/Surfer$Paths", "<init>", "()V"⟩ : MethodName)) rfl hown (mvT hZ (hw _ (List.mem_of_getElem? (i := 4) rfl))) (mvT hZ (hw _ (List.mem_of_getElem? (i := 5) rfl))) (mvT hZ (hw _ (List.mem_of_getElem? (i := 6) rfl))) (by decide) (backOf (W := 1) (rm1 l Z a0 hw [] b7 .null .null h7 n0 (Nat.le_trans Z0 K7.1) E_b7 F_pages_b7 g_b7 F_ends_b7 F_count_b7) hZ (hw _ (List.mem_of_getElem? (i := 6) rfl)) (hw _ (List.mem_of_getElem? (i := 3) rfl)) (by decide) (by decide)) (g := (mkF m 33 #[.val (.int p1), .val (.int p2), .val (.int p3), .val (.int p4), .val (.int p5), .val (.int (3 : Int32)), .val (.int la), .val (.int lb), .val (.int lc), .val (.ref b6), .unset, .unset, .unset] [(.ref b7), (.ref b7)])) rfl (by rw [hml]; rfl) (Steps.refl _) (a := b7) (argsL := []) (rest := [(.ref b7)]) (lenOf pd_0_0 rfl) rfl (by show 2 * 0 + _ ≤ _; exact Nat.le_of_eq rfl) (hb hby at_33) (fun _ _ => ⟨rfl, e7, (by decide : 2 + 2 ≤ _), (by decide : 19 + 5120 ≤ _)⟩)
    dsimp only [Pt.U, Pt.locs, Pt.cells, Pt.slots] at X8 l8 y8 z8 st8 hQ8
    subst l8 y8 z8
    obtain ⟨rfl, N8q, Kc, Ex0, Fc0, bp, be, kp, ke, szp, sze, hpe, Fp0, Fe0, Vp0, Ve0⟩ := hQ8
    have gbp : n0 ≤ bp := Nat.le_trans (Nat.le_trans Z0 K7.1) szp
    have gbe : n0 ≤ be := Nat.le_trans (Nat.le_trans Z0 K7.1) sze
    have hbe : be ≠ bp := Ne.symm hpe
    have VsA : Arv Z h6 b6 k6 .int (16 : Int32) [] (.int (0 : Int32)) := (Arv.new A6 (by decide) : Arv Z h6 b6 k6 .int (16 : Int32) [] (.int (0 : Int32)))
    have VsB : Arv Z h7 b6 k6 .int (16 : Int32) [] (.int (0 : Int32)) := VsA.ext E7
    have hAp : b6 ≠ bp := Nat.ne_of_lt (Nat.lt_of_lt_of_le VsB.lt szp)
    have hAe : b6 ≠ be := Nat.ne_of_lt (Nat.lt_of_lt_of_le VsB.lt sze)
    have hAP : b6 ∉ [b7] := fun z => Nat.ne_of_lt (Nat.lt_of_lt_of_le VsA.lt (Nat.le_of_eq g7.symm)) (List.mem_singleton.mp z)
    have Vs0 : Arv Z T8.heap b6 k6 .int (16 : Int32) [] (.int (0 : Int32)) := VsB.keep Kc hAP
    have hv0 : (List.replicate 48 (.int (0 : Int32)) : List Value).length = 48 := by simp
    obtain ⟨vp0, evp0⟩ : ∃ z : List Value, z = List.replicate 48 (.int (0 : Int32)) := ⟨_, rfl⟩
    rw [← evp0] at Vp0 hv0
    have N8 := Fr.app N0 N8q
    obtain ⟨cq9, kq9, q9a, q9b, q9c⟩ := isOf hZ rfl Ex0
    obtain ⟨_, _, ⟨T9, L9, k9, n9⟩, -, X9, ⟨Lc9, hQ9, l9, y9, z9⟩, st9⟩ := X8.virtualBack hx (y := (⟨"com/example/surfwalk/surfwalk/Surfer$Paths", "addWalk", "([IILjava/util/SplittableRandom;)V"⟩ : MethodName)) (z := (⟨"com/example/surfwalk/surfwalk/Surfer$Paths", "addWalk", "([IILjava/util/SplittableRandom;)V"⟩ : MethodName)) hown (mvT hZ (hw _ (List.mem_of_getElem? (i := 20) rfl))) (mvT hZ (hw _ (List.mem_of_getElem? (i := 21) rfl))) (notFace_of_selects (args := #[]) (mvT hZ (hw _ (List.mem_of_getElem? (i := 23) rfl)))) (mvT hZ (hw _ (List.mem_of_getElem? (i := 23) rfl))) (mvT hZ (hw _ (List.mem_of_getElem? (i := 22) rfl))) (by decide) (backOf (W := 0) (rm4 l Z a0 hw [] b7 b6 la (0 : Int32) (0 : Int32) bp be kp ke k6 vp0 [(.int (0 : Int32)), (.int (0 : Int32)), (.int (0 : Int32))] T8.heap n0 (Nat.le_trans (Nat.le_trans Z0 K7.1) Kc.1) Fc0 Ex0 Fp0 Fe0 Vs0 Vp0 hv0 Ve0 (by decide) (Nat.le_of_ble_eq_true rfl) g_b7 gbp gbe hbe hAp hAe (by decide) (by decide) la0 (by omega) (rm3n l Z a0 hw [] b7 ((0 : Int32) - (1 : Int32)) T8.heap n0 (Nat.le_trans (Nat.le_trans Z0 K7.1) Kc.1) (by decide))) hZ (hw _ (List.mem_of_getElem? (i := 24) rfl)) (hw _ (List.mem_of_getElem? (i := 3) rfl)) (by decide) (by decide)) q9a q9c (g := (mkF m 50 #[.val (.int p1), .val (.int p2), .val (.int p3), .val (.int p4), .val (.int p5), .val (.int (3 : Int32)), .val (.int la), .val (.int lb), .val (.int lc), .val (.ref b6), .val (.ref b7), .unset, .unset] [.null, (.int la), (.ref b6), (.ref b7)])) rfl (by rw [hml]; rfl) (Steps.refl _) (argsL := [(.ref b6), (.int la), .null]) (rest := []) (lenOf pd_0_2 rfl) rfl (by show 2 * 0 + _ ≤ _; exact Nat.le_of_eq rfl) (hb hby at_50) (fun _ _ => ⟨rfl, rfl, (by decide : 4 + 0 ≤ _), (by decide : 5139 + 0 ≤ _)⟩)
    dsimp only [Pt.U, Pt.locs, Pt.cells, Pt.slots] at X9 l9 y9 z9 st9 hQ9
    subst l9 y9 z9
    obtain ⟨rfl, N9q, K9q, Ex1, Fp1, Fe1, Fc1r, ⟨vp1, hv1, Vp1⟩, Ve1r, Vs1⟩ := hQ9
    have Fc1 : Fld Z T9.heap b7 "com/example/surfwalk/surfwalk/Surfer$Paths" "count" "I" (.int (1 : Int32)) := Fc1r
    rw [Int32.zero_add] at Ve1r
    have Ve1 : Arv Z T9.heap be ke .int (1024 : Int32) [(.int la), (.int (0 : Int32)), (.int (0 : Int32))] (.int (0 : Int32)) := Ve1r
    have N9 := Fr.app N8 N9q
    obtain ⟨cq10, kq10, q10a, q10b, q10c⟩ := isOf hZ rfl Ex1
    obtain ⟨_, _, ⟨T10, L10, k10, n10⟩, -, X10, ⟨Lc10, hQ10, l10, y10, z10⟩, st10⟩ := X9.virtualBack hx (y := (⟨"com/example/surfwalk/surfwalk/Surfer$Paths", "addWalk", "([IILjava/util/SplittableRandom;)V"⟩ : MethodName)) (z := (⟨"com/example/surfwalk/surfwalk/Surfer$Paths", "addWalk", "([IILjava/util/SplittableRandom;)V"⟩ : MethodName)) hown (mvT hZ (hw _ (List.mem_of_getElem? (i := 20) rfl))) (mvT hZ (hw _ (List.mem_of_getElem? (i := 21) rfl))) (notFace_of_selects (args := #[]) (mvT hZ (hw _ (List.mem_of_getElem? (i := 23) rfl)))) (mvT hZ (hw _ (List.mem_of_getElem? (i := 23) rfl))) (mvT hZ (hw _ (List.mem_of_getElem? (i := 22) rfl))) (by decide) (backOf (W := 0) (rm4 l Z a0 hw [] b7 b6 lb (1 : Int32) la bp be kp ke k6 vp1 [(.int la), (.int (0 : Int32)), (.int (0 : Int32))] T9.heap n0 (Nat.le_trans (Nat.le_trans (Nat.le_trans Z0 K7.1) Kc.1) K9q.1) Fc1 Ex1 Fp1 Fe1 Vs1 Vp1 hv1 Ve1 (by decide) (Nat.le_of_ble_eq_true rfl) g_b7 gbp gbe hbe hAp hAe la0 (by omega) lb0 (by omega) (own_end l Z a0 hw b7 ((1 : Int32) - (1 : Int32)) la be T9.heap n0 (Nat.le_trans (Nat.le_trans (Nat.le_trans Z0 K7.1) Kc.1) K9q.1) Fe1 Ve1 (by decide) rfl)) hZ (hw _ (List.mem_of_getElem? (i := 24) rfl)) (hw _ (List.mem_of_getElem? (i := 3) rfl)) (by decide) (by decide)) q10a q10c (g := (mkF m 66 #[.val (.int p1), .val (.int p2), .val (.int p3), .val (.int p4), .val (.int p5), .val (.int (3 : Int32)), .val (.int la), .val (.int lb), .val (.int lc), .val (.ref b6), .val (.ref b7), .unset, .unset] [.null, (.int lb), (.ref b6), (.ref b7)])) rfl (by rw [hml]; rfl) (Steps.refl _) (argsL := [(.ref b6), (.int lb), .null]) (rest := []) (lenOf pd_0_2 rfl) rfl (by show 2 * 0 + _ ≤ _; exact Nat.le_of_eq rfl) (hb hby at_66) (fun _ _ => ⟨rfl, rfl, (by decide : 4 + 0 ≤ _), (by decide : 5139 + 0 ≤ _)⟩)
    dsimp only [Pt.U, Pt.locs, Pt.cells, Pt.slots] at X10 l10 y10 z10 st10 hQ10
    subst l10 y10 z10
    obtain ⟨rfl, N10q, K10q, Ex2, Fp2, Fe2, Fc2r, ⟨vp2, hv2, Vp2⟩, Ve2r, Vs2⟩ := hQ10
    have Fc2 : Fld Z T10.heap b7 "com/example/surfwalk/surfwalk/Surfer$Paths" "count" "I" (.int (2 : Int32)) := Fc2r
    have Ve2 : Arv Z T10.heap be ke .int (1024 : Int32) [(.int la), (.int (la + lb)), (.int (0 : Int32))] (.int (0 : Int32)) := Ve2r
    have N10 := Fr.app N9 N10q
    obtain ⟨cq11, kq11, q11a, q11b, q11c⟩ := isOf hZ rfl Ex2
    obtain ⟨_, _, ⟨T11, L11, k11, n11⟩, -, X11, ⟨Lc11, hQ11, l11, y11, z11⟩, st11⟩ := X10.virtualBack hx (y := (⟨"com/example/surfwalk/surfwalk/Surfer$Paths", "addWalk", "([IILjava/util/SplittableRandom;)V"⟩ : MethodName)) (z := (⟨"com/example/surfwalk/surfwalk/Surfer$Paths", "addWalk", "([IILjava/util/SplittableRandom;)V"⟩ : MethodName)) hown (mvT hZ (hw _ (List.mem_of_getElem? (i := 20) rfl))) (mvT hZ (hw _ (List.mem_of_getElem? (i := 21) rfl))) (notFace_of_selects (args := #[]) (mvT hZ (hw _ (List.mem_of_getElem? (i := 23) rfl)))) (mvT hZ (hw _ (List.mem_of_getElem? (i := 23) rfl))) (mvT hZ (hw _ (List.mem_of_getElem? (i := 22) rfl))) (by decide) (backOf (W := 0) (rm4 l Z a0 hw [] b7 b6 lc (2 : Int32) (la + lb) bp be kp ke k6 vp2 [(.int la), (.int (la + lb)), (.int (0 : Int32))] T10.heap n0 (Nat.le_trans (Nat.le_trans (Nat.le_trans (Nat.le_trans Z0 K7.1) Kc.1) K9q.1) K10q.1) Fc2 Ex2 Fp2 Fe2 Vs2 Vp2 hv2 Ve2 (by decide) (Nat.le_of_ble_eq_true rfl) g_b7 gbp gbe hbe hAp hAe s20 (by omega) lc0 (by omega) (own_end l Z a0 hw b7 ((2 : Int32) - (1 : Int32)) (la + lb) be T10.heap n0 (Nat.le_trans (Nat.le_trans (Nat.le_trans (Nat.le_trans Z0 K7.1) Kc.1) K9q.1) K10q.1) Fe2 Ve2 (by decide) rfl)) hZ (hw _ (List.mem_of_getElem? (i := 24) rfl)) (hw _ (List.mem_of_getElem? (i := 3) rfl)) (by decide) (by decide)) q11a q11c (g := (mkF m 82 #[.val (.int p1), .val (.int p2), .val (.int p3), .val (.int p4), .val (.int p5), .val (.int (3 : Int32)), .val (.int la), .val (.int lb), .val (.int lc), .val (.ref b6), .val (.ref b7), .unset, .unset] [.null, (.int lc), (.ref b6), (.ref b7)])) rfl (by rw [hml]; rfl) (Steps.refl _) (argsL := [(.ref b6), (.int lc), .null]) (rest := []) (lenOf pd_0_2 rfl) rfl (by show 2 * 0 + _ ≤ _; exact Nat.le_of_eq rfl) (hb hby at_82) (fun _ _ => ⟨rfl, rfl, (by decide : 4 + 0 ≤ _), (by decide : 5139 + 0 ≤ _)⟩)
    dsimp only [Pt.U, Pt.locs, Pt.cells, Pt.slots] at X11 l11 y11 z11 st11 hQ11
    subst l11 y11 z11
    obtain ⟨rfl, N11q, K11q, Ex3, Fp3, Fe3, Fc3r, ⟨vp3, hv3, Vp3⟩, Ve3r, Vs3⟩ := hQ11
    have Fc3 : Fld Z T11.heap b7 "com/example/surfwalk/surfwalk/Surfer$Paths" "count" "I" (.int (3 : Int32)) := Fc3r
    have Ve3 : Arv Z T11.heap be ke .int (1024 : Int32) [(.int la), (.int (la + lb)), (.int ((la + lb) + lc))] (.int (0 : Int32)) := Ve3r
    have N11 := Fr.app N10 N11q
    obtain ⟨cq12, kq12, q12a, q12b, q12c⟩ := isOf hZ rfl Ex3
    obtain ⟨_, _, ⟨T12, L12, k12, n12⟩, -, X12, ⟨Lc12, hQ12, l12, y12, z12⟩, st12⟩ := X11.virtualBack hx (y := (⟨"com/example/surfwalk/surfwalk/Surfer$Paths", "end", "(I)I"⟩ : MethodName)) (z := (⟨"com/example/surfwalk/surfwalk/Surfer$Paths", "end", "(I)I"⟩ : MethodName)) hown (mvT hZ (hw _ (List.mem_of_getElem? (i := 15) rfl))) (mvT hZ (hw _ (List.mem_of_getElem? (i := 16) rfl))) (notFace_of_selects (args := #[]) (mvT hZ (hw _ (List.mem_of_getElem? (i := 18) rfl)))) (mvT hZ (hw _ (List.mem_of_getElem? (i := 18) rfl))) (mvT hZ (hw _ (List.mem_of_getElem? (i := 17) rfl))) (by decide) (backOf (W := 0) (rm3n l Z a0 hw [] b7 (-1 : Int32) T11.heap n0 (Nat.le_trans (Nat.le_trans (Nat.le_trans (Nat.le_trans (Nat.le_trans Z0 K7.1) Kc.1) K9q.1) K10q.1) K11q.1) (by decide)) hZ (hw _ (List.mem_of_getElem? (i := 19) rfl)) (hw _ (List.mem_of_getElem? (i := 3) rfl)) (by decide) (by decide)) q12a q12c (g := (mkF m 95 #[.val (.int p1), .val (.int p2), .val (.int p3), .val (.int p4), .val (.int p5), .val (.int (3 : Int32)), .val (.int la), .val (.int lb), .val (.int lc), .val (.ref b6), .val (.ref b7), .val (.int (p5 ||| (-2147483648 : Int32))), .unset] [(.int (-1 : Int32)), (.ref b7)])) rfl (by rw [hml]; rfl) (Steps.refl _) (argsL := [(.int (-1 : Int32))]) (rest := []) (lenOf pd_0_1 rfl) rfl (by show 2 * 0 + _ ≤ _; exact Nat.le_of_eq rfl) (hb hby at_95) (fun _ _ => ⟨rfl, rfl, (by decide : 4 + 0 ≤ _), (by decide : 5139 + 0 ≤ _)⟩)
    dsimp only [Pt.U, Pt.locs, Pt.cells, Pt.slots] at X12 l12 y12 z12 st12 hQ12
    subst l12 y12 z12
    obtain ⟨rfl, N12q, e12⟩ := hQ12
    have N12 := Fr.app N11 N12q
    obtain ⟨cq13, kq13, q13a, q13b, q13c⟩ := isOf hZ e12 Ex3
    obtain ⟨_, _, ⟨T13, L13, k13, n13⟩, -, X13, ⟨Lc13, hQ13, l13, y13, z13⟩, st13⟩ := X12.virtualBack hx (y := (⟨"com/example/surfwalk/surfwalk/Surfer$Paths", "end", "(I)I"⟩ : MethodName)) (z := (⟨"com/example/surfwalk/surfwalk/Surfer$Paths", "end", "(I)I"⟩ : MethodName)) hown (mvT hZ (hw _ (List.mem_of_getElem? (i := 15) rfl))) (mvT hZ (hw _ (List.mem_of_getElem? (i := 16) rfl))) (notFace_of_selects (args := #[]) (mvT hZ (hw _ (List.mem_of_getElem? (i := 18) rfl)))) (mvT hZ (hw _ (List.mem_of_getElem? (i := 18) rfl))) (mvT hZ (hw _ (List.mem_of_getElem? (i := 17) rfl))) (by decide) (backOf (W := 0) (rm3n l Z a0 hw [] b7 (p5 ||| (-2147483648 : Int32)) T11.heap n0 (Nat.le_trans (Nat.le_trans (Nat.le_trans (Nat.le_trans (Nat.le_trans Z0 K7.1) Kc.1) K9q.1) K10q.1) K11q.1) (own_neg p5)) hZ (hw _ (List.mem_of_getElem? (i := 19) rfl)) (hw _ (List.mem_of_getElem? (i := 3) rfl)) (by decide) (by decide)) q13a q13c (g := (mkF m 105 #[.val (.int p1), .val (.int p2), .val (.int p3), .val (.int p4), .val (.int p5), .val (.int (3 : Int32)), .val (.int la), .val (.int lb), .val (.int lc), .val (.ref b6), .val (.ref b7), .val (.int (p5 ||| (-2147483648 : Int32))), .unset] [(.int (p5 ||| (-2147483648 : Int32))), (.ref b7)])) rfl (by rw [hml]; rfl) (Steps.refl _) (argsL := [(.int (p5 ||| (-2147483648 : Int32)))]) (rest := []) (lenOf pd_0_1 rfl) rfl (by show 2 * 0 + _ ≤ _; exact Nat.le_of_eq rfl) (hb hby at_105) (fun _ _ => ⟨rfl, e12, (by decide : 4 + 0 ≤ _), (by decide : 5139 + 0 ≤ _)⟩)
    dsimp only [Pt.U, Pt.locs, Pt.cells, Pt.slots] at X13 l13 y13 z13 st13 hQ13
    subst l13 y13 z13
    obtain ⟨rfl, N13q, e13⟩ := hQ13
    have N13 := Fr.app N12 N13q
    obtain ⟨cq14, kq14, q14a, q14b, q14c⟩ := isOf hZ e13 Ex3
    obtain ⟨_, _, ⟨T14, L14, k14, n14⟩, -, X14, ⟨Lc14, hQ14, l14, y14, z14⟩, st14⟩ := X13.virtualBack hx (y := (⟨"com/example/surfwalk/surfwalk/Surfer$Paths", "end", "(I)I"⟩ : MethodName)) (z := (⟨"com/example/surfwalk/surfwalk/Surfer$Paths", "end", "(I)I"⟩ : MethodName)) hown (mvT hZ (hw _ (List.mem_of_getElem? (i := 15) rfl))) (mvT hZ (hw _ (List.mem_of_getElem? (i := 16) rfl))) (notFace_of_selects (args := #[]) (mvT hZ (hw _ (List.mem_of_getElem? (i := 18) rfl)))) (mvT hZ (hw _ (List.mem_of_getElem? (i := 18) rfl))) (mvT hZ (hw _ (List.mem_of_getElem? (i := 17) rfl))) (by decide) (backOf (W := 0) (own_end l Z a0 hw b7 (0 : Int32) la be T11.heap n0 (Nat.le_trans (Nat.le_trans (Nat.le_trans (Nat.le_trans (Nat.le_trans Z0 K7.1) Kc.1) K9q.1) K10q.1) K11q.1) Fe3 Ve3 (by decide) rfl) hZ (hw _ (List.mem_of_getElem? (i := 19) rfl)) (hw _ (List.mem_of_getElem? (i := 3) rfl)) (by decide) (by decide)) q14a q14c (g := (mkF m 131 #[.val (.int p1), .val (.int p2), .val (.int p3), .val (.int p4), .val (.int p5), .val (.int (3 : Int32)), .val (.int la), .val (.int lb), .val (.int lc), .val (.ref b6), .val (.ref b7), .val (.int (p5 ||| (-2147483648 : Int32))), .val (.int (1 : Int32))] [(.int (0 : Int32)), (.ref b7)])) rfl (by rw [hml]; rfl) (Steps.refl _) (argsL := [(.int (0 : Int32))]) (rest := []) (lenOf pd_0_1 rfl) rfl (by show 2 * 0 + _ ≤ _; exact Nat.le_of_eq rfl) (hb hby at_131) (fun _ _ => ⟨rfl, e13, (by decide : 4 + 0 ≤ _), (by decide : 5139 + 0 ≤ _)⟩)
    dsimp only [Pt.U, Pt.locs, Pt.cells, Pt.slots] at X14 l14 y14 z14 st14 hQ14
    subst l14 y14 z14
    obtain ⟨rfl, N14q, e14⟩ := hQ14
    have N14 := Fr.app N13 N14q
    obtain ⟨cq15, kq15, q15a, q15b, q15c⟩ := isOf hZ e14 Ex3
    obtain ⟨_, _, ⟨T15, L15, k15, n15⟩, -, X15, ⟨Lc15, hQ15, l15, y15, z15⟩, st15⟩ := X14.virtualBack hx (y := (⟨"com/example/surfwalk/surfwalk/Surfer$Paths", "end", "(I)I"⟩ : MethodName)) (z := (⟨"com/example/surfwalk/surfwalk/Surfer$Paths", "end", "(I)I"⟩ : MethodName)) hown (mvT hZ (hw _ (List.mem_of_getElem? (i := 15) rfl))) (mvT hZ (hw _ (List.mem_of_getElem? (i := 16) rfl))) (notFace_of_selects (args := #[]) (mvT hZ (hw _ (List.mem_of_getElem? (i := 18) rfl)))) (mvT hZ (hw _ (List.mem_of_getElem? (i := 18) rfl))) (mvT hZ (hw _ (List.mem_of_getElem? (i := 17) rfl))) (by decide) (backOf (W := 0) (own_end l Z a0 hw b7 (1 : Int32) (la + lb) be T11.heap n0 (Nat.le_trans (Nat.le_trans (Nat.le_trans (Nat.le_trans (Nat.le_trans Z0 K7.1) Kc.1) K9q.1) K10q.1) K11q.1) Fe3 Ve3 (by decide) rfl) hZ (hw _ (List.mem_of_getElem? (i := 19) rfl)) (hw _ (List.mem_of_getElem? (i := 3) rfl)) (by decide) (by decide)) q15a q15c (g := (mkF m 160 #[.val (.int p1), .val (.int p2), .val (.int p3), .val (.int p4), .val (.int p5), .val (.int (3 : Int32)), .val (.int la), .val (.int lb), .val (.int lc), .val (.ref b6), .val (.ref b7), .val (.int (p5 ||| (-2147483648 : Int32))), .val (.int (1 : Int32))] [(.int (1 : Int32)), (.ref b7)])) rfl (by rw [hml]; rfl) (Steps.refl _) (argsL := [(.int (1 : Int32))]) (rest := []) (lenOf pd_0_1 rfl) rfl (by show 2 * 0 + _ ≤ _; exact Nat.le_of_eq rfl) (hb hby at_160) (fun _ _ => ⟨rfl, e14, (by decide : 4 + 0 ≤ _), (by decide : 5139 + 0 ≤ _)⟩)
    dsimp only [Pt.U, Pt.locs, Pt.cells, Pt.slots] at X15 l15 y15 z15 st15 hQ15
    subst l15 y15 z15
    obtain ⟨rfl, N15q, e15⟩ := hQ15
    have N15 := Fr.app N14 N15q
    obtain ⟨cq16, kq16, q16a, q16b, q16c⟩ := isOf hZ e15 Ex3
    obtain ⟨_, _, ⟨T16, L16, k16, n16⟩, -, X16, ⟨Lc16, hQ16, l16, y16, z16⟩, st16⟩ := X15.virtualBack hx (y := (⟨"com/example/surfwalk/surfwalk/Surfer$Paths", "end", "(I)I"⟩ : MethodName)) (z := (⟨"com/example/surfwalk/surfwalk/Surfer$Paths", "end", "(I)I"⟩ : MethodName)) hown (mvT hZ (hw _ (List.mem_of_getElem? (i := 15) rfl))) (mvT hZ (hw _ (List.mem_of_getElem? (i := 16) rfl))) (notFace_of_selects (args := #[]) (mvT hZ (hw _ (List.mem_of_getElem? (i := 18) rfl)))) (mvT hZ (hw _ (List.mem_of_getElem? (i := 18) rfl))) (mvT hZ (hw _ (List.mem_of_getElem? (i := 17) rfl))) (by decide) (backOf (W := 0) (own_end l Z a0 hw b7 (2 : Int32) ((la + lb) + lc) be T11.heap n0 (Nat.le_trans (Nat.le_trans (Nat.le_trans (Nat.le_trans (Nat.le_trans Z0 K7.1) Kc.1) K9q.1) K10q.1) K11q.1) Fe3 Ve3 (by decide) rfl) hZ (hw _ (List.mem_of_getElem? (i := 19) rfl)) (hw _ (List.mem_of_getElem? (i := 3) rfl)) (by decide) (by decide)) q16a q16c (g := (mkF m 192 #[.val (.int p1), .val (.int p2), .val (.int p3), .val (.int p4), .val (.int p5), .val (.int (3 : Int32)), .val (.int la), .val (.int lb), .val (.int lc), .val (.ref b6), .val (.ref b7), .val (.int (p5 ||| (-2147483648 : Int32))), .val (.int (1 : Int32))] [(.int (2 : Int32)), (.ref b7)])) rfl (by rw [hml]; rfl) (Steps.refl _) (argsL := [(.int (2 : Int32))]) (rest := []) (lenOf pd_0_1 rfl) rfl (by show 2 * 0 + _ ≤ _; exact Nat.le_of_eq rfl) (hb hby at_192) (fun _ _ => ⟨rfl, e15, (by decide : 4 + 0 ≤ _), (by decide : 5139 + 0 ≤ _)⟩)
    dsimp only [Pt.U, Pt.locs, Pt.cells, Pt.slots] at X16 l16 y16 z16 st16 hQ16
    subst l16 y16 z16
    obtain ⟨rfl, N16q, e16⟩ := hQ16
    have N16 := Fr.app N15 N16q
    obtain ⟨fs, hr, hrun, hended, hW, hsame⟩ := X16.leave (v := some (.int (1 : Int32))) (fun h => by rw [Bd.returns] at h; cases h)
    refine ⟨_, _, pre0 _ (pre1 _ ?_), hrun, hended, _, _, rfl, ?_, ⟨_, rfl⟩, hW, hsame.mono (by decide) (by decide)⟩
    · show Steps p.tables e below (s₁.setTop (mkF m 23 #[.val (.int p1), .val (.int p2), .val (.int p3), .val (.int p4), .val (.int p5), .val (.int (3 : Int32)), .val (.int la), .val (.int lb), .val (.int lc), .unset, .unset, .unset, .unset] [])) _
      refine XS.bipush X0.here hx rfl (hb hby at_23) ?_
      show Steps p.tables e below (s₁.setTop (mkF m 25 #[.val (.int p1), .val (.int p2), .val (.int p3), .val (.int p4), .val (.int p5), .val (.int (3 : Int32)), .val (.int la), .val (.int lb), .val (.int lc), .unset, .unset, .unset, .unset] [(.int (16 : Int32))])) _
      refine st6 _ ?_
      show Steps p.tables e below (T6.setTop (mkF m 27 #[.val (.int p1), .val (.int p2), .val (.int p3), .val (.int p4), .val (.int p5), .val (.int (3 : Int32)), .val (.int la), .val (.int lb), .val (.int lc), .unset, .unset, .unset, .unset] [(.ref b6)])) _
      refine XS.astore X6.here hx rfl (hb hby at_27) rfl rfl (l' := #[.val (.int p1), .val (.int p2), .val (.int p3), .val (.int p4), .val (.int p5), .val (.int (3 : Int32)), .val (.int la), .val (.int lb), .val (.int lc), .val (.ref b6), .unset, .unset, .unset]) rfl ?_
      show Steps p.tables e below (T6.setTop (mkF m 29 #[.val (.int p1), .val (.int p2), .val (.int p3), .val (.int p4), .val (.int p5), .val (.int (3 : Int32)), .val (.int la), .val (.int lb), .val (.int lc), .val (.ref b6), .unset, .unset, .unset] [])) _
      refine st7 _ ?_
      show Steps p.tables e below (T7.setTop (mkF m 32 #[.val (.int p1), .val (.int p2), .val (.int p3), .val (.int p4), .val (.int p5), .val (.int (3 : Int32)), .val (.int la), .val (.int lb), .val (.int lc), .val (.ref b6), .unset, .unset, .unset] [(.ref b7)])) _
      refine XS.dup X7.here hx rfl (hb hby at_32) rfl rfl ?_
      show Steps p.tables e below (T7.setTop (mkF m 33 #[.val (.int p1), .val (.int p2), .val (.int p3), .val (.int p4), .val (.int p5), .val (.int (3 : Int32)), .val (.int la), .val (.int lb), .val (.int lc), .val (.ref b6), .unset, .unset, .unset] [(.ref b7), (.ref b7)])) _
      refine st8.trans ?_
      show Steps p.tables e below (T8.setTop (mkF m 36 #[.val (.int p1), .val (.int p2), .val (.int p3), .val (.int p4), .val (.int p5), .val (.int (3 : Int32)), .val (.int la), .val (.int lb), .val (.int lc), .val (.ref b6), .unset, .unset, .unset] [(.ref b7)])) _
      refine XS.astore X8.here hx rfl (hb hby at_36) rfl rfl (l' := #[.val (.int p1), .val (.int p2), .val (.int p3), .val (.int p4), .val (.int p5), .val (.int (3 : Int32)), .val (.int la), .val (.int lb), .val (.int lc), .val (.ref b6), .val (.ref b7), .unset, .unset]) rfl ?_
      show Steps p.tables e below (T8.setTop (mkF m 38 #[.val (.int p1), .val (.int p2), .val (.int p3), .val (.int p4), .val (.int p5), .val (.int (3 : Int32)), .val (.int la), .val (.int lb), .val (.int lc), .val (.ref b6), .val (.ref b7), .unset, .unset] [])) _
      refine XS.iload X8.here hx rfl (hb hby at_38) rfl ?_
      show Steps p.tables e below (T8.setTop (mkF m 40 #[.val (.int p1), .val (.int p2), .val (.int p3), .val (.int p4), .val (.int p5), .val (.int (3 : Int32)), .val (.int la), .val (.int lb), .val (.int lc), .val (.ref b6), .val (.ref b7), .unset, .unset] [(.int (3 : Int32))])) _
      refine XS.ifNo X8.here hx rfl (hb hby at_40) rfl ((if0 _ _).trans (tlt (by decide : (0 : Int32) < (3 : Int32))).2.2.2) ?_
      show Steps p.tables e below (T8.setTop (mkF m 43 #[.val (.int p1), .val (.int p2), .val (.int p3), .val (.int p4), .val (.int p5), .val (.int (3 : Int32)), .val (.int la), .val (.int lb), .val (.int lc), .val (.ref b6), .val (.ref b7), .unset, .unset] [])) _
      refine XS.aload X8.here hx rfl (hb hby at_43) rfl rfl ?_
      show Steps p.tables e below (T8.setTop (mkF m 45 #[.val (.int p1), .val (.int p2), .val (.int p3), .val (.int p4), .val (.int p5), .val (.int (3 : Int32)), .val (.int la), .val (.int lb), .val (.int lc), .val (.ref b6), .val (.ref b7), .unset, .unset] [(.ref b7)])) _
      refine XS.aload X8.here hx rfl (hb hby at_45) rfl rfl ?_
      show Steps p.tables e below (T8.setTop (mkF m 47 #[.val (.int p1), .val (.int p2), .val (.int p3), .val (.int p4), .val (.int p5), .val (.int (3 : Int32)), .val (.int la), .val (.int lb), .val (.int lc), .val (.ref b6), .val (.ref b7), .unset, .unset] [(.ref b6), (.ref b7)])) _
      refine XS.iload X8.here hx rfl (hb hby at_47) rfl ?_
      show Steps p.tables e below (T8.setTop (mkF m 49 #[.val (.int p1), .val (.int p2), .val (.int p3), .val (.int p4), .val (.int p5), .val (.int (3 : Int32)), .val (.int la), .val (.int lb), .val (.int lc), .val (.ref b6), .val (.ref b7), .unset, .unset] [(.int la), (.ref b6), (.ref b7)])) _
      refine XS.aconstNull X8.here hx rfl (hb hby at_49) ?_
      show Steps p.tables e below (T8.setTop (mkF m 50 #[.val (.int p1), .val (.int p2), .val (.int p3), .val (.int p4), .val (.int p5), .val (.int (3 : Int32)), .val (.int la), .val (.int lb), .val (.int lc), .val (.ref b6), .val (.ref b7), .unset, .unset] [.null, (.int la), (.ref b6), (.ref b7)])) _
      refine st9.trans ?_
      show Steps p.tables e below (T9.setTop (mkF m 53 #[.val (.int p1), .val (.int p2), .val (.int p3), .val (.int p4), .val (.int p5), .val (.int (3 : Int32)), .val (.int la), .val (.int lb), .val (.int lc), .val (.ref b6), .val (.ref b7), .unset, .unset] [])) _
      refine XS.iload X9.here hx rfl (hb hby at_53) rfl ?_
      show Steps p.tables e below (T9.setTop (mkF m 55 #[.val (.int p1), .val (.int p2), .val (.int p3), .val (.int p4), .val (.int p5), .val (.int (3 : Int32)), .val (.int la), .val (.int lb), .val (.int lc), .val (.ref b6), .val (.ref b7), .unset, .unset] [(.int (3 : Int32))])) _
      refine XS.iconst X9.here hx rfl (hb hby at_55) ?_
      show Steps p.tables e below (T9.setTop (mkF m 56 #[.val (.int p1), .val (.int p2), .val (.int p3), .val (.int p4), .val (.int p5), .val (.int (3 : Int32)), .val (.int la), .val (.int lb), .val (.int lc), .val (.ref b6), .val (.ref b7), .unset, .unset] [(.int (1 : Int32)), (.int (3 : Int32))])) _
      refine XS.icmpNo X9.here hx rfl (hb hby at_56) rfl (tlt (by decide : (1 : Int32) < (3 : Int32))).2.2.2 ?_
      show Steps p.tables e below (T9.setTop (mkF m 59 #[.val (.int p1), .val (.int p2), .val (.int p3), .val (.int p4), .val (.int p5), .val (.int (3 : Int32)), .val (.int la), .val (.int lb), .val (.int lc), .val (.ref b6), .val (.ref b7), .unset, .unset] [])) _
      refine XS.aload X9.here hx rfl (hb hby at_59) rfl rfl ?_
      show Steps p.tables e below (T9.setTop (mkF m 61 #[.val (.int p1), .val (.int p2), .val (.int p3), .val (.int p4), .val (.int p5), .val (.int (3 : Int32)), .val (.int la), .val (.int lb), .val (.int lc), .val (.ref b6), .val (.ref b7), .unset, .unset] [(.ref b7)])) _
      refine XS.aload X9.here hx rfl (hb hby at_61) rfl rfl ?_
      show Steps p.tables e below (T9.setTop (mkF m 63 #[.val (.int p1), .val (.int p2), .val (.int p3), .val (.int p4), .val (.int p5), .val (.int (3 : Int32)), .val (.int la), .val (.int lb), .val (.int lc), .val (.ref b6), .val (.ref b7), .unset, .unset] [(.ref b6), (.ref b7)])) _
      refine XS.iload X9.here hx rfl (hb hby at_63) rfl ?_
      show Steps p.tables e below (T9.setTop (mkF m 65 #[.val (.int p1), .val (.int p2), .val (.int p3), .val (.int p4), .val (.int p5), .val (.int (3 : Int32)), .val (.int la), .val (.int lb), .val (.int lc), .val (.ref b6), .val (.ref b7), .unset, .unset] [(.int lb), (.ref b6), (.ref b7)])) _
      refine XS.aconstNull X9.here hx rfl (hb hby at_65) ?_
      show Steps p.tables e below (T9.setTop (mkF m 66 #[.val (.int p1), .val (.int p2), .val (.int p3), .val (.int p4), .val (.int p5), .val (.int (3 : Int32)), .val (.int la), .val (.int lb), .val (.int lc), .val (.ref b6), .val (.ref b7), .unset, .unset] [.null, (.int lb), (.ref b6), (.ref b7)])) _
      refine st10.trans ?_
      show Steps p.tables e below (T10.setTop (mkF m 69 #[.val (.int p1), .val (.int p2), .val (.int p3), .val (.int p4), .val (.int p5), .val (.int (3 : Int32)), .val (.int la), .val (.int lb), .val (.int lc), .val (.ref b6), .val (.ref b7), .unset, .unset] [])) _
      refine XS.iload X10.here hx rfl (hb hby at_69) rfl ?_
      show Steps p.tables e below (T10.setTop (mkF m 71 #[.val (.int p1), .val (.int p2), .val (.int p3), .val (.int p4), .val (.int p5), .val (.int (3 : Int32)), .val (.int la), .val (.int lb), .val (.int lc), .val (.ref b6), .val (.ref b7), .unset, .unset] [(.int (3 : Int32))])) _
      refine XS.iconst X10.here hx rfl (hb hby at_71) ?_
      show Steps p.tables e below (T10.setTop (mkF m 72 #[.val (.int p1), .val (.int p2), .val (.int p3), .val (.int p4), .val (.int p5), .val (.int (3 : Int32)), .val (.int la), .val (.int lb), .val (.int lc), .val (.ref b6), .val (.ref b7), .unset, .unset] [(.int (2 : Int32)), (.int (3 : Int32))])) _
      refine XS.icmpNo X10.here hx rfl (hb hby at_72) rfl (tlt (by decide : (2 : Int32) < (3 : Int32))).2.2.2 ?_
      show Steps p.tables e below (T10.setTop (mkF m 75 #[.val (.int p1), .val (.int p2), .val (.int p3), .val (.int p4), .val (.int p5), .val (.int (3 : Int32)), .val (.int la), .val (.int lb), .val (.int lc), .val (.ref b6), .val (.ref b7), .unset, .unset] [])) _
      refine XS.aload X10.here hx rfl (hb hby at_75) rfl rfl ?_
      show Steps p.tables e below (T10.setTop (mkF m 77 #[.val (.int p1), .val (.int p2), .val (.int p3), .val (.int p4), .val (.int p5), .val (.int (3 : Int32)), .val (.int la), .val (.int lb), .val (.int lc), .val (.ref b6), .val (.ref b7), .unset, .unset] [(.ref b7)])) _
      refine XS.aload X10.here hx rfl (hb hby at_77) rfl rfl ?_
      show Steps p.tables e below (T10.setTop (mkF m 79 #[.val (.int p1), .val (.int p2), .val (.int p3), .val (.int p4), .val (.int p5), .val (.int (3 : Int32)), .val (.int la), .val (.int lb), .val (.int lc), .val (.ref b6), .val (.ref b7), .unset, .unset] [(.ref b6), (.ref b7)])) _
      refine XS.iload X10.here hx rfl (hb hby at_79) rfl ?_
      show Steps p.tables e below (T10.setTop (mkF m 81 #[.val (.int p1), .val (.int p2), .val (.int p3), .val (.int p4), .val (.int p5), .val (.int (3 : Int32)), .val (.int la), .val (.int lb), .val (.int lc), .val (.ref b6), .val (.ref b7), .unset, .unset] [(.int lc), (.ref b6), (.ref b7)])) _
      refine XS.aconstNull X10.here hx rfl (hb hby at_81) ?_
      show Steps p.tables e below (T10.setTop (mkF m 82 #[.val (.int p1), .val (.int p2), .val (.int p3), .val (.int p4), .val (.int p5), .val (.int (3 : Int32)), .val (.int la), .val (.int lb), .val (.int lc), .val (.ref b6), .val (.ref b7), .unset, .unset] [.null, (.int lc), (.ref b6), (.ref b7)])) _
      refine st11.trans ?_
      show Steps p.tables e below (T11.setTop (mkF m 85 #[.val (.int p1), .val (.int p2), .val (.int p3), .val (.int p4), .val (.int p5), .val (.int (3 : Int32)), .val (.int la), .val (.int lb), .val (.int lc), .val (.ref b6), .val (.ref b7), .unset, .unset] [])) _
      refine XS.iload X11.here hx rfl (hb hby at_85) rfl ?_
      show Steps p.tables e below (T11.setTop (mkF m 87 #[.val (.int p1), .val (.int p2), .val (.int p3), .val (.int p4), .val (.int p5), .val (.int (3 : Int32)), .val (.int la), .val (.int lb), .val (.int lc), .val (.ref b6), .val (.ref b7), .unset, .unset] [(.int p5)])) _
      refine X11.ldcInt hx hown (mvT hZ (hw _ (List.mem_of_getElem? (i := 14) rfl))) (g := (mkF m 87 #[.val (.int p1), .val (.int p2), .val (.int p3), .val (.int p4), .val (.int p5), .val (.int (3 : Int32)), .val (.int la), .val (.int lb), .val (.int lc), .val (.ref b6), .val (.ref b7), .unset, .unset] [(.int p5)])) rfl (hb hby at_87) _ ?_
      show Steps p.tables e below (T11.setTop (mkF m 89 #[.val (.int p1), .val (.int p2), .val (.int p3), .val (.int p4), .val (.int p5), .val (.int (3 : Int32)), .val (.int la), .val (.int lb), .val (.int lc), .val (.ref b6), .val (.ref b7), .unset, .unset] [(.int (-2147483648 : Int32)), (.int p5)])) _
      refine XS.ior X11.here hx rfl (hb hby at_89) rfl ?_
      show Steps p.tables e below (T11.setTop (mkF m 90 #[.val (.int p1), .val (.int p2), .val (.int p3), .val (.int p4), .val (.int p5), .val (.int (3 : Int32)), .val (.int la), .val (.int lb), .val (.int lc), .val (.ref b6), .val (.ref b7), .unset, .unset] [(.int (p5 ||| (-2147483648 : Int32)))])) _
      refine XS.istore X11.here hx rfl (hb hby at_90) rfl (l' := #[.val (.int p1), .val (.int p2), .val (.int p3), .val (.int p4), .val (.int p5), .val (.int (3 : Int32)), .val (.int la), .val (.int lb), .val (.int lc), .val (.ref b6), .val (.ref b7), .val (.int (p5 ||| (-2147483648 : Int32))), .unset]) rfl ?_
      show Steps p.tables e below (T11.setTop (mkF m 92 #[.val (.int p1), .val (.int p2), .val (.int p3), .val (.int p4), .val (.int p5), .val (.int (3 : Int32)), .val (.int la), .val (.int lb), .val (.int lc), .val (.ref b6), .val (.ref b7), .val (.int (p5 ||| (-2147483648 : Int32))), .unset] [])) _
      refine XS.aload X11.here hx rfl (hb hby at_92) rfl rfl ?_
      show Steps p.tables e below (T11.setTop (mkF m 94 #[.val (.int p1), .val (.int p2), .val (.int p3), .val (.int p4), .val (.int p5), .val (.int (3 : Int32)), .val (.int la), .val (.int lb), .val (.int lc), .val (.ref b6), .val (.ref b7), .val (.int (p5 ||| (-2147483648 : Int32))), .unset] [(.ref b7)])) _
      refine XS.iconst X11.here hx rfl (hb hby at_94) ?_
      show Steps p.tables e below (T11.setTop (mkF m 95 #[.val (.int p1), .val (.int p2), .val (.int p3), .val (.int p4), .val (.int p5), .val (.int (3 : Int32)), .val (.int la), .val (.int lb), .val (.int lc), .val (.ref b6), .val (.ref b7), .val (.int (p5 ||| (-2147483648 : Int32))), .unset] [(.int (-1 : Int32)), (.ref b7)])) _
      refine st12.trans ?_
      show Steps p.tables e below (T12.setTop (mkF m 98 #[.val (.int p1), .val (.int p2), .val (.int p3), .val (.int p4), .val (.int p5), .val (.int (3 : Int32)), .val (.int la), .val (.int lb), .val (.int lc), .val (.ref b6), .val (.ref b7), .val (.int (p5 ||| (-2147483648 : Int32))), .unset] [(.int (0 : Int32))])) _
      refine XS.ifNo X12.here hx rfl (hb hby at_98) rfl ((if0 _ _).trans (teq (rfl : (0 : Int32) = (0 : Int32))).2) ?_
      show Steps p.tables e below (T12.setTop (mkF m 101 #[.val (.int p1), .val (.int p2), .val (.int p3), .val (.int p4), .val (.int p5), .val (.int (3 : Int32)), .val (.int la), .val (.int lb), .val (.int lc), .val (.ref b6), .val (.ref b7), .val (.int (p5 ||| (-2147483648 : Int32))), .unset] [])) _
      refine XS.aload X12.here hx rfl (hb hby at_101) rfl rfl ?_
      show Steps p.tables e below (T12.setTop (mkF m 103 #[.val (.int p1), .val (.int p2), .val (.int p3), .val (.int p4), .val (.int p5), .val (.int (3 : Int32)), .val (.int la), .val (.int lb), .val (.int lc), .val (.ref b6), .val (.ref b7), .val (.int (p5 ||| (-2147483648 : Int32))), .unset] [(.ref b7)])) _
      refine XS.iload X12.here hx rfl (hb hby at_103) rfl ?_
      show Steps p.tables e below (T12.setTop (mkF m 105 #[.val (.int p1), .val (.int p2), .val (.int p3), .val (.int p4), .val (.int p5), .val (.int (3 : Int32)), .val (.int la), .val (.int lb), .val (.int lc), .val (.ref b6), .val (.ref b7), .val (.int (p5 ||| (-2147483648 : Int32))), .unset] [(.int (p5 ||| (-2147483648 : Int32))), (.ref b7)])) _
      refine st13.trans ?_
      show Steps p.tables e below (T13.setTop (mkF m 108 #[.val (.int p1), .val (.int p2), .val (.int p3), .val (.int p4), .val (.int p5), .val (.int (3 : Int32)), .val (.int la), .val (.int lb), .val (.int lc), .val (.ref b6), .val (.ref b7), .val (.int (p5 ||| (-2147483648 : Int32))), .unset] [(.int (0 : Int32))])) _
      refine XS.ifNo X13.here hx rfl (hb hby at_108) rfl ((if0 _ _).trans (teq (rfl : (0 : Int32) = (0 : Int32))).2) ?_
      show Steps p.tables e below (T13.setTop (mkF m 111 #[.val (.int p1), .val (.int p2), .val (.int p3), .val (.int p4), .val (.int p5), .val (.int (3 : Int32)), .val (.int la), .val (.int lb), .val (.int lc), .val (.ref b6), .val (.ref b7), .val (.int (p5 ||| (-2147483648 : Int32))), .unset] [])) _
      refine XS.iconst X13.here hx rfl (hb hby at_111) ?_
      show Steps p.tables e below (T13.setTop (mkF m 112 #[.val (.int p1), .val (.int p2), .val (.int p3), .val (.int p4), .val (.int p5), .val (.int (3 : Int32)), .val (.int la), .val (.int lb), .val (.int lc), .val (.ref b6), .val (.ref b7), .val (.int (p5 ||| (-2147483648 : Int32))), .unset] [(.int (1 : Int32))])) _
      refine XS.goto X13.here hx rfl (pc0 := 112) (pc' := 116) rfl (hb hby at_112) (by decide) (by decide) ?_
      show Steps p.tables e below (T13.setTop (mkF m 116 #[.val (.int p1), .val (.int p2), .val (.int p3), .val (.int p4), .val (.int p5), .val (.int (3 : Int32)), .val (.int la), .val (.int lb), .val (.int lc), .val (.ref b6), .val (.ref b7), .val (.int (p5 ||| (-2147483648 : Int32))), .unset] [(.int (1 : Int32))])) _
      refine XS.istore X13.here hx rfl (hb hby at_116) rfl (l' := #[.val (.int p1), .val (.int p2), .val (.int p3), .val (.int p4), .val (.int p5), .val (.int (3 : Int32)), .val (.int la), .val (.int lb), .val (.int lc), .val (.ref b6), .val (.ref b7), .val (.int (p5 ||| (-2147483648 : Int32))), .val (.int (1 : Int32))]) rfl ?_
      show Steps p.tables e below (T13.setTop (mkF m 118 #[.val (.int p1), .val (.int p2), .val (.int p3), .val (.int p4), .val (.int p5), .val (.int (3 : Int32)), .val (.int la), .val (.int lb), .val (.int lc), .val (.ref b6), .val (.ref b7), .val (.int (p5 ||| (-2147483648 : Int32))), .val (.int (1 : Int32))] [])) _
      refine XS.iload X13.here hx rfl (hb hby at_118) rfl ?_
      show Steps p.tables e below (T13.setTop (mkF m 120 #[.val (.int p1), .val (.int p2), .val (.int p3), .val (.int p4), .val (.int p5), .val (.int (3 : Int32)), .val (.int la), .val (.int lb), .val (.int lc), .val (.ref b6), .val (.ref b7), .val (.int (p5 ||| (-2147483648 : Int32))), .val (.int (1 : Int32))] [(.int (3 : Int32))])) _
      refine XS.ifNo X13.here hx rfl (hb hby at_120) rfl ((if0 _ _).trans (tlt (by decide : (0 : Int32) < (3 : Int32))).2.2.2) ?_
      show Steps p.tables e below (T13.setTop (mkF m 123 #[.val (.int p1), .val (.int p2), .val (.int p3), .val (.int p4), .val (.int p5), .val (.int (3 : Int32)), .val (.int la), .val (.int lb), .val (.int lc), .val (.ref b6), .val (.ref b7), .val (.int (p5 ||| (-2147483648 : Int32))), .val (.int (1 : Int32))] [])) _
      refine XS.iload X13.here hx rfl (hb hby at_123) rfl ?_
      show Steps p.tables e below (T13.setTop (mkF m 125 #[.val (.int p1), .val (.int p2), .val (.int p3), .val (.int p4), .val (.int p5), .val (.int (3 : Int32)), .val (.int la), .val (.int lb), .val (.int lc), .val (.ref b6), .val (.ref b7), .val (.int (p5 ||| (-2147483648 : Int32))), .val (.int (1 : Int32))] [(.int (1 : Int32))])) _
      refine XS.ifNo X13.here hx rfl (hb hby at_125) rfl ((if0 _ _).trans (feq (by decide : ¬ ((1 : Int32) = (0 : Int32)))).1) ?_
      show Steps p.tables e below (T13.setTop (mkF m 128 #[.val (.int p1), .val (.int p2), .val (.int p3), .val (.int p4), .val (.int p5), .val (.int (3 : Int32)), .val (.int la), .val (.int lb), .val (.int lc), .val (.ref b6), .val (.ref b7), .val (.int (p5 ||| (-2147483648 : Int32))), .val (.int (1 : Int32))] [])) _
      refine XS.aload X13.here hx rfl (hb hby at_128) rfl rfl ?_
      show Steps p.tables e below (T13.setTop (mkF m 130 #[.val (.int p1), .val (.int p2), .val (.int p3), .val (.int p4), .val (.int p5), .val (.int (3 : Int32)), .val (.int la), .val (.int lb), .val (.int lc), .val (.ref b6), .val (.ref b7), .val (.int (p5 ||| (-2147483648 : Int32))), .val (.int (1 : Int32))] [(.ref b7)])) _
      refine XS.iconst X13.here hx rfl (hb hby at_130) ?_
      show Steps p.tables e below (T13.setTop (mkF m 131 #[.val (.int p1), .val (.int p2), .val (.int p3), .val (.int p4), .val (.int p5), .val (.int (3 : Int32)), .val (.int la), .val (.int lb), .val (.int lc), .val (.ref b6), .val (.ref b7), .val (.int (p5 ||| (-2147483648 : Int32))), .val (.int (1 : Int32))] [(.int (0 : Int32)), (.ref b7)])) _
      refine st14.trans ?_
      show Steps p.tables e below (T14.setTop (mkF m 134 #[.val (.int p1), .val (.int p2), .val (.int p3), .val (.int p4), .val (.int p5), .val (.int (3 : Int32)), .val (.int la), .val (.int lb), .val (.int lc), .val (.ref b6), .val (.ref b7), .val (.int (p5 ||| (-2147483648 : Int32))), .val (.int (1 : Int32))] [(.int la)])) _
      refine XS.iload X14.here hx rfl (hb hby at_134) rfl ?_
      show Steps p.tables e below (T14.setTop (mkF m 136 #[.val (.int p1), .val (.int p2), .val (.int p3), .val (.int p4), .val (.int p5), .val (.int (3 : Int32)), .val (.int la), .val (.int lb), .val (.int lc), .val (.ref b6), .val (.ref b7), .val (.int (p5 ||| (-2147483648 : Int32))), .val (.int (1 : Int32))] [(.int la), (.int la)])) _
      refine XS.icmpNo X14.here hx rfl (hb hby at_136) rfl (teq (rfl : la = la)).2 ?_
      show Steps p.tables e below (T14.setTop (mkF m 139 #[.val (.int p1), .val (.int p2), .val (.int p3), .val (.int p4), .val (.int p5), .val (.int (3 : Int32)), .val (.int la), .val (.int lb), .val (.int lc), .val (.ref b6), .val (.ref b7), .val (.int (p5 ||| (-2147483648 : Int32))), .val (.int (1 : Int32))] [])) _
      refine XS.iconst X14.here hx rfl (hb hby at_139) ?_
      show Steps p.tables e below (T14.setTop (mkF m 140 #[.val (.int p1), .val (.int p2), .val (.int p3), .val (.int p4), .val (.int p5), .val (.int (3 : Int32)), .val (.int la), .val (.int lb), .val (.int lc), .val (.ref b6), .val (.ref b7), .val (.int (p5 ||| (-2147483648 : Int32))), .val (.int (1 : Int32))] [(.int (1 : Int32))])) _
      refine XS.goto X14.here hx rfl (pc0 := 140) (pc' := 144) rfl (hb hby at_140) (by decide) (by decide) ?_
      show Steps p.tables e below (T14.setTop (mkF m 144 #[.val (.int p1), .val (.int p2), .val (.int p3), .val (.int p4), .val (.int p5), .val (.int (3 : Int32)), .val (.int la), .val (.int lb), .val (.int lc), .val (.ref b6), .val (.ref b7), .val (.int (p5 ||| (-2147483648 : Int32))), .val (.int (1 : Int32))] [(.int (1 : Int32))])) _
      refine XS.istore X14.here hx rfl (hb hby at_144) rfl (l' := #[.val (.int p1), .val (.int p2), .val (.int p3), .val (.int p4), .val (.int p5), .val (.int (3 : Int32)), .val (.int la), .val (.int lb), .val (.int lc), .val (.ref b6), .val (.ref b7), .val (.int (p5 ||| (-2147483648 : Int32))), .val (.int (1 : Int32))]) rfl ?_
      show Steps p.tables e below (T14.setTop (mkF m 146 #[.val (.int p1), .val (.int p2), .val (.int p3), .val (.int p4), .val (.int p5), .val (.int (3 : Int32)), .val (.int la), .val (.int lb), .val (.int lc), .val (.ref b6), .val (.ref b7), .val (.int (p5 ||| (-2147483648 : Int32))), .val (.int (1 : Int32))] [])) _
      refine XS.iload X14.here hx rfl (hb hby at_146) rfl ?_
      show Steps p.tables e below (T14.setTop (mkF m 148 #[.val (.int p1), .val (.int p2), .val (.int p3), .val (.int p4), .val (.int p5), .val (.int (3 : Int32)), .val (.int la), .val (.int lb), .val (.int lc), .val (.ref b6), .val (.ref b7), .val (.int (p5 ||| (-2147483648 : Int32))), .val (.int (1 : Int32))] [(.int (3 : Int32))])) _
      refine XS.iconst X14.here hx rfl (hb hby at_148) ?_
      show Steps p.tables e below (T14.setTop (mkF m 149 #[.val (.int p1), .val (.int p2), .val (.int p3), .val (.int p4), .val (.int p5), .val (.int (3 : Int32)), .val (.int la), .val (.int lb), .val (.int lc), .val (.ref b6), .val (.ref b7), .val (.int (p5 ||| (-2147483648 : Int32))), .val (.int (1 : Int32))] [(.int (1 : Int32)), (.int (3 : Int32))])) _
      refine XS.icmpNo X14.here hx rfl (hb hby at_149) rfl (tlt (by decide : (1 : Int32) < (3 : Int32))).2.2.2 ?_
      show Steps p.tables e below (T14.setTop (mkF m 152 #[.val (.int p1), .val (.int p2), .val (.int p3), .val (.int p4), .val (.int p5), .val (.int (3 : Int32)), .val (.int la), .val (.int lb), .val (.int lc), .val (.ref b6), .val (.ref b7), .val (.int (p5 ||| (-2147483648 : Int32))), .val (.int (1 : Int32))] [])) _
      refine XS.iload X14.here hx rfl (hb hby at_152) rfl ?_
      show Steps p.tables e below (T14.setTop (mkF m 154 #[.val (.int p1), .val (.int p2), .val (.int p3), .val (.int p4), .val (.int p5), .val (.int (3 : Int32)), .val (.int la), .val (.int lb), .val (.int lc), .val (.ref b6), .val (.ref b7), .val (.int (p5 ||| (-2147483648 : Int32))), .val (.int (1 : Int32))] [(.int (1 : Int32))])) _
      refine XS.ifNo X14.here hx rfl (hb hby at_154) rfl ((if0 _ _).trans (feq (by decide : ¬ ((1 : Int32) = (0 : Int32)))).1) ?_
      show Steps p.tables e below (T14.setTop (mkF m 157 #[.val (.int p1), .val (.int p2), .val (.int p3), .val (.int p4), .val (.int p5), .val (.int (3 : Int32)), .val (.int la), .val (.int lb), .val (.int lc), .val (.ref b6), .val (.ref b7), .val (.int (p5 ||| (-2147483648 : Int32))), .val (.int (1 : Int32))] [])) _
      refine XS.aload X14.here hx rfl (hb hby at_157) rfl rfl ?_
      show Steps p.tables e below (T14.setTop (mkF m 159 #[.val (.int p1), .val (.int p2), .val (.int p3), .val (.int p4), .val (.int p5), .val (.int (3 : Int32)), .val (.int la), .val (.int lb), .val (.int lc), .val (.ref b6), .val (.ref b7), .val (.int (p5 ||| (-2147483648 : Int32))), .val (.int (1 : Int32))] [(.ref b7)])) _
      refine XS.iconst X14.here hx rfl (hb hby at_159) ?_
      show Steps p.tables e below (T14.setTop (mkF m 160 #[.val (.int p1), .val (.int p2), .val (.int p3), .val (.int p4), .val (.int p5), .val (.int (3 : Int32)), .val (.int la), .val (.int lb), .val (.int lc), .val (.ref b6), .val (.ref b7), .val (.int (p5 ||| (-2147483648 : Int32))), .val (.int (1 : Int32))] [(.int (1 : Int32)), (.ref b7)])) _
      refine st15.trans ?_
      show Steps p.tables e below (T15.setTop (mkF m 163 #[.val (.int p1), .val (.int p2), .val (.int p3), .val (.int p4), .val (.int p5), .val (.int (3 : Int32)), .val (.int la), .val (.int lb), .val (.int lc), .val (.ref b6), .val (.ref b7), .val (.int (p5 ||| (-2147483648 : Int32))), .val (.int (1 : Int32))] [(.int (la + lb))])) _
      refine XS.iload X15.here hx rfl (hb hby at_163) rfl ?_
      show Steps p.tables e below (T15.setTop (mkF m 165 #[.val (.int p1), .val (.int p2), .val (.int p3), .val (.int p4), .val (.int p5), .val (.int (3 : Int32)), .val (.int la), .val (.int lb), .val (.int lc), .val (.ref b6), .val (.ref b7), .val (.int (p5 ||| (-2147483648 : Int32))), .val (.int (1 : Int32))] [(.int la), (.int (la + lb))])) _
      refine XS.iload X15.here hx rfl (hb hby at_165) rfl ?_
      show Steps p.tables e below (T15.setTop (mkF m 167 #[.val (.int p1), .val (.int p2), .val (.int p3), .val (.int p4), .val (.int p5), .val (.int (3 : Int32)), .val (.int la), .val (.int lb), .val (.int lc), .val (.ref b6), .val (.ref b7), .val (.int (p5 ||| (-2147483648 : Int32))), .val (.int (1 : Int32))] [(.int lb), (.int la), (.int (la + lb))])) _
      refine XS.iadd X15.here hx rfl (hb hby at_167) rfl ?_
      show Steps p.tables e below (T15.setTop (mkF m 168 #[.val (.int p1), .val (.int p2), .val (.int p3), .val (.int p4), .val (.int p5), .val (.int (3 : Int32)), .val (.int la), .val (.int lb), .val (.int lc), .val (.ref b6), .val (.ref b7), .val (.int (p5 ||| (-2147483648 : Int32))), .val (.int (1 : Int32))] [(.int (la + lb)), (.int (la + lb))])) _
      refine XS.icmpNo X15.here hx rfl (hb hby at_168) rfl (teq (rfl : (la + lb) = (la + lb))).2 ?_
      show Steps p.tables e below (T15.setTop (mkF m 171 #[.val (.int p1), .val (.int p2), .val (.int p3), .val (.int p4), .val (.int p5), .val (.int (3 : Int32)), .val (.int la), .val (.int lb), .val (.int lc), .val (.ref b6), .val (.ref b7), .val (.int (p5 ||| (-2147483648 : Int32))), .val (.int (1 : Int32))] [])) _
      refine XS.iconst X15.here hx rfl (hb hby at_171) ?_
      show Steps p.tables e below (T15.setTop (mkF m 172 #[.val (.int p1), .val (.int p2), .val (.int p3), .val (.int p4), .val (.int p5), .val (.int (3 : Int32)), .val (.int la), .val (.int lb), .val (.int lc), .val (.ref b6), .val (.ref b7), .val (.int (p5 ||| (-2147483648 : Int32))), .val (.int (1 : Int32))] [(.int (1 : Int32))])) _
      refine XS.goto X15.here hx rfl (pc0 := 172) (pc' := 176) rfl (hb hby at_172) (by decide) (by decide) ?_
      show Steps p.tables e below (T15.setTop (mkF m 176 #[.val (.int p1), .val (.int p2), .val (.int p3), .val (.int p4), .val (.int p5), .val (.int (3 : Int32)), .val (.int la), .val (.int lb), .val (.int lc), .val (.ref b6), .val (.ref b7), .val (.int (p5 ||| (-2147483648 : Int32))), .val (.int (1 : Int32))] [(.int (1 : Int32))])) _
      refine XS.istore X15.here hx rfl (hb hby at_176) rfl (l' := #[.val (.int p1), .val (.int p2), .val (.int p3), .val (.int p4), .val (.int p5), .val (.int (3 : Int32)), .val (.int la), .val (.int lb), .val (.int lc), .val (.ref b6), .val (.ref b7), .val (.int (p5 ||| (-2147483648 : Int32))), .val (.int (1 : Int32))]) rfl ?_
      show Steps p.tables e below (T15.setTop (mkF m 178 #[.val (.int p1), .val (.int p2), .val (.int p3), .val (.int p4), .val (.int p5), .val (.int (3 : Int32)), .val (.int la), .val (.int lb), .val (.int lc), .val (.ref b6), .val (.ref b7), .val (.int (p5 ||| (-2147483648 : Int32))), .val (.int (1 : Int32))] [])) _
      refine XS.iload X15.here hx rfl (hb hby at_178) rfl ?_
      show Steps p.tables e below (T15.setTop (mkF m 180 #[.val (.int p1), .val (.int p2), .val (.int p3), .val (.int p4), .val (.int p5), .val (.int (3 : Int32)), .val (.int la), .val (.int lb), .val (.int lc), .val (.ref b6), .val (.ref b7), .val (.int (p5 ||| (-2147483648 : Int32))), .val (.int (1 : Int32))] [(.int (3 : Int32))])) _
      refine XS.iconst X15.here hx rfl (hb hby at_180) ?_
      show Steps p.tables e below (T15.setTop (mkF m 181 #[.val (.int p1), .val (.int p2), .val (.int p3), .val (.int p4), .val (.int p5), .val (.int (3 : Int32)), .val (.int la), .val (.int lb), .val (.int lc), .val (.ref b6), .val (.ref b7), .val (.int (p5 ||| (-2147483648 : Int32))), .val (.int (1 : Int32))] [(.int (2 : Int32)), (.int (3 : Int32))])) _
      refine XS.icmpNo X15.here hx rfl (hb hby at_181) rfl (tlt (by decide : (2 : Int32) < (3 : Int32))).2.2.2 ?_
      show Steps p.tables e below (T15.setTop (mkF m 184 #[.val (.int p1), .val (.int p2), .val (.int p3), .val (.int p4), .val (.int p5), .val (.int (3 : Int32)), .val (.int la), .val (.int lb), .val (.int lc), .val (.ref b6), .val (.ref b7), .val (.int (p5 ||| (-2147483648 : Int32))), .val (.int (1 : Int32))] [])) _
      refine XS.iload X15.here hx rfl (hb hby at_184) rfl ?_
      show Steps p.tables e below (T15.setTop (mkF m 186 #[.val (.int p1), .val (.int p2), .val (.int p3), .val (.int p4), .val (.int p5), .val (.int (3 : Int32)), .val (.int la), .val (.int lb), .val (.int lc), .val (.ref b6), .val (.ref b7), .val (.int (p5 ||| (-2147483648 : Int32))), .val (.int (1 : Int32))] [(.int (1 : Int32))])) _
      refine XS.ifNo X15.here hx rfl (hb hby at_186) rfl ((if0 _ _).trans (feq (by decide : ¬ ((1 : Int32) = (0 : Int32)))).1) ?_
      show Steps p.tables e below (T15.setTop (mkF m 189 #[.val (.int p1), .val (.int p2), .val (.int p3), .val (.int p4), .val (.int p5), .val (.int (3 : Int32)), .val (.int la), .val (.int lb), .val (.int lc), .val (.ref b6), .val (.ref b7), .val (.int (p5 ||| (-2147483648 : Int32))), .val (.int (1 : Int32))] [])) _
      refine XS.aload X15.here hx rfl (hb hby at_189) rfl rfl ?_
      show Steps p.tables e below (T15.setTop (mkF m 191 #[.val (.int p1), .val (.int p2), .val (.int p3), .val (.int p4), .val (.int p5), .val (.int (3 : Int32)), .val (.int la), .val (.int lb), .val (.int lc), .val (.ref b6), .val (.ref b7), .val (.int (p5 ||| (-2147483648 : Int32))), .val (.int (1 : Int32))] [(.ref b7)])) _
      refine XS.iconst X15.here hx rfl (hb hby at_191) ?_
      show Steps p.tables e below (T15.setTop (mkF m 192 #[.val (.int p1), .val (.int p2), .val (.int p3), .val (.int p4), .val (.int p5), .val (.int (3 : Int32)), .val (.int la), .val (.int lb), .val (.int lc), .val (.ref b6), .val (.ref b7), .val (.int (p5 ||| (-2147483648 : Int32))), .val (.int (1 : Int32))] [(.int (2 : Int32)), (.ref b7)])) _
      refine st16.trans ?_
      show Steps p.tables e below (T16.setTop (mkF m 195 #[.val (.int p1), .val (.int p2), .val (.int p3), .val (.int p4), .val (.int p5), .val (.int (3 : Int32)), .val (.int la), .val (.int lb), .val (.int lc), .val (.ref b6), .val (.ref b7), .val (.int (p5 ||| (-2147483648 : Int32))), .val (.int (1 : Int32))] [(.int ((la + lb) + lc))])) _
      refine XS.iload X16.here hx rfl (hb hby at_195) rfl ?_
      show Steps p.tables e below (T16.setTop (mkF m 197 #[.val (.int p1), .val (.int p2), .val (.int p3), .val (.int p4), .val (.int p5), .val (.int (3 : Int32)), .val (.int la), .val (.int lb), .val (.int lc), .val (.ref b6), .val (.ref b7), .val (.int (p5 ||| (-2147483648 : Int32))), .val (.int (1 : Int32))] [(.int la), (.int ((la + lb) + lc))])) _
      refine XS.iload X16.here hx rfl (hb hby at_197) rfl ?_
      show Steps p.tables e below (T16.setTop (mkF m 199 #[.val (.int p1), .val (.int p2), .val (.int p3), .val (.int p4), .val (.int p5), .val (.int (3 : Int32)), .val (.int la), .val (.int lb), .val (.int lc), .val (.ref b6), .val (.ref b7), .val (.int (p5 ||| (-2147483648 : Int32))), .val (.int (1 : Int32))] [(.int lb), (.int la), (.int ((la + lb) + lc))])) _
      refine XS.iadd X16.here hx rfl (hb hby at_199) rfl ?_
      show Steps p.tables e below (T16.setTop (mkF m 200 #[.val (.int p1), .val (.int p2), .val (.int p3), .val (.int p4), .val (.int p5), .val (.int (3 : Int32)), .val (.int la), .val (.int lb), .val (.int lc), .val (.ref b6), .val (.ref b7), .val (.int (p5 ||| (-2147483648 : Int32))), .val (.int (1 : Int32))] [(.int (la + lb)), (.int ((la + lb) + lc))])) _
      refine XS.iload X16.here hx rfl (hb hby at_200) rfl ?_
      show Steps p.tables e below (T16.setTop (mkF m 202 #[.val (.int p1), .val (.int p2), .val (.int p3), .val (.int p4), .val (.int p5), .val (.int (3 : Int32)), .val (.int la), .val (.int lb), .val (.int lc), .val (.ref b6), .val (.ref b7), .val (.int (p5 ||| (-2147483648 : Int32))), .val (.int (1 : Int32))] [(.int lc), (.int (la + lb)), (.int ((la + lb) + lc))])) _
      refine XS.iadd X16.here hx rfl (hb hby at_202) rfl ?_
      show Steps p.tables e below (T16.setTop (mkF m 203 #[.val (.int p1), .val (.int p2), .val (.int p3), .val (.int p4), .val (.int p5), .val (.int (3 : Int32)), .val (.int la), .val (.int lb), .val (.int lc), .val (.ref b6), .val (.ref b7), .val (.int (p5 ||| (-2147483648 : Int32))), .val (.int (1 : Int32))] [(.int ((la + lb) + lc)), (.int ((la + lb) + lc))])) _
      refine XS.icmpNo X16.here hx rfl (hb hby at_203) rfl (teq (rfl : ((la + lb) + lc) = ((la + lb) + lc))).2 ?_
      show Steps p.tables e below (T16.setTop (mkF m 206 #[.val (.int p1), .val (.int p2), .val (.int p3), .val (.int p4), .val (.int p5), .val (.int (3 : Int32)), .val (.int la), .val (.int lb), .val (.int lc), .val (.ref b6), .val (.ref b7), .val (.int (p5 ||| (-2147483648 : Int32))), .val (.int (1 : Int32))] [])) _
      refine XS.iconst X16.here hx rfl (hb hby at_206) ?_
      show Steps p.tables e below (T16.setTop (mkF m 207 #[.val (.int p1), .val (.int p2), .val (.int p3), .val (.int p4), .val (.int p5), .val (.int (3 : Int32)), .val (.int la), .val (.int lb), .val (.int lc), .val (.ref b6), .val (.ref b7), .val (.int (p5 ||| (-2147483648 : Int32))), .val (.int (1 : Int32))] [(.int (1 : Int32))])) _
      refine XS.goto X16.here hx rfl (pc0 := 207) (pc' := 211) rfl (hb hby at_207) (by decide) (by decide) ?_
      show Steps p.tables e below (T16.setTop (mkF m 211 #[.val (.int p1), .val (.int p2), .val (.int p3), .val (.int p4), .val (.int p5), .val (.int (3 : Int32)), .val (.int la), .val (.int lb), .val (.int lc), .val (.ref b6), .val (.ref b7), .val (.int (p5 ||| (-2147483648 : Int32))), .val (.int (1 : Int32))] [(.int (1 : Int32))])) _
      refine XS.istore X16.here hx rfl (hb hby at_211) rfl (l' := #[.val (.int p1), .val (.int p2), .val (.int p3), .val (.int p4), .val (.int p5), .val (.int (3 : Int32)), .val (.int la), .val (.int lb), .val (.int lc), .val (.ref b6), .val (.ref b7), .val (.int (p5 ||| (-2147483648 : Int32))), .val (.int (1 : Int32))]) rfl ?_
      show Steps p.tables e below (T16.setTop (mkF m 213 #[.val (.int p1), .val (.int p2), .val (.int p3), .val (.int p4), .val (.int p5), .val (.int (3 : Int32)), .val (.int la), .val (.int lb), .val (.int lc), .val (.ref b6), .val (.ref b7), .val (.int (p5 ||| (-2147483648 : Int32))), .val (.int (1 : Int32))] [])) _
      refine XS.iload X16.here hx rfl (hb hby at_213) rfl ?_
      show Steps p.tables e below (T16.setTop (mkF m 215 #[.val (.int p1), .val (.int p2), .val (.int p3), .val (.int p4), .val (.int p5), .val (.int (3 : Int32)), .val (.int la), .val (.int lb), .val (.int lc), .val (.ref b6), .val (.ref b7), .val (.int (p5 ||| (-2147483648 : Int32))), .val (.int (1 : Int32))] [(.int (1 : Int32))])) _
      exact retN X16 hx (t := .boolean) Bd.returns (by simp) (hb hby at_215) hr
    · show Q0 Z p1 p2 p3 p4 p5 h0 n0 _ T16.heap _
      rw [e16]
      exact ⟨rfl, N16⟩
set_option maxRecDepth 65536 in
set_option maxHeartbeats 40000000 in
theorem comes_1 {Post : Tables → Env → Array Value → State → Outcome → State → Prop} (hpost : ∀ tb e args s v u, (limb_1_1.after args s (.returned v) u = true ∧ limb_1_2.after args s (.returned v) u = true ∧ True) → FrameEnd s (.returned v) u (Jvm.fieldLocs frame_1_writes args s ++ Jvm.arrayLocs frame_1_arrays args s ++ Jvm.staticLocs frame_1_statics s) 16 10368 → Post tb e args s (.returned v) u) :
    ArmFor flags0 classFile x code maxLocals ret World_1 tables_1 room_1 Calls_1 rest_1 Pre_1 Post := by
  intro l hfl _ _ p e ha hc hk s m args below hf hA hF happ hP
  obtain ⟨hcalls, hrest, hpre⟩ := hP
  obtain ⟨-, -, -, hnamed, -, -, -, hat⟩ := (Spec.applies_iff hf).mp happ
  obtain ⟨hg, hn⟩ := and_e (Cond.before_iff.mp (show (Jvm.Cond.and given_1 narrow_1).before args s = true from hpre))
  obtain ⟨g11, g12⟩ := and_e hg
  obtain ⟨g13, g14⟩ := and_e g12
  obtain ⟨g15, g16⟩ := and_e g14
  obtain ⟨g17, g18⟩ := and_e g16
  obtain ⟨g19, g20⟩ := and_e g18
  obtain ⟨w0, w1, w2, w3, w4, rfl⟩ : ∃ w0 w1 w2 w3 w4 : Value, args = #[w0, w1, w2, w3, w4] := by
    have hs : args.size = 5 := by simpa [Cond.value, given_1] using g11
    obtain ⟨L⟩ := args
    match L, hs with
    | [w0, w1, w2, w3, w4], _ => exact ⟨w0, w1, w2, w3, w4, rfl⟩
  have hw := fun d (hd : d ∈ tables_1) => atoms_spec (ws := Jvm.Cond.code x code maxLocals ret :: tables_1) hat d (List.mem_cons_of_mem _ hd)
  have hfit : Fit s := fun {y c} hc i hi => by
    obtain ⟨ha, rfl⟩ := Array.getElem?_eq_some_iff.mp hc
    have q := List.all_eq_true.mp ((Array.all_eq_true_iff_forall_mem.mp hF) _ (Array.getElem_mem ha)) i (List.mem_range.mpr hi)
    simpa [Array.getElem?_eq_getElem hi] using q
  obtain ⟨i0, ei0⟩ := is_v g13
  obtain rfl : w0 = (.int i0) := Option.some.inj ei0
  obtain ⟨i1, ei1⟩ := is_v g15
  obtain rfl : w1 = (.int i1) := Option.some.inj ei1
  obtain ⟨i2, ei2⟩ := is_v g17
  obtain rfl : w2 = (.int i2) := Option.some.inj ei2
  obtain ⟨i3, ei3⟩ := is_v g19
  obtain rfl : w3 = (.int i3) := Option.some.inj ei3
  obtain ⟨i4, ei4⟩ := is_v g20
  obtain rfl : w4 = (.int i4) := Option.some.inj ei4
  obtain ⟨n, o, h1, h2, h3, _, L, rfl, ⟨rfl, N⟩, hq⟩ := rm0 l s _ hw tables_1 i0 i1 i2 i3 i4 s.heap s.heap.size (Nat.le_refl _) p e ha hc hk s m _ below hf ((Spec.applies_iff_loose hf).mp happ).1 ⟨rfl, State.Warmed39.refl s, rfl⟩ trivial
  refine ⟨n, _, h1, h2, h3, hpost _ _ _ _ _ _ ⟨Cond.after_iff.mpr rfl, Cond.after_iff.mpr (eq_i res_at (Term.int_eval (1)) rfl), trivial⟩ ⟨hq.1, hq.2.1, (hq.2.2.sift fun y hy => Or.inr (N y hy)).mono (by decide) (by decide)⟩⟩
theorem main_1_1 : Claimed_1_1 := comes_1 fun _ _ _ _ _ _ h hF => ⟨h.1, hF⟩
theorem main_1_2 : Claimed_1_2 := comes_1 fun _ _ _ _ _ _ h hF => ⟨h.2.1, hF⟩
end Jvm.Pilot.@@N@@
namespace Jvm.Pilot.@@N@@
open Jvm Jvm.ClassFile Sem Op Lib Jvm.Free Jvm.Stand Jvm.Pilot.@@N@@.Jvm.D
/-! MADE BY PROGRAM (witnessworld.py) out of the Statement's table words and the real class files: 11 classes; the members and pool entries that the words name. The judged class is class 1, her method 1. -/
namespace start1
open Jvm.ClassFile
def u (s : String) : CpInfo := .utf8 (stringToUtf16 s)
/-- a pool by its gaps: so many unusable entries, then the entry; so many at the end -/
def gap : Nat → List CpInfo → List CpInfo
  | 0, r => r
  | n + 1, r => .unusable :: gap n r
def poolList (es : List (Nat × CpInfo)) (last : Nat) : List CpInfo := es.foldr (fun e r => gap e.1 (e.2 :: r)) (gap last [])
def pool (es : List (Nat × CpInfo)) (last : Nat) : Array CpInfo := ⟨poolList es last⟩
def fileOf (pool : Array CpInfo) (this : Nat) (attrs : Array Attribute := #[]) (ms : Array MethodInfo := #[]) (fl : Nat := 33) (sup : Nat := 0) (ifs : Array Nat := #[]) (fds : Array FieldInfo := #[]) : ClassFile where
  minorVersion := 0
  majorVersion := 65
  constantPool := pool
  accessFlags := fl
  thisClass := this
  superClass := sup
  interfaces := ifs
  fields := fds
  methods := ms
  attributes := attrs
def plain (name : String) (sup : Option ClassId) : Class where
  name := name
  kind := .ordinary
  loader := none
  accessFlags := 33
  super := sup
  interfaces := #[]
  cf := none
  fields := #[]
  methods := #[]
  instanceTypes := #[]
  staticTypes := #[]
  resolved := #[]
  callSites := []
  init := .initialized
  statics := none
  mirror := none

def pool0 : Array CpInfo := pool [(5, u "<init>"), (0, u "()V"), (1, .class_ 10), (1, u "java/lang/Object")] 113

def k0c0 : Code := { maxStack := 0, maxLocals := 1, code := object_method_1_code, exceptionTable := #[], attributes := #[] }
def k0m0 : Method := { name := "<init>", desc := "()V", sig := { parameters := [], returnType := none }, accessFlags := 1, code := some k0c0 }
/-- java/lang/Object -/
def k0 : Class := { plain "java/lang/Object" none with
  accessFlags := 33
  interfaces := #[]
  cf := some (fileOf pool0 8 #[] #[{ accessFlags := 1, nameIndex := 5, descriptorIndex := 6, attributes := #[] }] 33 0 #[] #[])
  fields := #[]
  methods := #[k0m0]
  instanceTypes := #[]
  staticTypes := #[]
  resolved := Array.replicate 124 none
  statics := none }

def pool1 : Array CpInfo := pool [(2, .class_ 4), (0, .nameAndType 5 6), (0, u "java/lang/Object"), (0, u "<init>"), (0, u "()V"), (0, .class_ 8), (0, u "com/example/surfwalk/surfwalk/Surfer$Paths"), (0, .methodref 7 3), (0, .methodref 7 11), (0, .nameAndType 12 13), (0, u "addWalk"), (0, u "([IILjava/util/SplittableRandom;)V"), (2, .integer 2147483648), (0, .methodref 7 18), (0, .nameAndType 19 20), (0, u "end"), (0, u "(I)I"), (0, .class_ 22), (0, u "com/example/surfwalk/surfwalk/PathsEndPinLaw"), (2, u "law"), (0, u "(IIIII)Z")] 9

def k1m0 : Method := { name := "<init>", desc := "()V", sig := { parameters := [], returnType := none }, accessFlags := 2, code := none }
def k1c1 : Code := { maxStack := 4, maxLocals := 13, code := code, exceptionTable := #[], attributes := #[] }
def k1m1 : Method := { name := "law", desc := "(IIIII)Z", sig := { parameters := [.int, .int, .int, .int, .int], returnType := some .boolean }, accessFlags := 9, code := some k1c1 }
/-- com/example/surfwalk/surfwalk/PathsEndPinLaw -/
def k1 : Class := { plain "com/example/surfwalk/surfwalk/PathsEndPinLaw" (some 0) with
  accessFlags := 49
  interfaces := #[]
  cf := some (fileOf pool1 21 #[] #[{ accessFlags := 2, nameIndex := 5, descriptorIndex := 6, attributes := #[] }, { accessFlags := 9, nameIndex := 25, descriptorIndex := 26, attributes := #[] }] 49 2 #[] #[])
  fields := #[]
  methods := #[k1m0, k1m1]
  instanceTypes := #[]
  staticTypes := #[]
  resolved := Array.replicate 36 none
  statics := none }

def pool2 : Array CpInfo := pool [(1, .class_ 2), (0, u "com/example/surfwalk/surfwalk/Surfer$Part"), (0, .class_ 4), (0, u "java/lang/Object"), (9, .class_ 15), (0, u "com/example/surfwalk/surfwalk/Surfer")] 2

/-- com/example/surfwalk/surfwalk/Surfer$Part -/
def k2 : Class := { plain "com/example/surfwalk/surfwalk/Surfer$Part" (some 0) with
  accessFlags := 1536
  interfaces := #[]
  cf := some (fileOf pool2 1 #[.nestHost 14] #[] 1536 3 #[] #[])
  fields := #[]
  methods := #[]
  instanceTypes := #[]
  staticTypes := #[]
  resolved := Array.replicate 18 none
  statics := none }

def pool3 : Array CpInfo := pool [(1, .methodref 2 3), (0, .class_ 4), (0, .nameAndType 5 6), (0, u "java/lang/Object"), (0, u "<init>"), (0, u "()V"), (2, .fieldref 10 11), (0, .class_ 12), (0, .nameAndType 13 14), (0, u "com/example/surfwalk/surfwalk/Surfer$Paths"), (0, u "pages"), (0, u "[I"), (0, .fieldref 10 16), (0, .nameAndType 17 14), (0, u "ends"), (0, .fieldref 10 19), (0, .nameAndType 20 21), (0, u "count"), (0, u "I"), (0, .methodref 10 23), (0, .nameAndType 24 25), (0, u "end"), (0, u "(I)I"), (12, .methodref 39 40), (0, .class_ 41), (0, .nameAndType 42 43), (0, u "java/lang/System"), (0, u "arraycopy"), (0, u "(Ljava/lang/Object;ILjava/lang/Object;II)V"), (0, .class_ 45), (0, u "com/example/surfwalk/surfwalk/Surfer$Part"), (2, u "addWalk"), (0, u "([IILjava/util/SplittableRandom;)V"), (7, .class_ 58), (0, u "com/example/surfwalk/surfwalk/Surfer")] 3

def k3c0 : Code := { maxStack := 2, maxLocals := 1, code := prog_36_method_1_code, exceptionTable := #[], attributes := #[] }
def k3m0 : Method := { name := "<init>", desc := "()V", sig := { parameters := [], returnType := none }, accessFlags := 0, code := some k3c0 }
def k3c1 : Code := { maxStack := 5, maxLocals := 5, code := prog_36_method_2_code, exceptionTable := #[], attributes := #[] }
def k3m1 : Method := { name := "addWalk", desc := "([IILjava/util/SplittableRandom;)V", sig := { parameters := [(.array .int), .int, (.object "java/util/SplittableRandom")], returnType := none }, accessFlags := 1, code := some k3c1 }
def k3c2 : Code := { maxStack := 2, maxLocals := 2, code := prog_36_method_6_code, exceptionTable := #[], attributes := #[] }
def k3m2 : Method := { name := "end", desc := "(I)I", sig := { parameters := [.int], returnType := some .int }, accessFlags := 16, code := some k3c2 }
/-- com/example/surfwalk/surfwalk/Surfer$Paths -/
def k3 : Class := { plain "com/example/surfwalk/surfwalk/Surfer$Paths" (some 0) with
  accessFlags := 32
  interfaces := #[2]
  cf := some (fileOf pool3 10 #[.nestHost 57] #[{ accessFlags := 0, nameIndex := 5, descriptorIndex := 6, attributes := #[] }, { accessFlags := 1, nameIndex := 48, descriptorIndex := 49, attributes := #[] }, { accessFlags := 16, nameIndex := 24, descriptorIndex := 25, attributes := #[] }] 32 2 #[44] #[{ accessFlags := 2, nameIndex := 13, descriptorIndex := 14, attributes := #[] }, { accessFlags := 18, nameIndex := 17, descriptorIndex := 14, attributes := #[] }, { accessFlags := 2, nameIndex := 20, descriptorIndex := 21, attributes := #[] }])
  fields := #[{ name := "pages", type := (.array .int), accessFlags := 2, slot := 0, constantValue := 0 }, { name := "ends", type := (.array .int), accessFlags := 18, slot := 1, constantValue := 0 }, { name := "count", type := .int, accessFlags := 2, slot := 2, constantValue := 0 }]
  methods := #[k3m0, k3m1, k3m2]
  instanceTypes := #[(.array .int), (.array .int), .int]
  staticTypes := #[]
  resolved := Array.replicate 62 none
  statics := none }

def pool4 : Array CpInfo := pool [(2, .class_ 4), (1, u "java/lang/Object"), (0, u "<init>"), (0, u "()V"), (1, .class_ 10), (1, u "java/lang/System"), (0, u "allowSecurityManager"), (0, u "I"), (16, u "cons"), (0, u "Ljava/io/Console;"), (77, .class_ 110), (1, u "java/lang/System$CallersHolder"), (43, u "initialErrStream"), (0, u "Ljava/io/PrintStream;"), (19, u "security"), (0, u "Ljava/lang/SecurityManager;"), (31, .class_ 209), (0, u "java/lang/System$1"), (7, u "props"), (0, u "Ljava/util/Properties;"), (2, u "lineSeparator"), (0, u "Ljava/lang/String;"), (96, .class_ 321), (1, u "java/lang/System$LoggerFinder"), (5, .class_ 328), (0, u "java/lang/System$Logger"), (67, u "err"), (2, u "out"), (91, u "notSupportedJnuEncoding"), (15, u "in"), (17, u "initialIn"), (0, u "Ljava/io/InputStream;"), (35, u "bootLayer"), (0, u "Ljava/lang/ModuleLayer;"), (99, .class_ 664), (0, u "java/lang/System$2"), (9, u "NEVER"), (2, u "MAYBE"), (49, u "arraycopy"), (0, u "(Ljava/lang/Object;ILjava/lang/Object;II)V"), (72, .class_ 802), (0, u "java/lang/System$Logger$Level")] 31

def k4m0 : Method := { name := "<init>", desc := "()V", sig := { parameters := [], returnType := none }, accessFlags := 2, code := none }
def k4m1 : Method := { name := "arraycopy", desc := "(Ljava/lang/Object;ILjava/lang/Object;II)V", sig := { parameters := [(.object "java/lang/Object"), .int, (.object "java/lang/Object"), .int, .int], returnType := none }, accessFlags := 265, code := none }
/-- java/lang/System -/
def k4 : Class := { plain "java/lang/System" (some 0) with
  accessFlags := 49
  interfaces := #[]
  cf := some (fileOf pool4 8 #[.nestMembers #[319, 327, 801, 108, 663, 208]] #[{ accessFlags := 2, nameIndex := 5, descriptorIndex := 6, attributes := #[] }, { accessFlags := 265, nameIndex := 727, descriptorIndex := 728, attributes := #[] }] 49 2 #[] #[{ accessFlags := 25, nameIndex := 507, descriptorIndex := 526, attributes := #[] }, { accessFlags := 25, nameIndex := 399, descriptorIndex := 155, attributes := #[] }, { accessFlags := 25, nameIndex := 396, descriptorIndex := 155, attributes := #[] }, { accessFlags := 10, nameIndex := 525, descriptorIndex := 526, attributes := #[] }, { accessFlags := 26, nameIndex := 674, descriptorIndex := 12, attributes := #[] }, { accessFlags := 26, nameIndex := 677, descriptorIndex := 12, attributes := #[] }, { accessFlags := 10, nameIndex := 11, descriptorIndex := 12, attributes := #[] }, { accessFlags := 74, nameIndex := 175, descriptorIndex := 176, attributes := #[] }, { accessFlags := 10, nameIndex := 491, descriptorIndex := 222, attributes := #[] }, { accessFlags := 74, nameIndex := 29, descriptorIndex := 30, attributes := #[] }, { accessFlags := 74, nameIndex := 154, descriptorIndex := 155, attributes := #[] }, { accessFlags := 10, nameIndex := 217, descriptorIndex := 218, attributes := #[] }, { accessFlags := 10, nameIndex := 221, descriptorIndex := 222, attributes := #[] }, { accessFlags := 8, nameIndex := 562, descriptorIndex := 563, attributes := #[] }])
  fields := #[{ name := "in", type := (.object "java/io/InputStream"), accessFlags := 25, slot := 0, constantValue := 0 }, { name := "out", type := (.object "java/io/PrintStream"), accessFlags := 25, slot := 1, constantValue := 0 }, { name := "err", type := (.object "java/io/PrintStream"), accessFlags := 25, slot := 2, constantValue := 0 }, { name := "initialIn", type := (.object "java/io/InputStream"), accessFlags := 10, slot := 3, constantValue := 0 }, { name := "NEVER", type := .int, accessFlags := 26, slot := 4, constantValue := 0 }, { name := "MAYBE", type := .int, accessFlags := 26, slot := 5, constantValue := 0 }, { name := "allowSecurityManager", type := .int, accessFlags := 10, slot := 6, constantValue := 0 }, { name := "security", type := (.object "java/lang/SecurityManager"), accessFlags := 74, slot := 7, constantValue := 0 }, { name := "notSupportedJnuEncoding", type := (.object "java/lang/String"), accessFlags := 10, slot := 8, constantValue := 0 }, { name := "cons", type := (.object "java/io/Console"), accessFlags := 74, slot := 9, constantValue := 0 }, { name := "initialErrStream", type := (.object "java/io/PrintStream"), accessFlags := 74, slot := 10, constantValue := 0 }, { name := "props", type := (.object "java/util/Properties"), accessFlags := 10, slot := 11, constantValue := 0 }, { name := "lineSeparator", type := (.object "java/lang/String"), accessFlags := 10, slot := 12, constantValue := 0 }, { name := "bootLayer", type := (.object "java/lang/ModuleLayer"), accessFlags := 8, slot := 13, constantValue := 0 }]
  methods := #[k4m0, k4m1]
  instanceTypes := #[]
  staticTypes := #[(.object "java/io/InputStream"), (.object "java/io/PrintStream"), (.object "java/io/PrintStream"), (.object "java/io/InputStream"), .int, .int, .int, (.object "java/lang/SecurityManager"), (.object "java/lang/String"), (.object "java/io/Console"), (.object "java/io/PrintStream"), (.object "java/util/Properties"), (.object "java/lang/String"), (.object "java/lang/ModuleLayer")]
  resolved := Array.replicate 834 none
  statics := none }

def pool5 : Array CpInfo := pool [(1, u "java/lang/Cloneable"), (0, .class_ 1), (0, u "java/lang/Object"), (0, .class_ 3)] 3

/-- java/lang/Cloneable -/
def k5 : Class := { plain "java/lang/Cloneable" (some 0) with
  accessFlags := 1537
  interfaces := #[]
  cf := some (fileOf pool5 2 #[] #[] 1537 4 #[] #[])
  fields := #[]
  methods := #[]
  instanceTypes := #[]
  staticTypes := #[]
  resolved := Array.replicate 8 none
  statics := none }

def pool6 : Array CpInfo := pool [(1, u "java/io/Serializable"), (0, .class_ 1), (0, u "java/lang/Object"), (0, .class_ 3)] 3

/-- java/io/Serializable -/
def k6 : Class := { plain "java/io/Serializable" (some 0) with
  accessFlags := 1537
  interfaces := #[]
  cf := some (fileOf pool6 2 #[] #[] 1537 4 #[] #[])
  fields := #[]
  methods := #[]
  instanceTypes := #[]
  staticTypes := #[]
  resolved := Array.replicate 8 none
  statics := none }

/-- the primitive byte -/
def k7 : Class := { plain "byte" none with kind := .primitive 'B', accessFlags := 0x411 }
/-- [B -/
def k8 : Class := { plain "[B" (some 0) with kind := .array 7 .byte, interfaces := #[5, 6], accessFlags := 1041 }

/-- the primitive int -/
def k9 : Class := { plain "int" none with kind := .primitive 'I', accessFlags := 0x411 }
/-- [I -/
def k10 : Class := { plain "[I" (some 0) with kind := .array 9 .int, interfaces := #[5, 6], accessFlags := 1041 }

def heap : Heap := #[]
def classes : Array Class := #[k0, k1, k2, k3, k4, k5, k6, k7, k8, k9, k10]
def interned : List (Array UInt16 × Addr) := []
def slotsUsed : Nat := 0
def theMethod : MethodId := ⟨1, 1⟩
def args0 : Array Value := #[.int 5, .int 7, .int 1, .int 2, .int 3]
def aboutOver (below : List Frame) : State where
  vm := { classes := classes, interned := interned.toArray }
  heap := heap
  slotsUsed := slotsUsed
  threads := #[{ frames := .invoking theMethod args0 :: below }]
def below0 : List Frame := [.native { method := ⟨0, 0⟩, args := #[] }]
def about1 : State := aboutOver below0
def p0 : Program := .bare "" "" ""
def e0 : Env := launch0.env 0 0 0
theorem w_frames : about1.frames = Frame.invoking theMethod args0 :: below0 := rfl
set_option maxRecDepth 65536 in
theorem w_args : argsFit about1.vm theMethod args0 = true := by decide +kernel
set_option maxRecDepth 65536 in
theorem w_heap : heapFits about1 = true := by decide +kernel
set_option maxRecDepth 65536 in
theorem w_runnable : about1.curStatus? = some .runnable := by decide +kernel
set_option maxRecDepth 65536 in
theorem w_alone : about1.alone = true := by decide +kernel
set_option maxRecDepth 65536 in
theorem w_named : about1.methodNamed? x = some theMethod := by decide +kernel
set_option maxRecDepth 65536 in
theorem w_hears : about1.hears theMethod below0 = true := by decide +kernel
set_option maxRecDepth 65536 in
theorem w_ripe : about1.ripe theMethod args0 below0 = true := by decide +kernel
theorem w_running : about1.status = .running := rfl
set_option maxRecDepth 65536 in
theorem w_room : about1.hasRoom e0.platform room_1 = true :=
  launch0.hasRoom_least _ room_1 (by decide +kernel) (by decide +kernel) (by decide +kernel) (by decide +kernel) (by decide +kernel) (by decide +kernel)
theorem allAtoms_all (ts : List Jvm.Cond) (a : Array Jvm.Value) (st : Jvm.State) : (allAtoms ts).before a st = ts.all (fun c => c.before a st) := by
  induction ts with
  | nil => rfl
  | cons c t ih =>
    show (Jvm.Cond.and c (allAtoms t)).before a st = _
    rw [Jvm.Cond.before_and, ih, List.all_cons]
def words1 : List Jvm.Cond := Jvm.Cond.code x code maxLocals ret :: tables_1
/-- a 'code' word, met by the world's own term for the bytes: nothing is compared byte by byte -/
theorem code_word {y : MethodName} {bytes : ByteArray} {mx : Nat} {rt : Option FieldType} {a : Array Value} {s : State} {m : MethodId} {meth : Method} {c : Code} (h1 : s.methodNamed? y = some m) (h2 : s.vm.method? m = some meth) (h3 : meth.code = some c) (h4 : c.code = bytes)
    (h5 : (c.maxLocals == mx && c.exceptionTable.isEmpty && decide (c.maxStack ≤ mostOperands) && decide (meth.sig.returnType = rt) && !meth.locks && decide (parseMethodDescriptor y.desc = some meth.sig)) = true) : (Jvm.Cond.code y bytes mx rt).before a s = true := by
  simp only [Bool.and_eq_true, beq_iff_eq, Bool.not_eq_true', decide_eq_true_eq] at h5
  obtain ⟨⟨⟨⟨⟨g1, g2⟩, g3⟩, g4⟩, g5⟩, g6⟩ := h5
  simp [Cond.before, Cond.holds, Cond.value, h1, h2, h3, h4, g1, g2, g3, g4, g5, g6]
def isCode : Jvm.Cond → Bool
  | .code _ _ _ _ => true
  | _ => false
theorem all_split {L : List Jvm.Cond} {P : Jvm.Cond → Bool} (h1 : L.all (fun c => isCode c || P c) = true) (h2 : ∀ c ∈ L.filter isCode, P c = true) : L.all P = true := by
  refine List.all_eq_true.mpr fun c hc => ?_
  have h := List.all_eq_true.mp h1 c hc
  rcases Bool.eq_false_or_eq_true (isCode c) with hi | hi
  · exact h2 c (List.mem_filter.mpr ⟨hc, hi⟩)
  · simpa [hi] using h
set_option maxRecDepth 65536 in
theorem w_c0 : (Jvm.Cond.code x code maxLocals ret).before args0 about1 = true := code_word (m := ⟨1, 1⟩) (meth := k1m1) (c := k1c1) (by decide +kernel) rfl rfl rfl (by decide +kernel)
set_option maxRecDepth 65536 in
theorem w_c1 : (Jvm.Cond.code ({ cls := "com/example/surfwalk/surfwalk/Surfer$Paths", name := "<init>", desc := "()V" } : Jvm.MethodName) prog_36_method_1_code (1 : Nat) (Option.none : Option Jvm.ClassFile.FieldType)).before args0 about1 = true := code_word (m := ⟨3, 0⟩) (meth := k3m0) (c := k3c0) (by decide +kernel) rfl rfl rfl (by decide +kernel)
set_option maxRecDepth 65536 in
theorem w_c2 : (Jvm.Cond.code ({ cls := "java/lang/Object", name := "<init>", desc := "()V" } : Jvm.MethodName) object_method_1_code (1 : Nat) (Option.none : Option Jvm.ClassFile.FieldType)).before args0 about1 = true := code_word (m := ⟨0, 0⟩) (meth := k0m0) (c := k0c0) (by decide +kernel) rfl rfl rfl (by decide +kernel)
set_option maxRecDepth 65536 in
theorem w_c3 : (Jvm.Cond.code ({ cls := "com/example/surfwalk/surfwalk/Surfer$Paths", name := "end", desc := "(I)I" } : Jvm.MethodName) prog_36_method_6_code (2 : Nat) (Option.some Jvm.ClassFile.FieldType.int)).before args0 about1 = true := code_word (m := ⟨3, 2⟩) (meth := k3m2) (c := k3c2) (by decide +kernel) rfl rfl rfl (by decide +kernel)
set_option maxRecDepth 65536 in
theorem w_c4 : (Jvm.Cond.code ({ cls := "com/example/surfwalk/surfwalk/Surfer$Paths", name := "addWalk", desc := "([IILjava/util/SplittableRandom;)V" } : Jvm.MethodName) prog_36_method_2_code (5 : Nat) (Option.none : Option Jvm.ClassFile.FieldType)).before args0 about1 = true := code_word (m := ⟨3, 1⟩) (meth := k3m1) (c := k3c1) (by decide +kernel) rfl rfl rfl (by decide +kernel)
def codes1 : List Jvm.Cond := [Jvm.Cond.code x code maxLocals ret, Jvm.Cond.code ({ cls := "com/example/surfwalk/surfwalk/Surfer$Paths", name := "<init>", desc := "()V" } : Jvm.MethodName) prog_36_method_1_code (1 : Nat) (Option.none : Option Jvm.ClassFile.FieldType), Jvm.Cond.code ({ cls := "java/lang/Object", name := "<init>", desc := "()V" } : Jvm.MethodName) object_method_1_code (1 : Nat) (Option.none : Option Jvm.ClassFile.FieldType), Jvm.Cond.code ({ cls := "com/example/surfwalk/surfwalk/Surfer$Paths", name := "end", desc := "(I)I" } : Jvm.MethodName) prog_36_method_6_code (2 : Nat) (Option.some Jvm.ClassFile.FieldType.int), Jvm.Cond.code ({ cls := "com/example/surfwalk/surfwalk/Surfer$Paths", name := "addWalk", desc := "([IILjava/util/SplittableRandom;)V" } : Jvm.MethodName) prog_36_method_2_code (5 : Nat) (Option.none : Option Jvm.ClassFile.FieldType)]
set_option maxRecDepth 65536 in
theorem codes_eq : words1.filter isCode = codes1 := rfl
theorem w_codes : ∀ c ∈ words1.filter isCode, c.before args0 about1 = true := by
  rw [codes_eq]
  intro c hc
  simp only [codes1, List.mem_cons, List.not_mem_nil, or_false] at hc
  rcases hc with rfl | rfl | rfl | rfl | rfl
  · exact w_c0
  · exact w_c1
  · exact w_c2
  · exact w_c3
  · exact w_c4
set_option maxRecDepth 65536 in
theorem w_t1 : (words1.take 24).all (fun c => isCode c || c.before args0 about1) = true := by decide +kernel
set_option maxRecDepth 65536 in
theorem w_t2 : (words1.drop 24).all (fun c => isCode c || c.before args0 about1) = true := by decide +kernel
theorem w_tables : (allAtoms (Jvm.Cond.code x code maxLocals ret :: tables_1)).before args0 about1 = true := by
  rw [allAtoms_all]
  show words1.all (fun c => c.before args0 about1) = true
  refine all_split ?_ w_codes
  rw [← List.take_append_drop 24 words1, List.all_append, w_t1, w_t2]
  rfl
set_option maxRecDepth 65536 in
theorem w_case : (Jvm.Cond.and given_1 narrow_1).before args0 about1 = true := by decide +kernel
theorem w_applies : (headSpec (Jvm.Cond.code x code maxLocals ret :: tables_1) room_1).applies x e0.platform about1 = true :=
  (Spec.applies_iff w_frames).mpr ⟨w_running, w_runnable, w_alone, w_named, w_hears, w_ripe, w_room, w_tables⟩
theorem atStart : AtStart classFile x code maxLocals ret World_1 tables_1 room_1 Calls_1 rest_1 Pre_1 launch0 p0 e0 about1 theMethod args0 below0 :=
  ⟨lists_1, trivial, launch0.admits_env _ _ _, launch0.least_env, fairChoices_fair.cas, fairChoices_fair.clock, w_frames, w_args, w_heap, w_applies, trivial, trivial, w_case⟩
end start1
theorem witness_1 : WitnessClaimed_1 := ⟨start1.p0, start1.e0, start1.about1, start1.theMethod, start1.args0, start1.below0, start1.atStart⟩
end Jvm.Pilot.@@N@@
