import JvmDerived
import JvmDerived.Pilot.@@N@@Statement
import JvmDerived.Pilot.@@N@@Code
set_option linter.unusedVariables false
set_option linter.unusedSimpArgs false
namespace Jvm.RoadKit
open Sem ClassFile Op Lib Jvm.Stand Jvm.Free Jvm.LawKit
section New
variable {p : Program} {l : Launch} {e : Env} {R : Room} {s : State} {m : MethodId} {args : Array Value} {below : List Frame} {meth : Method} {c : Code} {T : State} {locs : List Loc} {cells slots : Nat}
theorem retI (X : Stand p l e R s m args below meth c T locs cells slots) (hx : p.tables.exec = Jvm.exec) {pc : Nat} {Ls : Array Slot} {z : Int32} {rest : List Value} (hret : meth.sig.returnType = some .int) (hd : decode c.code pc = .ok (.ireturn, 1)) {fs : List Frame}
    (hl : ∀ (f : JFrame) (acts : List Action), f.method = m → f.locked = none → f.entered = [] → (doReturn e (T.setTop f) acts (some (.int z))).1 = T.setFrames fs) : Steps p.tables e below (T.setTop (mkF m pc Ls (.int z :: rest))) (T.setFrames fs) := by
  have hm' : T.vm.method? m = some meth := X.method'
  have hn : narrow .int (.int z) = .int z := rfl
  show Steps p.tables e below (T.setTop { method := m, pc := pc, locals := Ls, stack := _ :: rest, locked := none }) _
  jvm_step X.here [X.here.top, hx, hd, hm', hret, hn]
  first | (intro acts; rw [hl _ acts rfl rfl rfl]) | rw [hl _ _ rfl rfl rfl]
  exact Steps.refl _
end New
end Jvm.RoadKit
namespace Jvm.Pilot.@@N@@
open Jvm Jvm.ClassFile Sem Op Lib Jvm.Free Jvm.Stand Jvm.LawKit Jvm.RoadKit Bundle Jvm.Pilot.@@N@@.Jvm.D
theorem d1_0 : decode prog_7_method_2_code 0 = .ok (.lload_n 0, 1) := by decide +kernel
theorem d1_1 : decode prog_7_method_2_code 1 = .ok (.lconst 0, 1) := by decide +kernel
theorem d1_2 : decode prog_7_method_2_code 2 = .ok (.lcmp, 1) := by decide +kernel
theorem d1_3 : decode prog_7_method_2_code 3 = .ok (.ifCond .ne 7, 3) := by decide +kernel
theorem d1_6 : decode prog_7_method_2_code 6 = .ok (.iconst 1, 1) := by decide +kernel
theorem d1_7 : decode prog_7_method_2_code 7 = .ok (.goto 13, 3) := by decide +kernel
theorem d1_20 : decode prog_7_method_2_code 20 = .ok (.ireturn, 1) := by decide +kernel
theorem pn_1 : plainName "com/example/graticule/graticule/blobs/BlockSums" = true := by first | (simp [plainName, overriddenIn]; done) | decide +kernel
theorem ef_1 (m : MethodId) (x0 : Int64) : entryFrame m #[(.long x0)] 2 = mkF m 0 #[.val (.long x0), .second] [] := by first | (simp [entryFrame, mkF, argsToLocals, Value.category]; done) | rfl
theorem d1_10 : decode prog_7_method_2_code 10 = .ok (.lload_n 0, 1) := by decide +kernel
theorem d1_11 : decode prog_7_method_2_code 11 = .ok (.lconst 1, 1) := by decide +kernel
theorem d1_12 : decode prog_7_method_2_code 12 = .ok (.lsub, 1) := by decide +kernel
theorem d1_13 : decode prog_7_method_2_code 13 = .ok (.ldc2_w 13, 3) := by decide +kernel
theorem d1_16 : decode prog_7_method_2_code 16 = .ok (.ldiv, 1) := by decide +kernel
theorem d1_17 : decode prog_7_method_2_code 17 = .ok (.lconst 1, 1) := by decide +kernel
theorem d1_18 : decode prog_7_method_2_code 18 = .ok (.ladd, 1) := by decide +kernel
theorem d1_19 : decode prog_7_method_2_code 19 = .ok (.l2i, 1) := by decide +kernel
def Q1 (r : Int32) (h0 : Heap) (n0 : Nat) (v : Option Value) (h : Heap) (L : List Loc) : Prop := v = some (.int r) ∧ Fr n0 L ∧ h = h0
set_option maxRecDepth 65536 in
set_option maxHeartbeats 40000000 in
theorem rm1 (l : Launch) (Z : State) (a0 : Array Value) (hw : ∀ d ∈ tables_1, d.before a0 Z = true) (ws : List Jvm.Cond) (q1 : Int64) (r : Int32) (h0 : Heap) (n0 : Nat) (Z0 : n0 ≤ h0.size) (hr0 : r = if (lcmpW q1 (0 : Int64)) = (0 : Int32) then (1 : Int32) else ((((q1 - (1 : Int64)) / (1048576 : Int64)) + (1 : Int64)).toInt32)) :
    MetFree l (⟨"com/example/graticule/graticule/blobs/BlockSums", "blocks", "(J)I"⟩ : MethodName) (head1 (Jvm.Cond.code (⟨"com/example/graticule/graticule/blobs/BlockSums", "blocks", "(J)I"⟩ : MethodName) prog_7_method_2_code 2 (some .int) :: ws) ({ frames := 0, cells := 0, slots := 0, locals := 0 } : Room)) (fun a U => a = #[(.long q1)] ∧ Z.Warmed39 U.vm ∧ U.heap = h0) (fun _ _ _ _ _ => True) (fun _ U o U' => ∃ v L, o = .returned v ∧ Q1 r h0 n0 v U'.heap L ∧ FrameEnd U o U' L ({ frames := 0, cells := 0, slots := 0, locals := 0 } : Room).cells ({ frames := 0, cells := 0, slots := 0, locals := 0 } : Room).slots) := by
  by_cases hc3 : (lcmpW q1 (0 : Int64)) = (0 : Int32)
  · rw [show r = (1 : Int32) by rw [hr0, if_pos hc3]]
    refine MetFree.of_bodySF (plainFor_of_name pn_1) hisR ?_
    intro p e s m args below meth c s₁ Bd hml0 hP hK
    obtain ⟨rfl, hZ, hh⟩ := hP
    have hx := Bd.exec
    have hby := Bd.bytes
    have hml : c.maxLocals = 2 := hml0
    have hown : s.vm.findClass "com/example/graticule/graticule/blobs/BlockSums" = some m.cls := findClass_of_methodNamed Bd.named
    have hnm := (name_of_methodNamed Bd.named Bd.method).1
    have X0 : Stand p l e ({ frames := 0, cells := 0, slots := 0, locals := 0 } : Room) s m #[(.long q1)] below meth c s₁ [] 0 0 := Stand.of_body Bd
    have e0 : s₁.heap = h0 := by rw [← hh, Bd.state]; rfl
    have N0 := Fr.nil n0
    have pre0 : ∀ t, Steps p.tables e below (s₁.setTop (mkF m 0 #[.val (.long q1), .second] [])) t → Steps p.tables e below (s₁.setTop (entryFrame m #[(.long q1)] 2)) t := fun t k => castTop (ef_1 m q1) k
    obtain ⟨fs, hr, hrun, hended, hW, hsame⟩ := X0.leave (v := some (.int (1 : Int32))) (fun h => by rw [Bd.returns] at h; cases h)
    refine ⟨_, _, pre0 _ ?_, hrun, hended, _, _, rfl, ?_, ⟨_, rfl⟩, hW, hsame.mono (by decide) (by decide)⟩
    · show Steps p.tables e below (s₁.setTop (mkF m 0 #[.val (.long q1), .second] [])) _
      refine XS.lloadN X0.here hx rfl (hb hby d1_0) rfl ?_
      show Steps p.tables e below (s₁.setTop (mkF m 1 #[.val (.long q1), .second] [(.long q1)])) _
      refine XS.lconst X0.here hx rfl (hb hby d1_1) ?_
      show Steps p.tables e below (s₁.setTop (mkF m 2 #[.val (.long q1), .second] [(.long (0 : Int64)), (.long q1)])) _
      refine XS.lcmp X0.here hx rfl (hb hby d1_2) rfl ?_
      show Steps p.tables e below (s₁.setTop (mkF m 3 #[.val (.long q1), .second] [(.int (lcmpW q1 (0 : Int64)))])) _
      refine XS.ifNo X0.here hx rfl (hb hby d1_3) rfl ((if0 _ _).trans (teq hc3).2) ?_
      show Steps p.tables e below (s₁.setTop (mkF m 6 #[.val (.long q1), .second] [])) _
      refine XS.iconst X0.here hx rfl (hb hby d1_6) ?_
      show Steps p.tables e below (s₁.setTop (mkF m 7 #[.val (.long q1), .second] [(.int (1 : Int32))])) _
      refine XS.goto X0.here hx rfl (pc0 := 7) (pc' := 20) rfl (hb hby d1_7) (by decide) (by decide) ?_
      show Steps p.tables e below (s₁.setTop (mkF m 20 #[.val (.long q1), .second] [(.int (1 : Int32))])) _
      exact retI X0 hx Bd.returns (hb hby d1_20) hr
    · show Q1 _ h0 n0 _ s₁.heap _
      rw [e0]
      exact ⟨rfl, N0, rfl⟩
  · rw [show r = ((((q1 - (1 : Int64)) / (1048576 : Int64)) + (1 : Int64)).toInt32) by rw [hr0, if_neg hc3]]
    have hnz16 : ¬ ((1048576 : Int64) = (0 : Int64)) := by decide
    refine MetFree.of_bodySF (plainFor_of_name pn_1) hisR ?_
    intro p e s m args below meth c s₁ Bd hml0 hP hK
    obtain ⟨rfl, hZ, hh⟩ := hP
    have hx := Bd.exec
    have hby := Bd.bytes
    have hml : c.maxLocals = 2 := hml0
    have hown : s.vm.findClass "com/example/graticule/graticule/blobs/BlockSums" = some m.cls := findClass_of_methodNamed Bd.named
    have hnm := (name_of_methodNamed Bd.named Bd.method).1
    have X0 : Stand p l e ({ frames := 0, cells := 0, slots := 0, locals := 0 } : Room) s m #[(.long q1)] below meth c s₁ [] 0 0 := Stand.of_body Bd
    have e0 : s₁.heap = h0 := by rw [← hh, Bd.state]; rfl
    have N0 := Fr.nil n0
    have pre0 : ∀ t, Steps p.tables e below (s₁.setTop (mkF m 0 #[.val (.long q1), .second] [])) t → Steps p.tables e below (s₁.setTop (entryFrame m #[(.long q1)] 2)) t := fun t k => castTop (ef_1 m q1) k
    obtain ⟨fs, hr, hrun, hended, hW, hsame⟩ := X0.leave (v := some (.int ((((q1 - (1 : Int64)) / (1048576 : Int64)) + (1 : Int64)).toInt32))) (fun h => by rw [Bd.returns] at h; cases h)
    refine ⟨_, _, pre0 _ ?_, hrun, hended, _, _, rfl, ?_, ⟨_, rfl⟩, hW, hsame.mono (by decide) (by decide)⟩
    · show Steps p.tables e below (s₁.setTop (mkF m 0 #[.val (.long q1), .second] [])) _
      refine XS.lloadN X0.here hx rfl (hb hby d1_0) rfl ?_
      show Steps p.tables e below (s₁.setTop (mkF m 1 #[.val (.long q1), .second] [(.long q1)])) _
      refine XS.lconst X0.here hx rfl (hb hby d1_1) ?_
      show Steps p.tables e below (s₁.setTop (mkF m 2 #[.val (.long q1), .second] [(.long (0 : Int64)), (.long q1)])) _
      refine XS.lcmp X0.here hx rfl (hb hby d1_2) rfl ?_
      show Steps p.tables e below (s₁.setTop (mkF m 3 #[.val (.long q1), .second] [(.int (lcmpW q1 (0 : Int64)))])) _
      refine XS.ifYes X0.here hx rfl (pc0 := 3) (pc' := 10) rfl (hb hby d1_3) rfl ((if0 _ _).trans (feq hc3).2) (by decide) (by decide) ?_
      show Steps p.tables e below (s₁.setTop (mkF m 10 #[.val (.long q1), .second] [])) _
      refine XS.lloadN X0.here hx rfl (hb hby d1_10) rfl ?_
      show Steps p.tables e below (s₁.setTop (mkF m 11 #[.val (.long q1), .second] [(.long q1)])) _
      refine XS.lconst X0.here hx rfl (hb hby d1_11) ?_
      show Steps p.tables e below (s₁.setTop (mkF m 12 #[.val (.long q1), .second] [(.long (1 : Int64)), (.long q1)])) _
      refine XS.lsub X0.here hx rfl (hb hby d1_12) rfl ?_
      show Steps p.tables e below (s₁.setTop (mkF m 13 #[.val (.long q1), .second] [(.long (q1 - (1 : Int64)))])) _
      refine X0.ldc2Long hx hown (mvT hZ (hw _ (List.mem_of_getElem? (i := 6) rfl))) (g := (mkF m 13 #[.val (.long q1), .second] [(.long (q1 - (1 : Int64)))])) rfl (hb hby d1_13) _ ?_
      show Steps p.tables e below (s₁.setTop (mkF m 16 #[.val (.long q1), .second] [(.long (1048576 : Int64)), (.long (q1 - (1 : Int64)))])) _
      refine XS.ldiv X0.here hx rfl (hb hby d1_16) rfl hnz16 ?_
      show Steps p.tables e below (s₁.setTop (mkF m 17 #[.val (.long q1), .second] [(.long ((q1 - (1 : Int64)) / (1048576 : Int64)))])) _
      refine XS.lconst X0.here hx rfl (hb hby d1_17) ?_
      show Steps p.tables e below (s₁.setTop (mkF m 18 #[.val (.long q1), .second] [(.long (1 : Int64)), (.long ((q1 - (1 : Int64)) / (1048576 : Int64)))])) _
      refine XS.ladd X0.here hx rfl (hb hby d1_18) rfl ?_
      show Steps p.tables e below (s₁.setTop (mkF m 19 #[.val (.long q1), .second] [(.long (((q1 - (1 : Int64)) / (1048576 : Int64)) + (1 : Int64)))])) _
      refine XS.l2i X0.here hx rfl (hb hby d1_19) rfl ?_
      show Steps p.tables e below (s₁.setTop (mkF m 20 #[.val (.long q1), .second] [(.int ((((q1 - (1 : Int64)) / (1048576 : Int64)) + (1 : Int64)).toInt32))])) _
      exact retI X0 hx Bd.returns (hb hby d1_20) hr
    · show Q1 _ h0 n0 _ s₁.heap _
      rw [e0]
      exact ⟨rfl, N0, rfl⟩
theorem own_pred {sz : Int64} (h : 1 ≤ sz.toInt) : (sz - (1 : Int64)).toInt = sz.toInt - 1 := by
  have e1 : (1 : Int64).toInt = 1 := rfl
  have h1 := c_lsub sz 1
  have h1r := rng64 (sz - 1)
  have hsz := rng64 sz
  omega
theorem own_quot {sz : Int64} (h : 1 ≤ sz.toInt) : ((sz - (1 : Int64)) / (1048576 : Int64)).toInt = (sz.toInt - 1) / 1048576 := by
  have h2 := (c_ldiv (sz - 1) 1048576 1048576 rfl (by decide)).1
  rw [own_pred h] at h2
  exact h2 (by omega)
theorem own_bl {sz : Int64} {r : Int32} (hr : r = ((((sz - (1 : Int64)) / (1048576 : Int64)) + (1 : Int64)).toInt32)) (h : 1 ≤ sz.toInt) (hm : sz.toInt ≤ 2251799812636672) : r.toInt = (sz.toInt - 1) / 1048576 + 1 := by
  have e1 : (1 : Int64).toInt = 1 := rfl
  have h3 := c_ladd ((sz - 1) / 1048576) 1
  have h3r := rng64 ((sz - 1) / 1048576 + 1)
  rw [own_quot h, e1] at h3
  have h4 := c_l2i ((sz - 1) / 1048576 + 1)
  rw [← hr] at h4
  have h4r := rng32 r
  clear hr
  omega
theorem own_lo {q : Int} {k : Int32} (hq : k.toInt = q) (h0 : 0 ≤ q) (h1 : q ≤ 2147483648) : (k.toInt64 * (1048576 : Int64)).toInt = q * 1048576 := by
  have eB : (1048576 : Int64).toInt = 1048576 := rfl
  have h8 := c_lmul k.toInt64 1048576
  have h8r := rng64 (k.toInt64 * 1048576)
  rw [c_i2l, hq, eB] at h8
  omega
theorem own_blocks0 {sz : Int64} {r : Int32} (hr : r = if (lcmpW sz (0 : Int64)) = (0 : Int32) then (1 : Int32) else ((((sz - (1 : Int64)) / (1048576 : Int64)) + (1 : Int64)).toInt32)) (h : (lcmpW sz (0 : Int64)) = (0 : Int32)) : r = (1 : Int32) := by
  rw [hr, if_pos h]
theorem own_blocks1 {sz : Int64} {r : Int32} (hr : r = if (lcmpW sz (0 : Int64)) = (0 : Int32) then (1 : Int32) else ((((sz - (1 : Int64)) / (1048576 : Int64)) + (1 : Int64)).toInt32)) (h0 : 0 ≤ sz.toInt) (h : ¬ (lcmpW sz (0 : Int64)) = (0 : Int32)) (hm : ¬ (0 : Int32) < lcmpW sz (2251799812636672 : Int64)) :
    ¬ r < (1 : Int32) ∧ lcmpW ((r - (1 : Int32)).toInt64 * (1048576 : Int64)) sz < (0 : Int32) ∧ ¬ (0 : Int32) < lcmpW sz (r.toInt64 * (1048576 : Int64)) := by
  have e0 : (0 : Int64).toInt = 0 := rfl
  have eM : (2251799812636672 : Int64).toInt = 2251799812636672 := rfl
  have i1 : (1 : Int32).toInt = 1 := rfl
  rw [if_neg h] at hr
  rw [lw_eq, ← Int64.toInt_inj, e0] at h
  rw [lw_gt, Int64.lt_iff_toInt_lt, eM] at hm
  have d3 := own_bl hr (by omega) (by omega)
  clear hr
  have h5 := c_isub r 1
  have h5r := rng32 (r - 1)
  have d5 : (r - 1).toInt = (sz.toInt - 1) / 1048576 := by omega
  have d8 := own_lo d5 (by omega) (by omega)
  have d9 := own_lo d3 (by omega) (by omega)
  clear h5 h5r
  refine ⟨?_, ?_, ?_⟩
  · rw [Int32.lt_iff_toInt_lt]; omega
  · rw [lw_lt, Int64.lt_iff_toInt_lt]; omega
  · rw [lw_gt, Int64.lt_iff_toInt_lt]; omega
theorem pn_0 : plainName "com/example/graticule/graticule/blobs/BlockSumsBlocksPinLaw" = true := by first | (simp [plainName, overriddenIn]; done) | decide +kernel
theorem ef_0 (m : MethodId) (x0 : Int64) (x1 : Int32) : entryFrame m #[(.long x0), (.int x1)] maxLocals = mkF m 0 #[.val (.long x0), .second, .val (.int x1), .unset, .unset, .unset, .unset, .unset, .unset, .unset] [] := by first | (simp [entryFrame, mkF, argsToLocals, Value.category, maxLocals]; done) | rfl
theorem pd_0_0 : parseMethodDescriptor "(J)I" = some ⟨[.long], some .int⟩ := by decide +kernel
def Q0 (Z : State) (q1 : Int64) (p2 : Int32) (h0 : Heap) (n0 : Nat) (v : Option Value) (h : Heap) (L : List Loc) : Prop := v = some (.int (1 : Int32)) ∧ Fr n0 L
set_option maxRecDepth 65536 in
set_option maxHeartbeats 40000000 in
theorem rm0 (l : Launch) (Z : State) (a0 : Array Value) (hw : ∀ d ∈ tables_1, d.before a0 Z = true) (ws : List Jvm.Cond) (q1 : Int64) (p2 : Int32) (h0 : Heap) (n0 : Nat) (Z0 : n0 ≤ h0.size) :
    MetFree l x (head1 (Jvm.Cond.code x code maxLocals ret :: ws) room_1) (fun a U => a = #[(.long q1), (.int p2)] ∧ Z.Warmed39 U.vm ∧ U.heap = h0) (fun _ _ _ _ _ => True) (fun _ U o U' => ∃ v L, o = .returned v ∧ Q0 Z q1 p2 h0 n0 v U'.heap L ∧ FrameEnd U o U' L room_1.cells room_1.slots) := by
  refine MetFree.of_bodySF (plainFor_of_name pn_0) hisR ?_
  intro p e s m args below meth c s₁ Bd hml0 hP hK
  obtain ⟨rfl, hZ, hh⟩ := hP
  have hx := Bd.exec
  have hby := Bd.bytes
  have hml : c.maxLocals = 10 := hml0
  have hown : s.vm.findClass "com/example/graticule/graticule/blobs/BlockSumsBlocksPinLaw" = some m.cls := findClass_of_methodNamed Bd.named
  have hnm := (name_of_methodNamed Bd.named Bd.method).1
  have X0 : Stand p l e room_1 s m #[(.long q1), (.int p2)] below meth c s₁ [] 0 0 := Stand.of_body Bd
  have e0 : s₁.heap = h0 := by rw [← hh, Bd.state]; rfl
  have N0 := Fr.nil n0
  have pre0 : ∀ t, Steps p.tables e below (s₁.setTop (mkF m 0 #[.val (.long q1), .second, .val (.int p2), .unset, .unset, .unset, .unset, .unset, .unset, .unset] [])) t → Steps p.tables e below (s₁.setTop (entryFrame m #[(.long q1), (.int p2)] maxLocals)) t := fun t k => castTop (ef_0 m q1 p2) k
  by_cases hc9 : (p2 &&& (1 : Int32)) = (0 : Int32)
  · obtain ⟨sz, hsz, pre1⟩ : ∃ sz : Int64, 0 ≤ sz.toInt ∧ (∀ t, Steps p.tables e below (s₁.setTop (mkF m 43 #[.val (.long q1), .second, .val (.int p2), .val (.long sz), .second, .unset, .unset, .unset, .unset, .unset] [])) t → Steps p.tables e below (s₁.setTop (mkF m 0 #[.val (.long q1), .second, .val (.int p2), .unset, .unset, .unset, .unset, .unset, .unset, .unset] [])) t) := by
      refine ⟨(q1 &&& (2251799813685247 : Int64)), ?_, fun t kt => ?_⟩
      rotate_left
      · show Steps p.tables e below (s₁.setTop (mkF m 0 #[.val (.long q1), .second, .val (.int p2), .unset, .unset, .unset, .unset, .unset, .unset, .unset] [])) _
        refine XS.lloadN X0.here hx rfl (hb hby at_0) rfl ?_
        show Steps p.tables e below (s₁.setTop (mkF m 1 #[.val (.long q1), .second, .val (.int p2), .unset, .unset, .unset, .unset, .unset, .unset, .unset] [(.long q1)])) _
        refine X0.ldc2Long hx hown (mvT hZ (hw _ (List.mem_of_getElem? (i := 0) rfl))) (g := (mkF m 1 #[.val (.long q1), .second, .val (.int p2), .unset, .unset, .unset, .unset, .unset, .unset, .unset] [(.long q1)])) rfl (hb hby at_1) _ ?_
        show Steps p.tables e below (s₁.setTop (mkF m 4 #[.val (.long q1), .second, .val (.int p2), .unset, .unset, .unset, .unset, .unset, .unset, .unset] [(.long (2251799813685247 : Int64)), (.long q1)])) _
        refine XS.land X0.here hx rfl (hb hby at_4) rfl ?_
        show Steps p.tables e below (s₁.setTop (mkF m 5 #[.val (.long q1), .second, .val (.int p2), .unset, .unset, .unset, .unset, .unset, .unset, .unset] [(.long (q1 &&& (2251799813685247 : Int64)))])) _
        refine XS.lstoreN X0.here hx rfl (hb hby at_5) rfl (l' := #[.val (.long q1), .second, .val (.int p2), .val (.long (q1 &&& (2251799813685247 : Int64))), .second, .unset, .unset, .unset, .unset, .unset]) rfl ?_
        show Steps p.tables e below (s₁.setTop (mkF m 6 #[.val (.long q1), .second, .val (.int p2), .val (.long (q1 &&& (2251799813685247 : Int64))), .second, .unset, .unset, .unset, .unset, .unset] [])) _
        refine XS.iloadN X0.here hx rfl (hb hby at_6) rfl ?_
        show Steps p.tables e below (s₁.setTop (mkF m 7 #[.val (.long q1), .second, .val (.int p2), .val (.long (q1 &&& (2251799813685247 : Int64))), .second, .unset, .unset, .unset, .unset, .unset] [(.int p2)])) _
        refine XS.iconst X0.here hx rfl (hb hby at_7) ?_
        show Steps p.tables e below (s₁.setTop (mkF m 8 #[.val (.long q1), .second, .val (.int p2), .val (.long (q1 &&& (2251799813685247 : Int64))), .second, .unset, .unset, .unset, .unset, .unset] [(.int (1 : Int32)), (.int p2)])) _
        refine XS.iand X0.here hx rfl (hb hby at_8) rfl ?_
        show Steps p.tables e below (s₁.setTop (mkF m 9 #[.val (.long q1), .second, .val (.int p2), .val (.long (q1 &&& (2251799813685247 : Int64))), .second, .unset, .unset, .unset, .unset, .unset] [(.int (p2 &&& (1 : Int32)))])) _
        refine XS.ifYes X0.here hx rfl (pc0 := 9) (pc' := 43) rfl (hb hby at_9) rfl ((if0 _ _).trans (teq hc9).1) (by decide) (by decide) ?_
        exact kt
      · have h := c_maskL q1 2251799813685247 51 (by decide) (by decide)
        omega
    by_cases hc48 : (0 : Int32) < (lcmpW sz (2251799812636672 : Int64))
    · skip
      obtain ⟨fs, hr, hrun, hended, hW, hsame⟩ := X0.leave (v := some (.int (1 : Int32))) (fun h => by rw [Bd.returns] at h; cases h)
      refine ⟨_, _, pre0 _ (pre1 _ ?_), hrun, hended, _, _, rfl, ?_, ⟨_, rfl⟩, hW, hsame.mono (by decide) (by decide)⟩
      · show Steps p.tables e below (s₁.setTop (mkF m 43 #[.val (.long q1), .second, .val (.int p2), .val (.long sz), .second, .unset, .unset, .unset, .unset, .unset] [])) _
        refine XS.lloadN X0.here hx rfl (hb hby at_43) rfl ?_
        show Steps p.tables e below (s₁.setTop (mkF m 44 #[.val (.long q1), .second, .val (.int p2), .val (.long sz), .second, .unset, .unset, .unset, .unset, .unset] [(.long sz)])) _
        refine X0.ldc2Long hx hown (mvT hZ (hw _ (List.mem_of_getElem? (i := 1) rfl))) (g := (mkF m 44 #[.val (.long q1), .second, .val (.int p2), .val (.long sz), .second, .unset, .unset, .unset, .unset, .unset] [(.long sz)])) rfl (hb hby at_44) _ ?_
        show Steps p.tables e below (s₁.setTop (mkF m 47 #[.val (.long q1), .second, .val (.int p2), .val (.long sz), .second, .unset, .unset, .unset, .unset, .unset] [(.long (2251799812636672 : Int64)), (.long sz)])) _
        refine XS.lcmp X0.here hx rfl (hb hby at_47) rfl ?_
        show Steps p.tables e below (s₁.setTop (mkF m 48 #[.val (.long q1), .second, .val (.int p2), .val (.long sz), .second, .unset, .unset, .unset, .unset, .unset] [(.int (lcmpW sz (2251799812636672 : Int64)))])) _
        refine XS.ifNo X0.here hx rfl (hb hby at_48) rfl ((if0 _ _).trans (tlt hc48).2.2.2) ?_
        show Steps p.tables e below (s₁.setTop (mkF m 51 #[.val (.long q1), .second, .val (.int p2), .val (.long sz), .second, .unset, .unset, .unset, .unset, .unset] [])) _
        refine XS.iconst X0.here hx rfl (hb hby at_51) ?_
        show Steps p.tables e below (s₁.setTop (mkF m 52 #[.val (.long q1), .second, .val (.int p2), .val (.long sz), .second, .unset, .unset, .unset, .unset, .unset] [(.int (1 : Int32))])) _
        exact retN X0 hx (t := .boolean) Bd.returns (by simp) (hb hby at_52) hr
      · show Q0 Z q1 p2 h0 n0 _ s₁.heap _
        rw [e0]
        exact ⟨rfl, N0⟩
    obtain ⟨r1, hr1⟩ : ∃ z : Int32, z = if (lcmpW sz (0 : Int64)) = (0 : Int32) then (1 : Int32) else ((((sz - (1 : Int64)) / (1048576 : Int64)) + (1 : Int64)).toInt32) := ⟨_, rfl⟩
    by_cases hc62 : (lcmpW sz (0 : Int64)) = (0 : Int32)
    · skip
      obtain ⟨_, _, ⟨T3, L3, k3, n3⟩, -, X3, ⟨Lc3, hQ3, l3, y3, z3⟩, st3⟩ := Jvm.LawKit.callS X0 hx (y := (⟨"com/example/graticule/graticule/blobs/BlockSums", "blocks", "(J)I"⟩ : MethodName)) hown (mvT hZ (hw _ (List.mem_of_getElem? (i := 2) rfl))) (mvT hZ (hw _ (List.mem_of_getElem? (i := 3) rfl))) (mvT hZ (hw _ (List.mem_of_getElem? (i := 4) rfl))) (mvT hZ (hw _ (List.mem_of_getElem? (i := 5) rfl))) (by decide) (backOf (W := 0) (rm1 l Z a0 hw [] sz r1 h0 n0 Z0 hr1) hZ (hw _ (List.mem_of_getElem? (i := 5) rfl)) (hw _ (List.mem_of_getElem? (i := 4) rfl)) (by decide) (by decide)) (g := (mkF m 54 #[.val (.long q1), .second, .val (.int p2), .val (.long sz), .second, .unset, .unset, .unset, .unset, .unset] [(.long sz)])) rfl (by rw [hml]; rfl) (argsL := [(.long sz)]) (rest := []) (lenOf pd_0_0 rfl) rfl (by show 2 * 0 + _ ≤ _; exact Nat.le_of_eq rfl) (hb hby at_54) (fun _ _ => ⟨rfl, e0, (by decide : 0 + 0 ≤ _), (by decide : 0 + 0 ≤ _)⟩)
      dsimp only [Pt.U, Pt.locs, Pt.cells, Pt.slots] at X3 l3 y3 z3 st3 hQ3
      subst l3 y3 z3
      obtain ⟨rfl, N3q, e3⟩ := hQ3
      have N3 := Fr.app N0 N3q
      obtain ⟨fs, hr, hrun, hended, hW, hsame⟩ := X3.leave (v := some (.int (1 : Int32))) (fun h => by rw [Bd.returns] at h; cases h)
      refine ⟨_, _, pre0 _ (pre1 _ ?_), hrun, hended, _, _, rfl, ?_, ⟨_, rfl⟩, hW, hsame.mono (by decide) (by decide)⟩
      · show Steps p.tables e below (s₁.setTop (mkF m 43 #[.val (.long q1), .second, .val (.int p2), .val (.long sz), .second, .unset, .unset, .unset, .unset, .unset] [])) _
        refine XS.lloadN X0.here hx rfl (hb hby at_43) rfl ?_
        show Steps p.tables e below (s₁.setTop (mkF m 44 #[.val (.long q1), .second, .val (.int p2), .val (.long sz), .second, .unset, .unset, .unset, .unset, .unset] [(.long sz)])) _
        refine X0.ldc2Long hx hown (mvT hZ (hw _ (List.mem_of_getElem? (i := 1) rfl))) (g := (mkF m 44 #[.val (.long q1), .second, .val (.int p2), .val (.long sz), .second, .unset, .unset, .unset, .unset, .unset] [(.long sz)])) rfl (hb hby at_44) _ ?_
        show Steps p.tables e below (s₁.setTop (mkF m 47 #[.val (.long q1), .second, .val (.int p2), .val (.long sz), .second, .unset, .unset, .unset, .unset, .unset] [(.long (2251799812636672 : Int64)), (.long sz)])) _
        refine XS.lcmp X0.here hx rfl (hb hby at_47) rfl ?_
        show Steps p.tables e below (s₁.setTop (mkF m 48 #[.val (.long q1), .second, .val (.int p2), .val (.long sz), .second, .unset, .unset, .unset, .unset, .unset] [(.int (lcmpW sz (2251799812636672 : Int64)))])) _
        refine XS.ifYes X0.here hx rfl (pc0 := 48) (pc' := 53) rfl (hb hby at_48) rfl ((if0 _ _).trans (flt hc48).2.2.2) (by decide) (by decide) ?_
        show Steps p.tables e below (s₁.setTop (mkF m 53 #[.val (.long q1), .second, .val (.int p2), .val (.long sz), .second, .unset, .unset, .unset, .unset, .unset] [])) _
        refine XS.lloadN X0.here hx rfl (hb hby at_53) rfl ?_
        show Steps p.tables e below (s₁.setTop (mkF m 54 #[.val (.long q1), .second, .val (.int p2), .val (.long sz), .second, .unset, .unset, .unset, .unset, .unset] [(.long sz)])) _
        refine st3 _ ?_
        show Steps p.tables e below (T3.setTop (mkF m 57 #[.val (.long q1), .second, .val (.int p2), .val (.long sz), .second, .unset, .unset, .unset, .unset, .unset] [(.int r1)])) _
        refine XS.istore X3.here hx rfl (hb hby at_57) rfl (l' := #[.val (.long q1), .second, .val (.int p2), .val (.long sz), .second, .val (.int r1), .unset, .unset, .unset, .unset]) rfl ?_
        show Steps p.tables e below (T3.setTop (mkF m 59 #[.val (.long q1), .second, .val (.int p2), .val (.long sz), .second, .val (.int r1), .unset, .unset, .unset, .unset] [])) _
        refine XS.lloadN X3.here hx rfl (hb hby at_59) rfl ?_
        show Steps p.tables e below (T3.setTop (mkF m 60 #[.val (.long q1), .second, .val (.int p2), .val (.long sz), .second, .val (.int r1), .unset, .unset, .unset, .unset] [(.long sz)])) _
        refine XS.lconst X3.here hx rfl (hb hby at_60) ?_
        show Steps p.tables e below (T3.setTop (mkF m 61 #[.val (.long q1), .second, .val (.int p2), .val (.long sz), .second, .val (.int r1), .unset, .unset, .unset, .unset] [(.long (0 : Int64)), (.long sz)])) _
        refine XS.lcmp X3.here hx rfl (hb hby at_61) rfl ?_
        show Steps p.tables e below (T3.setTop (mkF m 62 #[.val (.long q1), .second, .val (.int p2), .val (.long sz), .second, .val (.int r1), .unset, .unset, .unset, .unset] [(.int (lcmpW sz (0 : Int64)))])) _
        refine XS.ifNo X3.here hx rfl (hb hby at_62) rfl ((if0 _ _).trans (teq hc62).2) ?_
        show Steps p.tables e below (T3.setTop (mkF m 65 #[.val (.long q1), .second, .val (.int p2), .val (.long sz), .second, .val (.int r1), .unset, .unset, .unset, .unset] [])) _
        refine XS.iload X3.here hx rfl (hb hby at_65) rfl ?_
        show Steps p.tables e below (T3.setTop (mkF m 67 #[.val (.long q1), .second, .val (.int p2), .val (.long sz), .second, .val (.int r1), .unset, .unset, .unset, .unset] [(.int r1)])) _
        refine XS.iconst X3.here hx rfl (hb hby at_67) ?_
        show Steps p.tables e below (T3.setTop (mkF m 68 #[.val (.long q1), .second, .val (.int p2), .val (.long sz), .second, .val (.int r1), .unset, .unset, .unset, .unset] [(.int (1 : Int32)), (.int r1)])) _
        refine XS.icmpNo X3.here hx rfl (hb hby at_68) rfl (teq (own_blocks0 hr1 hc62)).2 ?_
        show Steps p.tables e below (T3.setTop (mkF m 71 #[.val (.long q1), .second, .val (.int p2), .val (.long sz), .second, .val (.int r1), .unset, .unset, .unset, .unset] [])) _
        refine XS.iconst X3.here hx rfl (hb hby at_71) ?_
        show Steps p.tables e below (T3.setTop (mkF m 72 #[.val (.long q1), .second, .val (.int p2), .val (.long sz), .second, .val (.int r1), .unset, .unset, .unset, .unset] [(.int (1 : Int32))])) _
        refine XS.goto X3.here hx rfl (pc0 := 72) (pc' := 76) rfl (hb hby at_72) (by decide) (by decide) ?_
        show Steps p.tables e below (T3.setTop (mkF m 76 #[.val (.long q1), .second, .val (.int p2), .val (.long sz), .second, .val (.int r1), .unset, .unset, .unset, .unset] [(.int (1 : Int32))])) _
        exact retN X3 hx (t := .boolean) Bd.returns (by simp) (hb hby at_76) hr
      · show Q0 Z q1 p2 h0 n0 _ T3.heap _
        rw [e3]
        exact ⟨rfl, N3⟩
    have hq := own_blocks1 hr1 hsz hc62 hc48
    obtain ⟨_, _, ⟨T3, L3, k3, n3⟩, -, X3, ⟨Lc3, hQ3, l3, y3, z3⟩, st3⟩ := Jvm.LawKit.callS X0 hx (y := (⟨"com/example/graticule/graticule/blobs/BlockSums", "blocks", "(J)I"⟩ : MethodName)) hown (mvT hZ (hw _ (List.mem_of_getElem? (i := 2) rfl))) (mvT hZ (hw _ (List.mem_of_getElem? (i := 3) rfl))) (mvT hZ (hw _ (List.mem_of_getElem? (i := 4) rfl))) (mvT hZ (hw _ (List.mem_of_getElem? (i := 5) rfl))) (by decide) (backOf (W := 0) (rm1 l Z a0 hw [] sz r1 h0 n0 Z0 hr1) hZ (hw _ (List.mem_of_getElem? (i := 5) rfl)) (hw _ (List.mem_of_getElem? (i := 4) rfl)) (by decide) (by decide)) (g := (mkF m 54 #[.val (.long q1), .second, .val (.int p2), .val (.long sz), .second, .unset, .unset, .unset, .unset, .unset] [(.long sz)])) rfl (by rw [hml]; rfl) (argsL := [(.long sz)]) (rest := []) (lenOf pd_0_0 rfl) rfl (by show 2 * 0 + _ ≤ _; exact Nat.le_of_eq rfl) (hb hby at_54) (fun _ _ => ⟨rfl, e0, (by decide : 0 + 0 ≤ _), (by decide : 0 + 0 ≤ _)⟩)
    dsimp only [Pt.U, Pt.locs, Pt.cells, Pt.slots] at X3 l3 y3 z3 st3 hQ3
    subst l3 y3 z3
    obtain ⟨rfl, N3q, e3⟩ := hQ3
    have N3 := Fr.app N0 N3q
    obtain ⟨fs, hr, hrun, hended, hW, hsame⟩ := X3.leave (v := some (.int (1 : Int32))) (fun h => by rw [Bd.returns] at h; cases h)
    refine ⟨_, _, pre0 _ (pre1 _ ?_), hrun, hended, _, _, rfl, ?_, ⟨_, rfl⟩, hW, hsame.mono (by decide) (by decide)⟩
    · show Steps p.tables e below (s₁.setTop (mkF m 43 #[.val (.long q1), .second, .val (.int p2), .val (.long sz), .second, .unset, .unset, .unset, .unset, .unset] [])) _
      refine XS.lloadN X0.here hx rfl (hb hby at_43) rfl ?_
      show Steps p.tables e below (s₁.setTop (mkF m 44 #[.val (.long q1), .second, .val (.int p2), .val (.long sz), .second, .unset, .unset, .unset, .unset, .unset] [(.long sz)])) _
      refine X0.ldc2Long hx hown (mvT hZ (hw _ (List.mem_of_getElem? (i := 1) rfl))) (g := (mkF m 44 #[.val (.long q1), .second, .val (.int p2), .val (.long sz), .second, .unset, .unset, .unset, .unset, .unset] [(.long sz)])) rfl (hb hby at_44) _ ?_
      show Steps p.tables e below (s₁.setTop (mkF m 47 #[.val (.long q1), .second, .val (.int p2), .val (.long sz), .second, .unset, .unset, .unset, .unset, .unset] [(.long (2251799812636672 : Int64)), (.long sz)])) _
      refine XS.lcmp X0.here hx rfl (hb hby at_47) rfl ?_
      show Steps p.tables e below (s₁.setTop (mkF m 48 #[.val (.long q1), .second, .val (.int p2), .val (.long sz), .second, .unset, .unset, .unset, .unset, .unset] [(.int (lcmpW sz (2251799812636672 : Int64)))])) _
      refine XS.ifYes X0.here hx rfl (pc0 := 48) (pc' := 53) rfl (hb hby at_48) rfl ((if0 _ _).trans (flt hc48).2.2.2) (by decide) (by decide) ?_
      show Steps p.tables e below (s₁.setTop (mkF m 53 #[.val (.long q1), .second, .val (.int p2), .val (.long sz), .second, .unset, .unset, .unset, .unset, .unset] [])) _
      refine XS.lloadN X0.here hx rfl (hb hby at_53) rfl ?_
      show Steps p.tables e below (s₁.setTop (mkF m 54 #[.val (.long q1), .second, .val (.int p2), .val (.long sz), .second, .unset, .unset, .unset, .unset, .unset] [(.long sz)])) _
      refine st3 _ ?_
      show Steps p.tables e below (T3.setTop (mkF m 57 #[.val (.long q1), .second, .val (.int p2), .val (.long sz), .second, .unset, .unset, .unset, .unset, .unset] [(.int r1)])) _
      refine XS.istore X3.here hx rfl (hb hby at_57) rfl (l' := #[.val (.long q1), .second, .val (.int p2), .val (.long sz), .second, .val (.int r1), .unset, .unset, .unset, .unset]) rfl ?_
      show Steps p.tables e below (T3.setTop (mkF m 59 #[.val (.long q1), .second, .val (.int p2), .val (.long sz), .second, .val (.int r1), .unset, .unset, .unset, .unset] [])) _
      refine XS.lloadN X3.here hx rfl (hb hby at_59) rfl ?_
      show Steps p.tables e below (T3.setTop (mkF m 60 #[.val (.long q1), .second, .val (.int p2), .val (.long sz), .second, .val (.int r1), .unset, .unset, .unset, .unset] [(.long sz)])) _
      refine XS.lconst X3.here hx rfl (hb hby at_60) ?_
      show Steps p.tables e below (T3.setTop (mkF m 61 #[.val (.long q1), .second, .val (.int p2), .val (.long sz), .second, .val (.int r1), .unset, .unset, .unset, .unset] [(.long (0 : Int64)), (.long sz)])) _
      refine XS.lcmp X3.here hx rfl (hb hby at_61) rfl ?_
      show Steps p.tables e below (T3.setTop (mkF m 62 #[.val (.long q1), .second, .val (.int p2), .val (.long sz), .second, .val (.int r1), .unset, .unset, .unset, .unset] [(.int (lcmpW sz (0 : Int64)))])) _
      refine XS.ifYes X3.here hx rfl (pc0 := 62) (pc' := 77) rfl (hb hby at_62) rfl ((if0 _ _).trans (feq hc62).2) (by decide) (by decide) ?_
      show Steps p.tables e below (T3.setTop (mkF m 77 #[.val (.long q1), .second, .val (.int p2), .val (.long sz), .second, .val (.int r1), .unset, .unset, .unset, .unset] [])) _
      refine XS.iload X3.here hx rfl (hb hby at_77) rfl ?_
      show Steps p.tables e below (T3.setTop (mkF m 79 #[.val (.long q1), .second, .val (.int p2), .val (.long sz), .second, .val (.int r1), .unset, .unset, .unset, .unset] [(.int r1)])) _
      refine XS.iconst X3.here hx rfl (hb hby at_79) ?_
      show Steps p.tables e below (T3.setTop (mkF m 80 #[.val (.long q1), .second, .val (.int p2), .val (.long sz), .second, .val (.int r1), .unset, .unset, .unset, .unset] [(.int (1 : Int32)), (.int r1)])) _
      refine XS.icmpYes X3.here hx rfl (pc0 := 80) (pc' := 85) rfl (hb hby at_80) rfl (flt hq.1).2.1 (by decide) (by decide) ?_
      show Steps p.tables e below (T3.setTop (mkF m 85 #[.val (.long q1), .second, .val (.int p2), .val (.long sz), .second, .val (.int r1), .unset, .unset, .unset, .unset] [])) _
      refine XS.iload X3.here hx rfl (hb hby at_85) rfl ?_
      show Steps p.tables e below (T3.setTop (mkF m 87 #[.val (.long q1), .second, .val (.int p2), .val (.long sz), .second, .val (.int r1), .unset, .unset, .unset, .unset] [(.int r1)])) _
      refine XS.iconst X3.here hx rfl (hb hby at_87) ?_
      show Steps p.tables e below (T3.setTop (mkF m 88 #[.val (.long q1), .second, .val (.int p2), .val (.long sz), .second, .val (.int r1), .unset, .unset, .unset, .unset] [(.int (1 : Int32)), (.int r1)])) _
      refine XS.isub X3.here hx rfl (hb hby at_88) rfl ?_
      show Steps p.tables e below (T3.setTop (mkF m 89 #[.val (.long q1), .second, .val (.int p2), .val (.long sz), .second, .val (.int r1), .unset, .unset, .unset, .unset] [(.int (r1 - (1 : Int32)))])) _
      refine XS.i2l X3.here hx rfl (hb hby at_89) rfl ?_
      show Steps p.tables e below (T3.setTop (mkF m 90 #[.val (.long q1), .second, .val (.int p2), .val (.long sz), .second, .val (.int r1), .unset, .unset, .unset, .unset] [(.long ((r1 - (1 : Int32)).toInt64))])) _
      refine X3.ldc2Long hx hown (mvT hZ (hw _ (List.mem_of_getElem? (i := 7) rfl))) (g := (mkF m 90 #[.val (.long q1), .second, .val (.int p2), .val (.long sz), .second, .val (.int r1), .unset, .unset, .unset, .unset] [(.long ((r1 - (1 : Int32)).toInt64))])) rfl (hb hby at_90) _ ?_
      show Steps p.tables e below (T3.setTop (mkF m 93 #[.val (.long q1), .second, .val (.int p2), .val (.long sz), .second, .val (.int r1), .unset, .unset, .unset, .unset] [(.long (1048576 : Int64)), (.long ((r1 - (1 : Int32)).toInt64))])) _
      refine XS.lmul X3.here hx rfl (hb hby at_93) rfl ?_
      show Steps p.tables e below (T3.setTop (mkF m 94 #[.val (.long q1), .second, .val (.int p2), .val (.long sz), .second, .val (.int r1), .unset, .unset, .unset, .unset] [(.long (((r1 - (1 : Int32)).toInt64) * (1048576 : Int64)))])) _
      refine XS.lstore X3.here hx rfl (hb hby at_94) rfl (l' := #[.val (.long q1), .second, .val (.int p2), .val (.long sz), .second, .val (.int r1), .val (.long (((r1 - (1 : Int32)).toInt64) * (1048576 : Int64))), .second, .unset, .unset]) rfl ?_
      show Steps p.tables e below (T3.setTop (mkF m 96 #[.val (.long q1), .second, .val (.int p2), .val (.long sz), .second, .val (.int r1), .val (.long (((r1 - (1 : Int32)).toInt64) * (1048576 : Int64))), .second, .unset, .unset] [])) _
      refine XS.iload X3.here hx rfl (hb hby at_96) rfl ?_
      show Steps p.tables e below (T3.setTop (mkF m 98 #[.val (.long q1), .second, .val (.int p2), .val (.long sz), .second, .val (.int r1), .val (.long (((r1 - (1 : Int32)).toInt64) * (1048576 : Int64))), .second, .unset, .unset] [(.int r1)])) _
      refine XS.i2l X3.here hx rfl (hb hby at_98) rfl ?_
      show Steps p.tables e below (T3.setTop (mkF m 99 #[.val (.long q1), .second, .val (.int p2), .val (.long sz), .second, .val (.int r1), .val (.long (((r1 - (1 : Int32)).toInt64) * (1048576 : Int64))), .second, .unset, .unset] [(.long (r1.toInt64))])) _
      refine X3.ldc2Long hx hown (mvT hZ (hw _ (List.mem_of_getElem? (i := 7) rfl))) (g := (mkF m 99 #[.val (.long q1), .second, .val (.int p2), .val (.long sz), .second, .val (.int r1), .val (.long (((r1 - (1 : Int32)).toInt64) * (1048576 : Int64))), .second, .unset, .unset] [(.long (r1.toInt64))])) rfl (hb hby at_99) _ ?_
      show Steps p.tables e below (T3.setTop (mkF m 102 #[.val (.long q1), .second, .val (.int p2), .val (.long sz), .second, .val (.int r1), .val (.long (((r1 - (1 : Int32)).toInt64) * (1048576 : Int64))), .second, .unset, .unset] [(.long (1048576 : Int64)), (.long (r1.toInt64))])) _
      refine XS.lmul X3.here hx rfl (hb hby at_102) rfl ?_
      show Steps p.tables e below (T3.setTop (mkF m 103 #[.val (.long q1), .second, .val (.int p2), .val (.long sz), .second, .val (.int r1), .val (.long (((r1 - (1 : Int32)).toInt64) * (1048576 : Int64))), .second, .unset, .unset] [(.long ((r1.toInt64) * (1048576 : Int64)))])) _
      refine XS.lstore X3.here hx rfl (hb hby at_103) rfl (l' := #[.val (.long q1), .second, .val (.int p2), .val (.long sz), .second, .val (.int r1), .val (.long (((r1 - (1 : Int32)).toInt64) * (1048576 : Int64))), .second, .val (.long ((r1.toInt64) * (1048576 : Int64))), .second]) rfl ?_
      show Steps p.tables e below (T3.setTop (mkF m 105 #[.val (.long q1), .second, .val (.int p2), .val (.long sz), .second, .val (.int r1), .val (.long (((r1 - (1 : Int32)).toInt64) * (1048576 : Int64))), .second, .val (.long ((r1.toInt64) * (1048576 : Int64))), .second] [])) _
      refine XS.lload X3.here hx rfl (hb hby at_105) rfl ?_
      show Steps p.tables e below (T3.setTop (mkF m 107 #[.val (.long q1), .second, .val (.int p2), .val (.long sz), .second, .val (.int r1), .val (.long (((r1 - (1 : Int32)).toInt64) * (1048576 : Int64))), .second, .val (.long ((r1.toInt64) * (1048576 : Int64))), .second] [(.long (((r1 - (1 : Int32)).toInt64) * (1048576 : Int64)))])) _
      refine XS.lloadN X3.here hx rfl (hb hby at_107) rfl ?_
      show Steps p.tables e below (T3.setTop (mkF m 108 #[.val (.long q1), .second, .val (.int p2), .val (.long sz), .second, .val (.int r1), .val (.long (((r1 - (1 : Int32)).toInt64) * (1048576 : Int64))), .second, .val (.long ((r1.toInt64) * (1048576 : Int64))), .second] [(.long sz), (.long (((r1 - (1 : Int32)).toInt64) * (1048576 : Int64)))])) _
      refine XS.lcmp X3.here hx rfl (hb hby at_108) rfl ?_
      show Steps p.tables e below (T3.setTop (mkF m 109 #[.val (.long q1), .second, .val (.int p2), .val (.long sz), .second, .val (.int r1), .val (.long (((r1 - (1 : Int32)).toInt64) * (1048576 : Int64))), .second, .val (.long ((r1.toInt64) * (1048576 : Int64))), .second] [(.int (lcmpW (((r1 - (1 : Int32)).toInt64) * (1048576 : Int64)) sz))])) _
      refine XS.ifNo X3.here hx rfl (hb hby at_109) rfl ((if0 _ _).trans (tlt hq.2.1).2.1) ?_
      show Steps p.tables e below (T3.setTop (mkF m 112 #[.val (.long q1), .second, .val (.int p2), .val (.long sz), .second, .val (.int r1), .val (.long (((r1 - (1 : Int32)).toInt64) * (1048576 : Int64))), .second, .val (.long ((r1.toInt64) * (1048576 : Int64))), .second] [])) _
      refine XS.lloadN X3.here hx rfl (hb hby at_112) rfl ?_
      show Steps p.tables e below (T3.setTop (mkF m 113 #[.val (.long q1), .second, .val (.int p2), .val (.long sz), .second, .val (.int r1), .val (.long (((r1 - (1 : Int32)).toInt64) * (1048576 : Int64))), .second, .val (.long ((r1.toInt64) * (1048576 : Int64))), .second] [(.long sz)])) _
      refine XS.lload X3.here hx rfl (hb hby at_113) rfl ?_
      show Steps p.tables e below (T3.setTop (mkF m 115 #[.val (.long q1), .second, .val (.int p2), .val (.long sz), .second, .val (.int r1), .val (.long (((r1 - (1 : Int32)).toInt64) * (1048576 : Int64))), .second, .val (.long ((r1.toInt64) * (1048576 : Int64))), .second] [(.long ((r1.toInt64) * (1048576 : Int64))), (.long sz)])) _
      refine XS.lcmp X3.here hx rfl (hb hby at_115) rfl ?_
      show Steps p.tables e below (T3.setTop (mkF m 116 #[.val (.long q1), .second, .val (.int p2), .val (.long sz), .second, .val (.int r1), .val (.long (((r1 - (1 : Int32)).toInt64) * (1048576 : Int64))), .second, .val (.long ((r1.toInt64) * (1048576 : Int64))), .second] [(.int (lcmpW sz ((r1.toInt64) * (1048576 : Int64))))])) _
      refine XS.ifNo X3.here hx rfl (hb hby at_116) rfl ((if0 _ _).trans (flt hq.2.2).2.2.1) ?_
      show Steps p.tables e below (T3.setTop (mkF m 119 #[.val (.long q1), .second, .val (.int p2), .val (.long sz), .second, .val (.int r1), .val (.long (((r1 - (1 : Int32)).toInt64) * (1048576 : Int64))), .second, .val (.long ((r1.toInt64) * (1048576 : Int64))), .second] [])) _
      refine XS.iconst X3.here hx rfl (hb hby at_119) ?_
      show Steps p.tables e below (T3.setTop (mkF m 120 #[.val (.long q1), .second, .val (.int p2), .val (.long sz), .second, .val (.int r1), .val (.long (((r1 - (1 : Int32)).toInt64) * (1048576 : Int64))), .second, .val (.long ((r1.toInt64) * (1048576 : Int64))), .second] [(.int (1 : Int32))])) _
      refine XS.goto X3.here hx rfl (pc0 := 120) (pc' := 124) rfl (hb hby at_120) (by decide) (by decide) ?_
      show Steps p.tables e below (T3.setTop (mkF m 124 #[.val (.long q1), .second, .val (.int p2), .val (.long sz), .second, .val (.int r1), .val (.long (((r1 - (1 : Int32)).toInt64) * (1048576 : Int64))), .second, .val (.long ((r1.toInt64) * (1048576 : Int64))), .second] [(.int (1 : Int32))])) _
      exact retN X3 hx (t := .boolean) Bd.returns (by simp) (hb hby at_124) hr
    · show Q0 Z q1 p2 h0 n0 _ T3.heap _
      rw [e3]
      exact ⟨rfl, N3⟩
  · obtain ⟨sz, bs, dl, hsz, pre1⟩ : ∃ sz bs dl : Int64, 0 ≤ sz.toInt ∧ (∀ t, Steps p.tables e below (s₁.setTop (mkF m 43 #[.val (.long q1), .second, .val (.int p2), .val (.long sz), .second, .val (.long bs), .second, .val (.long dl), .second, .unset] [])) t → Steps p.tables e below (s₁.setTop (mkF m 0 #[.val (.long q1), .second, .val (.int p2), .unset, .unset, .unset, .unset, .unset, .unset, .unset] [])) t) := by
      by_cases hc38 : (lcmpW (((q1 &&& (2251799813685247 : Int64)) &&& (-1048576 : Int64)) + (((((p2.toUInt32 >>> ((1 : Int32) &&& 31).toUInt32).toInt32) - (((p2.toUInt32 >>> ((1 : Int32) &&& 31).toUInt32).toInt32) / (3 : Int32)) * (3 : Int32)) - (1 : Int32)).toInt64)) (0 : Int64)) < (0 : Int32)
      · refine ⟨(0 : Int64), ((q1 &&& (2251799813685247 : Int64)) &&& (-1048576 : Int64)), (((((p2.toUInt32 >>> ((1 : Int32) &&& 31).toUInt32).toInt32) - (((p2.toUInt32 >>> ((1 : Int32) &&& 31).toUInt32).toInt32) / (3 : Int32)) * (3 : Int32)) - (1 : Int32)).toInt64), by decide, fun t kt => ?_⟩
        show Steps p.tables e below (s₁.setTop (mkF m 0 #[.val (.long q1), .second, .val (.int p2), .unset, .unset, .unset, .unset, .unset, .unset, .unset] [])) _
        refine XS.lloadN X0.here hx rfl (hb hby at_0) rfl ?_
        show Steps p.tables e below (s₁.setTop (mkF m 1 #[.val (.long q1), .second, .val (.int p2), .unset, .unset, .unset, .unset, .unset, .unset, .unset] [(.long q1)])) _
        refine X0.ldc2Long hx hown (mvT hZ (hw _ (List.mem_of_getElem? (i := 0) rfl))) (g := (mkF m 1 #[.val (.long q1), .second, .val (.int p2), .unset, .unset, .unset, .unset, .unset, .unset, .unset] [(.long q1)])) rfl (hb hby at_1) _ ?_
        show Steps p.tables e below (s₁.setTop (mkF m 4 #[.val (.long q1), .second, .val (.int p2), .unset, .unset, .unset, .unset, .unset, .unset, .unset] [(.long (2251799813685247 : Int64)), (.long q1)])) _
        refine XS.land X0.here hx rfl (hb hby at_4) rfl ?_
        show Steps p.tables e below (s₁.setTop (mkF m 5 #[.val (.long q1), .second, .val (.int p2), .unset, .unset, .unset, .unset, .unset, .unset, .unset] [(.long (q1 &&& (2251799813685247 : Int64)))])) _
        refine XS.lstoreN X0.here hx rfl (hb hby at_5) rfl (l' := #[.val (.long q1), .second, .val (.int p2), .val (.long (q1 &&& (2251799813685247 : Int64))), .second, .unset, .unset, .unset, .unset, .unset]) rfl ?_
        show Steps p.tables e below (s₁.setTop (mkF m 6 #[.val (.long q1), .second, .val (.int p2), .val (.long (q1 &&& (2251799813685247 : Int64))), .second, .unset, .unset, .unset, .unset, .unset] [])) _
        refine XS.iloadN X0.here hx rfl (hb hby at_6) rfl ?_
        show Steps p.tables e below (s₁.setTop (mkF m 7 #[.val (.long q1), .second, .val (.int p2), .val (.long (q1 &&& (2251799813685247 : Int64))), .second, .unset, .unset, .unset, .unset, .unset] [(.int p2)])) _
        refine XS.iconst X0.here hx rfl (hb hby at_7) ?_
        show Steps p.tables e below (s₁.setTop (mkF m 8 #[.val (.long q1), .second, .val (.int p2), .val (.long (q1 &&& (2251799813685247 : Int64))), .second, .unset, .unset, .unset, .unset, .unset] [(.int (1 : Int32)), (.int p2)])) _
        refine XS.iand X0.here hx rfl (hb hby at_8) rfl ?_
        show Steps p.tables e below (s₁.setTop (mkF m 9 #[.val (.long q1), .second, .val (.int p2), .val (.long (q1 &&& (2251799813685247 : Int64))), .second, .unset, .unset, .unset, .unset, .unset] [(.int (p2 &&& (1 : Int32)))])) _
        refine XS.ifNo X0.here hx rfl (hb hby at_9) rfl ((if0 _ _).trans (feq hc9).1) ?_
        show Steps p.tables e below (s₁.setTop (mkF m 12 #[.val (.long q1), .second, .val (.int p2), .val (.long (q1 &&& (2251799813685247 : Int64))), .second, .unset, .unset, .unset, .unset, .unset] [])) _
        refine XS.lloadN X0.here hx rfl (hb hby at_12) rfl ?_
        show Steps p.tables e below (s₁.setTop (mkF m 13 #[.val (.long q1), .second, .val (.int p2), .val (.long (q1 &&& (2251799813685247 : Int64))), .second, .unset, .unset, .unset, .unset, .unset] [(.long (q1 &&& (2251799813685247 : Int64)))])) _
        refine X0.ldc2Long hx hown (mvT hZ (hw _ (List.mem_of_getElem? (i := 8) rfl))) (g := (mkF m 13 #[.val (.long q1), .second, .val (.int p2), .val (.long (q1 &&& (2251799813685247 : Int64))), .second, .unset, .unset, .unset, .unset, .unset] [(.long (q1 &&& (2251799813685247 : Int64)))])) rfl (hb hby at_13) _ ?_
        show Steps p.tables e below (s₁.setTop (mkF m 16 #[.val (.long q1), .second, .val (.int p2), .val (.long (q1 &&& (2251799813685247 : Int64))), .second, .unset, .unset, .unset, .unset, .unset] [(.long (-1048576 : Int64)), (.long (q1 &&& (2251799813685247 : Int64)))])) _
        refine XS.land X0.here hx rfl (hb hby at_16) rfl ?_
        show Steps p.tables e below (s₁.setTop (mkF m 17 #[.val (.long q1), .second, .val (.int p2), .val (.long (q1 &&& (2251799813685247 : Int64))), .second, .unset, .unset, .unset, .unset, .unset] [(.long ((q1 &&& (2251799813685247 : Int64)) &&& (-1048576 : Int64)))])) _
        refine XS.lstore X0.here hx rfl (hb hby at_17) rfl (l' := #[.val (.long q1), .second, .val (.int p2), .val (.long (q1 &&& (2251799813685247 : Int64))), .second, .val (.long ((q1 &&& (2251799813685247 : Int64)) &&& (-1048576 : Int64))), .second, .unset, .unset, .unset]) rfl ?_
        show Steps p.tables e below (s₁.setTop (mkF m 19 #[.val (.long q1), .second, .val (.int p2), .val (.long (q1 &&& (2251799813685247 : Int64))), .second, .val (.long ((q1 &&& (2251799813685247 : Int64)) &&& (-1048576 : Int64))), .second, .unset, .unset, .unset] [])) _
        refine XS.iloadN X0.here hx rfl (hb hby at_19) rfl ?_
        show Steps p.tables e below (s₁.setTop (mkF m 20 #[.val (.long q1), .second, .val (.int p2), .val (.long (q1 &&& (2251799813685247 : Int64))), .second, .val (.long ((q1 &&& (2251799813685247 : Int64)) &&& (-1048576 : Int64))), .second, .unset, .unset, .unset] [(.int p2)])) _
        refine XS.iconst X0.here hx rfl (hb hby at_20) ?_
        show Steps p.tables e below (s₁.setTop (mkF m 21 #[.val (.long q1), .second, .val (.int p2), .val (.long (q1 &&& (2251799813685247 : Int64))), .second, .val (.long ((q1 &&& (2251799813685247 : Int64)) &&& (-1048576 : Int64))), .second, .unset, .unset, .unset] [(.int (1 : Int32)), (.int p2)])) _
        refine XS.iushr X0.here hx rfl (hb hby at_21) rfl ?_
        show Steps p.tables e below (s₁.setTop (mkF m 22 #[.val (.long q1), .second, .val (.int p2), .val (.long (q1 &&& (2251799813685247 : Int64))), .second, .val (.long ((q1 &&& (2251799813685247 : Int64)) &&& (-1048576 : Int64))), .second, .unset, .unset, .unset] [(.int ((p2.toUInt32 >>> ((1 : Int32) &&& 31).toUInt32).toInt32))])) _
        refine XS.iconst X0.here hx rfl (hb hby at_22) ?_
        show Steps p.tables e below (s₁.setTop (mkF m 23 #[.val (.long q1), .second, .val (.int p2), .val (.long (q1 &&& (2251799813685247 : Int64))), .second, .val (.long ((q1 &&& (2251799813685247 : Int64)) &&& (-1048576 : Int64))), .second, .unset, .unset, .unset] [(.int (3 : Int32)), (.int ((p2.toUInt32 >>> ((1 : Int32) &&& 31).toUInt32).toInt32))])) _
        refine XS.irem X0.here hx rfl (hb hby at_23) rfl (by decide) ?_
        show Steps p.tables e below (s₁.setTop (mkF m 24 #[.val (.long q1), .second, .val (.int p2), .val (.long (q1 &&& (2251799813685247 : Int64))), .second, .val (.long ((q1 &&& (2251799813685247 : Int64)) &&& (-1048576 : Int64))), .second, .unset, .unset, .unset] [(.int (((p2.toUInt32 >>> ((1 : Int32) &&& 31).toUInt32).toInt32) - (((p2.toUInt32 >>> ((1 : Int32) &&& 31).toUInt32).toInt32) / (3 : Int32)) * (3 : Int32)))])) _
        refine XS.iconst X0.here hx rfl (hb hby at_24) ?_
        show Steps p.tables e below (s₁.setTop (mkF m 25 #[.val (.long q1), .second, .val (.int p2), .val (.long (q1 &&& (2251799813685247 : Int64))), .second, .val (.long ((q1 &&& (2251799813685247 : Int64)) &&& (-1048576 : Int64))), .second, .unset, .unset, .unset] [(.int (1 : Int32)), (.int (((p2.toUInt32 >>> ((1 : Int32) &&& 31).toUInt32).toInt32) - (((p2.toUInt32 >>> ((1 : Int32) &&& 31).toUInt32).toInt32) / (3 : Int32)) * (3 : Int32)))])) _
        refine XS.isub X0.here hx rfl (hb hby at_25) rfl ?_
        show Steps p.tables e below (s₁.setTop (mkF m 26 #[.val (.long q1), .second, .val (.int p2), .val (.long (q1 &&& (2251799813685247 : Int64))), .second, .val (.long ((q1 &&& (2251799813685247 : Int64)) &&& (-1048576 : Int64))), .second, .unset, .unset, .unset] [(.int ((((p2.toUInt32 >>> ((1 : Int32) &&& 31).toUInt32).toInt32) - (((p2.toUInt32 >>> ((1 : Int32) &&& 31).toUInt32).toInt32) / (3 : Int32)) * (3 : Int32)) - (1 : Int32)))])) _
        refine XS.i2l X0.here hx rfl (hb hby at_26) rfl ?_
        show Steps p.tables e below (s₁.setTop (mkF m 27 #[.val (.long q1), .second, .val (.int p2), .val (.long (q1 &&& (2251799813685247 : Int64))), .second, .val (.long ((q1 &&& (2251799813685247 : Int64)) &&& (-1048576 : Int64))), .second, .unset, .unset, .unset] [(.long (((((p2.toUInt32 >>> ((1 : Int32) &&& 31).toUInt32).toInt32) - (((p2.toUInt32 >>> ((1 : Int32) &&& 31).toUInt32).toInt32) / (3 : Int32)) * (3 : Int32)) - (1 : Int32)).toInt64))])) _
        refine XS.lstore X0.here hx rfl (hb hby at_27) rfl (l' := #[.val (.long q1), .second, .val (.int p2), .val (.long (q1 &&& (2251799813685247 : Int64))), .second, .val (.long ((q1 &&& (2251799813685247 : Int64)) &&& (-1048576 : Int64))), .second, .val (.long (((((p2.toUInt32 >>> ((1 : Int32) &&& 31).toUInt32).toInt32) - (((p2.toUInt32 >>> ((1 : Int32) &&& 31).toUInt32).toInt32) / (3 : Int32)) * (3 : Int32)) - (1 : Int32)).toInt64)), .second, .unset]) rfl ?_
        show Steps p.tables e below (s₁.setTop (mkF m 29 #[.val (.long q1), .second, .val (.int p2), .val (.long (q1 &&& (2251799813685247 : Int64))), .second, .val (.long ((q1 &&& (2251799813685247 : Int64)) &&& (-1048576 : Int64))), .second, .val (.long (((((p2.toUInt32 >>> ((1 : Int32) &&& 31).toUInt32).toInt32) - (((p2.toUInt32 >>> ((1 : Int32) &&& 31).toUInt32).toInt32) / (3 : Int32)) * (3 : Int32)) - (1 : Int32)).toInt64)), .second, .unset] [])) _
        refine XS.lload X0.here hx rfl (hb hby at_29) rfl ?_
        show Steps p.tables e below (s₁.setTop (mkF m 31 #[.val (.long q1), .second, .val (.int p2), .val (.long (q1 &&& (2251799813685247 : Int64))), .second, .val (.long ((q1 &&& (2251799813685247 : Int64)) &&& (-1048576 : Int64))), .second, .val (.long (((((p2.toUInt32 >>> ((1 : Int32) &&& 31).toUInt32).toInt32) - (((p2.toUInt32 >>> ((1 : Int32) &&& 31).toUInt32).toInt32) / (3 : Int32)) * (3 : Int32)) - (1 : Int32)).toInt64)), .second, .unset] [(.long ((q1 &&& (2251799813685247 : Int64)) &&& (-1048576 : Int64)))])) _
        refine XS.lload X0.here hx rfl (hb hby at_31) rfl ?_
        show Steps p.tables e below (s₁.setTop (mkF m 33 #[.val (.long q1), .second, .val (.int p2), .val (.long (q1 &&& (2251799813685247 : Int64))), .second, .val (.long ((q1 &&& (2251799813685247 : Int64)) &&& (-1048576 : Int64))), .second, .val (.long (((((p2.toUInt32 >>> ((1 : Int32) &&& 31).toUInt32).toInt32) - (((p2.toUInt32 >>> ((1 : Int32) &&& 31).toUInt32).toInt32) / (3 : Int32)) * (3 : Int32)) - (1 : Int32)).toInt64)), .second, .unset] [(.long (((((p2.toUInt32 >>> ((1 : Int32) &&& 31).toUInt32).toInt32) - (((p2.toUInt32 >>> ((1 : Int32) &&& 31).toUInt32).toInt32) / (3 : Int32)) * (3 : Int32)) - (1 : Int32)).toInt64)), (.long ((q1 &&& (2251799813685247 : Int64)) &&& (-1048576 : Int64)))])) _
        refine XS.ladd X0.here hx rfl (hb hby at_33) rfl ?_
        show Steps p.tables e below (s₁.setTop (mkF m 34 #[.val (.long q1), .second, .val (.int p2), .val (.long (q1 &&& (2251799813685247 : Int64))), .second, .val (.long ((q1 &&& (2251799813685247 : Int64)) &&& (-1048576 : Int64))), .second, .val (.long (((((p2.toUInt32 >>> ((1 : Int32) &&& 31).toUInt32).toInt32) - (((p2.toUInt32 >>> ((1 : Int32) &&& 31).toUInt32).toInt32) / (3 : Int32)) * (3 : Int32)) - (1 : Int32)).toInt64)), .second, .unset] [(.long (((q1 &&& (2251799813685247 : Int64)) &&& (-1048576 : Int64)) + (((((p2.toUInt32 >>> ((1 : Int32) &&& 31).toUInt32).toInt32) - (((p2.toUInt32 >>> ((1 : Int32) &&& 31).toUInt32).toInt32) / (3 : Int32)) * (3 : Int32)) - (1 : Int32)).toInt64)))])) _
        refine XS.lstoreN X0.here hx rfl (hb hby at_34) rfl (l' := #[.val (.long q1), .second, .val (.int p2), .val (.long (((q1 &&& (2251799813685247 : Int64)) &&& (-1048576 : Int64)) + (((((p2.toUInt32 >>> ((1 : Int32) &&& 31).toUInt32).toInt32) - (((p2.toUInt32 >>> ((1 : Int32) &&& 31).toUInt32).toInt32) / (3 : Int32)) * (3 : Int32)) - (1 : Int32)).toInt64))), .second, .val (.long ((q1 &&& (2251799813685247 : Int64)) &&& (-1048576 : Int64))), .second, .val (.long (((((p2.toUInt32 >>> ((1 : Int32) &&& 31).toUInt32).toInt32) - (((p2.toUInt32 >>> ((1 : Int32) &&& 31).toUInt32).toInt32) / (3 : Int32)) * (3 : Int32)) - (1 : Int32)).toInt64)), .second, .unset]) rfl ?_
        show Steps p.tables e below (s₁.setTop (mkF m 35 #[.val (.long q1), .second, .val (.int p2), .val (.long (((q1 &&& (2251799813685247 : Int64)) &&& (-1048576 : Int64)) + (((((p2.toUInt32 >>> ((1 : Int32) &&& 31).toUInt32).toInt32) - (((p2.toUInt32 >>> ((1 : Int32) &&& 31).toUInt32).toInt32) / (3 : Int32)) * (3 : Int32)) - (1 : Int32)).toInt64))), .second, .val (.long ((q1 &&& (2251799813685247 : Int64)) &&& (-1048576 : Int64))), .second, .val (.long (((((p2.toUInt32 >>> ((1 : Int32) &&& 31).toUInt32).toInt32) - (((p2.toUInt32 >>> ((1 : Int32) &&& 31).toUInt32).toInt32) / (3 : Int32)) * (3 : Int32)) - (1 : Int32)).toInt64)), .second, .unset] [])) _
        refine XS.lloadN X0.here hx rfl (hb hby at_35) rfl ?_
        show Steps p.tables e below (s₁.setTop (mkF m 36 #[.val (.long q1), .second, .val (.int p2), .val (.long (((q1 &&& (2251799813685247 : Int64)) &&& (-1048576 : Int64)) + (((((p2.toUInt32 >>> ((1 : Int32) &&& 31).toUInt32).toInt32) - (((p2.toUInt32 >>> ((1 : Int32) &&& 31).toUInt32).toInt32) / (3 : Int32)) * (3 : Int32)) - (1 : Int32)).toInt64))), .second, .val (.long ((q1 &&& (2251799813685247 : Int64)) &&& (-1048576 : Int64))), .second, .val (.long (((((p2.toUInt32 >>> ((1 : Int32) &&& 31).toUInt32).toInt32) - (((p2.toUInt32 >>> ((1 : Int32) &&& 31).toUInt32).toInt32) / (3 : Int32)) * (3 : Int32)) - (1 : Int32)).toInt64)), .second, .unset] [(.long (((q1 &&& (2251799813685247 : Int64)) &&& (-1048576 : Int64)) + (((((p2.toUInt32 >>> ((1 : Int32) &&& 31).toUInt32).toInt32) - (((p2.toUInt32 >>> ((1 : Int32) &&& 31).toUInt32).toInt32) / (3 : Int32)) * (3 : Int32)) - (1 : Int32)).toInt64)))])) _
        refine XS.lconst X0.here hx rfl (hb hby at_36) ?_
        show Steps p.tables e below (s₁.setTop (mkF m 37 #[.val (.long q1), .second, .val (.int p2), .val (.long (((q1 &&& (2251799813685247 : Int64)) &&& (-1048576 : Int64)) + (((((p2.toUInt32 >>> ((1 : Int32) &&& 31).toUInt32).toInt32) - (((p2.toUInt32 >>> ((1 : Int32) &&& 31).toUInt32).toInt32) / (3 : Int32)) * (3 : Int32)) - (1 : Int32)).toInt64))), .second, .val (.long ((q1 &&& (2251799813685247 : Int64)) &&& (-1048576 : Int64))), .second, .val (.long (((((p2.toUInt32 >>> ((1 : Int32) &&& 31).toUInt32).toInt32) - (((p2.toUInt32 >>> ((1 : Int32) &&& 31).toUInt32).toInt32) / (3 : Int32)) * (3 : Int32)) - (1 : Int32)).toInt64)), .second, .unset] [(.long (0 : Int64)), (.long (((q1 &&& (2251799813685247 : Int64)) &&& (-1048576 : Int64)) + (((((p2.toUInt32 >>> ((1 : Int32) &&& 31).toUInt32).toInt32) - (((p2.toUInt32 >>> ((1 : Int32) &&& 31).toUInt32).toInt32) / (3 : Int32)) * (3 : Int32)) - (1 : Int32)).toInt64)))])) _
        refine XS.lcmp X0.here hx rfl (hb hby at_37) rfl ?_
        show Steps p.tables e below (s₁.setTop (mkF m 38 #[.val (.long q1), .second, .val (.int p2), .val (.long (((q1 &&& (2251799813685247 : Int64)) &&& (-1048576 : Int64)) + (((((p2.toUInt32 >>> ((1 : Int32) &&& 31).toUInt32).toInt32) - (((p2.toUInt32 >>> ((1 : Int32) &&& 31).toUInt32).toInt32) / (3 : Int32)) * (3 : Int32)) - (1 : Int32)).toInt64))), .second, .val (.long ((q1 &&& (2251799813685247 : Int64)) &&& (-1048576 : Int64))), .second, .val (.long (((((p2.toUInt32 >>> ((1 : Int32) &&& 31).toUInt32).toInt32) - (((p2.toUInt32 >>> ((1 : Int32) &&& 31).toUInt32).toInt32) / (3 : Int32)) * (3 : Int32)) - (1 : Int32)).toInt64)), .second, .unset] [(.int (lcmpW (((q1 &&& (2251799813685247 : Int64)) &&& (-1048576 : Int64)) + (((((p2.toUInt32 >>> ((1 : Int32) &&& 31).toUInt32).toInt32) - (((p2.toUInt32 >>> ((1 : Int32) &&& 31).toUInt32).toInt32) / (3 : Int32)) * (3 : Int32)) - (1 : Int32)).toInt64)) (0 : Int64)))])) _
        refine XS.ifNo X0.here hx rfl (hb hby at_38) rfl ((if0 _ _).trans (tlt hc38).2.1) ?_
        show Steps p.tables e below (s₁.setTop (mkF m 41 #[.val (.long q1), .second, .val (.int p2), .val (.long (((q1 &&& (2251799813685247 : Int64)) &&& (-1048576 : Int64)) + (((((p2.toUInt32 >>> ((1 : Int32) &&& 31).toUInt32).toInt32) - (((p2.toUInt32 >>> ((1 : Int32) &&& 31).toUInt32).toInt32) / (3 : Int32)) * (3 : Int32)) - (1 : Int32)).toInt64))), .second, .val (.long ((q1 &&& (2251799813685247 : Int64)) &&& (-1048576 : Int64))), .second, .val (.long (((((p2.toUInt32 >>> ((1 : Int32) &&& 31).toUInt32).toInt32) - (((p2.toUInt32 >>> ((1 : Int32) &&& 31).toUInt32).toInt32) / (3 : Int32)) * (3 : Int32)) - (1 : Int32)).toInt64)), .second, .unset] [])) _
        refine XS.lconst X0.here hx rfl (hb hby at_41) ?_
        show Steps p.tables e below (s₁.setTop (mkF m 42 #[.val (.long q1), .second, .val (.int p2), .val (.long (((q1 &&& (2251799813685247 : Int64)) &&& (-1048576 : Int64)) + (((((p2.toUInt32 >>> ((1 : Int32) &&& 31).toUInt32).toInt32) - (((p2.toUInt32 >>> ((1 : Int32) &&& 31).toUInt32).toInt32) / (3 : Int32)) * (3 : Int32)) - (1 : Int32)).toInt64))), .second, .val (.long ((q1 &&& (2251799813685247 : Int64)) &&& (-1048576 : Int64))), .second, .val (.long (((((p2.toUInt32 >>> ((1 : Int32) &&& 31).toUInt32).toInt32) - (((p2.toUInt32 >>> ((1 : Int32) &&& 31).toUInt32).toInt32) / (3 : Int32)) * (3 : Int32)) - (1 : Int32)).toInt64)), .second, .unset] [(.long (0 : Int64))])) _
        refine XS.lstoreN X0.here hx rfl (hb hby at_42) rfl (l' := #[.val (.long q1), .second, .val (.int p2), .val (.long (0 : Int64)), .second, .val (.long ((q1 &&& (2251799813685247 : Int64)) &&& (-1048576 : Int64))), .second, .val (.long (((((p2.toUInt32 >>> ((1 : Int32) &&& 31).toUInt32).toInt32) - (((p2.toUInt32 >>> ((1 : Int32) &&& 31).toUInt32).toInt32) / (3 : Int32)) * (3 : Int32)) - (1 : Int32)).toInt64)), .second, .unset]) rfl ?_
        exact kt
      · refine ⟨(((q1 &&& (2251799813685247 : Int64)) &&& (-1048576 : Int64)) + (((((p2.toUInt32 >>> ((1 : Int32) &&& 31).toUInt32).toInt32) - (((p2.toUInt32 >>> ((1 : Int32) &&& 31).toUInt32).toInt32) / (3 : Int32)) * (3 : Int32)) - (1 : Int32)).toInt64)), ((q1 &&& (2251799813685247 : Int64)) &&& (-1048576 : Int64)), (((((p2.toUInt32 >>> ((1 : Int32) &&& 31).toUInt32).toInt32) - (((p2.toUInt32 >>> ((1 : Int32) &&& 31).toUInt32).toInt32) / (3 : Int32)) * (3 : Int32)) - (1 : Int32)).toInt64), ?_, fun t kt => ?_⟩
        rotate_left
        · show Steps p.tables e below (s₁.setTop (mkF m 0 #[.val (.long q1), .second, .val (.int p2), .unset, .unset, .unset, .unset, .unset, .unset, .unset] [])) _
          refine XS.lloadN X0.here hx rfl (hb hby at_0) rfl ?_
          show Steps p.tables e below (s₁.setTop (mkF m 1 #[.val (.long q1), .second, .val (.int p2), .unset, .unset, .unset, .unset, .unset, .unset, .unset] [(.long q1)])) _
          refine X0.ldc2Long hx hown (mvT hZ (hw _ (List.mem_of_getElem? (i := 0) rfl))) (g := (mkF m 1 #[.val (.long q1), .second, .val (.int p2), .unset, .unset, .unset, .unset, .unset, .unset, .unset] [(.long q1)])) rfl (hb hby at_1) _ ?_
          show Steps p.tables e below (s₁.setTop (mkF m 4 #[.val (.long q1), .second, .val (.int p2), .unset, .unset, .unset, .unset, .unset, .unset, .unset] [(.long (2251799813685247 : Int64)), (.long q1)])) _
          refine XS.land X0.here hx rfl (hb hby at_4) rfl ?_
          show Steps p.tables e below (s₁.setTop (mkF m 5 #[.val (.long q1), .second, .val (.int p2), .unset, .unset, .unset, .unset, .unset, .unset, .unset] [(.long (q1 &&& (2251799813685247 : Int64)))])) _
          refine XS.lstoreN X0.here hx rfl (hb hby at_5) rfl (l' := #[.val (.long q1), .second, .val (.int p2), .val (.long (q1 &&& (2251799813685247 : Int64))), .second, .unset, .unset, .unset, .unset, .unset]) rfl ?_
          show Steps p.tables e below (s₁.setTop (mkF m 6 #[.val (.long q1), .second, .val (.int p2), .val (.long (q1 &&& (2251799813685247 : Int64))), .second, .unset, .unset, .unset, .unset, .unset] [])) _
          refine XS.iloadN X0.here hx rfl (hb hby at_6) rfl ?_
          show Steps p.tables e below (s₁.setTop (mkF m 7 #[.val (.long q1), .second, .val (.int p2), .val (.long (q1 &&& (2251799813685247 : Int64))), .second, .unset, .unset, .unset, .unset, .unset] [(.int p2)])) _
          refine XS.iconst X0.here hx rfl (hb hby at_7) ?_
          show Steps p.tables e below (s₁.setTop (mkF m 8 #[.val (.long q1), .second, .val (.int p2), .val (.long (q1 &&& (2251799813685247 : Int64))), .second, .unset, .unset, .unset, .unset, .unset] [(.int (1 : Int32)), (.int p2)])) _
          refine XS.iand X0.here hx rfl (hb hby at_8) rfl ?_
          show Steps p.tables e below (s₁.setTop (mkF m 9 #[.val (.long q1), .second, .val (.int p2), .val (.long (q1 &&& (2251799813685247 : Int64))), .second, .unset, .unset, .unset, .unset, .unset] [(.int (p2 &&& (1 : Int32)))])) _
          refine XS.ifNo X0.here hx rfl (hb hby at_9) rfl ((if0 _ _).trans (feq hc9).1) ?_
          show Steps p.tables e below (s₁.setTop (mkF m 12 #[.val (.long q1), .second, .val (.int p2), .val (.long (q1 &&& (2251799813685247 : Int64))), .second, .unset, .unset, .unset, .unset, .unset] [])) _
          refine XS.lloadN X0.here hx rfl (hb hby at_12) rfl ?_
          show Steps p.tables e below (s₁.setTop (mkF m 13 #[.val (.long q1), .second, .val (.int p2), .val (.long (q1 &&& (2251799813685247 : Int64))), .second, .unset, .unset, .unset, .unset, .unset] [(.long (q1 &&& (2251799813685247 : Int64)))])) _
          refine X0.ldc2Long hx hown (mvT hZ (hw _ (List.mem_of_getElem? (i := 8) rfl))) (g := (mkF m 13 #[.val (.long q1), .second, .val (.int p2), .val (.long (q1 &&& (2251799813685247 : Int64))), .second, .unset, .unset, .unset, .unset, .unset] [(.long (q1 &&& (2251799813685247 : Int64)))])) rfl (hb hby at_13) _ ?_
          show Steps p.tables e below (s₁.setTop (mkF m 16 #[.val (.long q1), .second, .val (.int p2), .val (.long (q1 &&& (2251799813685247 : Int64))), .second, .unset, .unset, .unset, .unset, .unset] [(.long (-1048576 : Int64)), (.long (q1 &&& (2251799813685247 : Int64)))])) _
          refine XS.land X0.here hx rfl (hb hby at_16) rfl ?_
          show Steps p.tables e below (s₁.setTop (mkF m 17 #[.val (.long q1), .second, .val (.int p2), .val (.long (q1 &&& (2251799813685247 : Int64))), .second, .unset, .unset, .unset, .unset, .unset] [(.long ((q1 &&& (2251799813685247 : Int64)) &&& (-1048576 : Int64)))])) _
          refine XS.lstore X0.here hx rfl (hb hby at_17) rfl (l' := #[.val (.long q1), .second, .val (.int p2), .val (.long (q1 &&& (2251799813685247 : Int64))), .second, .val (.long ((q1 &&& (2251799813685247 : Int64)) &&& (-1048576 : Int64))), .second, .unset, .unset, .unset]) rfl ?_
          show Steps p.tables e below (s₁.setTop (mkF m 19 #[.val (.long q1), .second, .val (.int p2), .val (.long (q1 &&& (2251799813685247 : Int64))), .second, .val (.long ((q1 &&& (2251799813685247 : Int64)) &&& (-1048576 : Int64))), .second, .unset, .unset, .unset] [])) _
          refine XS.iloadN X0.here hx rfl (hb hby at_19) rfl ?_
          show Steps p.tables e below (s₁.setTop (mkF m 20 #[.val (.long q1), .second, .val (.int p2), .val (.long (q1 &&& (2251799813685247 : Int64))), .second, .val (.long ((q1 &&& (2251799813685247 : Int64)) &&& (-1048576 : Int64))), .second, .unset, .unset, .unset] [(.int p2)])) _
          refine XS.iconst X0.here hx rfl (hb hby at_20) ?_
          show Steps p.tables e below (s₁.setTop (mkF m 21 #[.val (.long q1), .second, .val (.int p2), .val (.long (q1 &&& (2251799813685247 : Int64))), .second, .val (.long ((q1 &&& (2251799813685247 : Int64)) &&& (-1048576 : Int64))), .second, .unset, .unset, .unset] [(.int (1 : Int32)), (.int p2)])) _
          refine XS.iushr X0.here hx rfl (hb hby at_21) rfl ?_
          show Steps p.tables e below (s₁.setTop (mkF m 22 #[.val (.long q1), .second, .val (.int p2), .val (.long (q1 &&& (2251799813685247 : Int64))), .second, .val (.long ((q1 &&& (2251799813685247 : Int64)) &&& (-1048576 : Int64))), .second, .unset, .unset, .unset] [(.int ((p2.toUInt32 >>> ((1 : Int32) &&& 31).toUInt32).toInt32))])) _
          refine XS.iconst X0.here hx rfl (hb hby at_22) ?_
          show Steps p.tables e below (s₁.setTop (mkF m 23 #[.val (.long q1), .second, .val (.int p2), .val (.long (q1 &&& (2251799813685247 : Int64))), .second, .val (.long ((q1 &&& (2251799813685247 : Int64)) &&& (-1048576 : Int64))), .second, .unset, .unset, .unset] [(.int (3 : Int32)), (.int ((p2.toUInt32 >>> ((1 : Int32) &&& 31).toUInt32).toInt32))])) _
          refine XS.irem X0.here hx rfl (hb hby at_23) rfl (by decide) ?_
          show Steps p.tables e below (s₁.setTop (mkF m 24 #[.val (.long q1), .second, .val (.int p2), .val (.long (q1 &&& (2251799813685247 : Int64))), .second, .val (.long ((q1 &&& (2251799813685247 : Int64)) &&& (-1048576 : Int64))), .second, .unset, .unset, .unset] [(.int (((p2.toUInt32 >>> ((1 : Int32) &&& 31).toUInt32).toInt32) - (((p2.toUInt32 >>> ((1 : Int32) &&& 31).toUInt32).toInt32) / (3 : Int32)) * (3 : Int32)))])) _
          refine XS.iconst X0.here hx rfl (hb hby at_24) ?_
          show Steps p.tables e below (s₁.setTop (mkF m 25 #[.val (.long q1), .second, .val (.int p2), .val (.long (q1 &&& (2251799813685247 : Int64))), .second, .val (.long ((q1 &&& (2251799813685247 : Int64)) &&& (-1048576 : Int64))), .second, .unset, .unset, .unset] [(.int (1 : Int32)), (.int (((p2.toUInt32 >>> ((1 : Int32) &&& 31).toUInt32).toInt32) - (((p2.toUInt32 >>> ((1 : Int32) &&& 31).toUInt32).toInt32) / (3 : Int32)) * (3 : Int32)))])) _
          refine XS.isub X0.here hx rfl (hb hby at_25) rfl ?_
          show Steps p.tables e below (s₁.setTop (mkF m 26 #[.val (.long q1), .second, .val (.int p2), .val (.long (q1 &&& (2251799813685247 : Int64))), .second, .val (.long ((q1 &&& (2251799813685247 : Int64)) &&& (-1048576 : Int64))), .second, .unset, .unset, .unset] [(.int ((((p2.toUInt32 >>> ((1 : Int32) &&& 31).toUInt32).toInt32) - (((p2.toUInt32 >>> ((1 : Int32) &&& 31).toUInt32).toInt32) / (3 : Int32)) * (3 : Int32)) - (1 : Int32)))])) _
          refine XS.i2l X0.here hx rfl (hb hby at_26) rfl ?_
          show Steps p.tables e below (s₁.setTop (mkF m 27 #[.val (.long q1), .second, .val (.int p2), .val (.long (q1 &&& (2251799813685247 : Int64))), .second, .val (.long ((q1 &&& (2251799813685247 : Int64)) &&& (-1048576 : Int64))), .second, .unset, .unset, .unset] [(.long (((((p2.toUInt32 >>> ((1 : Int32) &&& 31).toUInt32).toInt32) - (((p2.toUInt32 >>> ((1 : Int32) &&& 31).toUInt32).toInt32) / (3 : Int32)) * (3 : Int32)) - (1 : Int32)).toInt64))])) _
          refine XS.lstore X0.here hx rfl (hb hby at_27) rfl (l' := #[.val (.long q1), .second, .val (.int p2), .val (.long (q1 &&& (2251799813685247 : Int64))), .second, .val (.long ((q1 &&& (2251799813685247 : Int64)) &&& (-1048576 : Int64))), .second, .val (.long (((((p2.toUInt32 >>> ((1 : Int32) &&& 31).toUInt32).toInt32) - (((p2.toUInt32 >>> ((1 : Int32) &&& 31).toUInt32).toInt32) / (3 : Int32)) * (3 : Int32)) - (1 : Int32)).toInt64)), .second, .unset]) rfl ?_
          show Steps p.tables e below (s₁.setTop (mkF m 29 #[.val (.long q1), .second, .val (.int p2), .val (.long (q1 &&& (2251799813685247 : Int64))), .second, .val (.long ((q1 &&& (2251799813685247 : Int64)) &&& (-1048576 : Int64))), .second, .val (.long (((((p2.toUInt32 >>> ((1 : Int32) &&& 31).toUInt32).toInt32) - (((p2.toUInt32 >>> ((1 : Int32) &&& 31).toUInt32).toInt32) / (3 : Int32)) * (3 : Int32)) - (1 : Int32)).toInt64)), .second, .unset] [])) _
          refine XS.lload X0.here hx rfl (hb hby at_29) rfl ?_
          show Steps p.tables e below (s₁.setTop (mkF m 31 #[.val (.long q1), .second, .val (.int p2), .val (.long (q1 &&& (2251799813685247 : Int64))), .second, .val (.long ((q1 &&& (2251799813685247 : Int64)) &&& (-1048576 : Int64))), .second, .val (.long (((((p2.toUInt32 >>> ((1 : Int32) &&& 31).toUInt32).toInt32) - (((p2.toUInt32 >>> ((1 : Int32) &&& 31).toUInt32).toInt32) / (3 : Int32)) * (3 : Int32)) - (1 : Int32)).toInt64)), .second, .unset] [(.long ((q1 &&& (2251799813685247 : Int64)) &&& (-1048576 : Int64)))])) _
          refine XS.lload X0.here hx rfl (hb hby at_31) rfl ?_
          show Steps p.tables e below (s₁.setTop (mkF m 33 #[.val (.long q1), .second, .val (.int p2), .val (.long (q1 &&& (2251799813685247 : Int64))), .second, .val (.long ((q1 &&& (2251799813685247 : Int64)) &&& (-1048576 : Int64))), .second, .val (.long (((((p2.toUInt32 >>> ((1 : Int32) &&& 31).toUInt32).toInt32) - (((p2.toUInt32 >>> ((1 : Int32) &&& 31).toUInt32).toInt32) / (3 : Int32)) * (3 : Int32)) - (1 : Int32)).toInt64)), .second, .unset] [(.long (((((p2.toUInt32 >>> ((1 : Int32) &&& 31).toUInt32).toInt32) - (((p2.toUInt32 >>> ((1 : Int32) &&& 31).toUInt32).toInt32) / (3 : Int32)) * (3 : Int32)) - (1 : Int32)).toInt64)), (.long ((q1 &&& (2251799813685247 : Int64)) &&& (-1048576 : Int64)))])) _
          refine XS.ladd X0.here hx rfl (hb hby at_33) rfl ?_
          show Steps p.tables e below (s₁.setTop (mkF m 34 #[.val (.long q1), .second, .val (.int p2), .val (.long (q1 &&& (2251799813685247 : Int64))), .second, .val (.long ((q1 &&& (2251799813685247 : Int64)) &&& (-1048576 : Int64))), .second, .val (.long (((((p2.toUInt32 >>> ((1 : Int32) &&& 31).toUInt32).toInt32) - (((p2.toUInt32 >>> ((1 : Int32) &&& 31).toUInt32).toInt32) / (3 : Int32)) * (3 : Int32)) - (1 : Int32)).toInt64)), .second, .unset] [(.long (((q1 &&& (2251799813685247 : Int64)) &&& (-1048576 : Int64)) + (((((p2.toUInt32 >>> ((1 : Int32) &&& 31).toUInt32).toInt32) - (((p2.toUInt32 >>> ((1 : Int32) &&& 31).toUInt32).toInt32) / (3 : Int32)) * (3 : Int32)) - (1 : Int32)).toInt64)))])) _
          refine XS.lstoreN X0.here hx rfl (hb hby at_34) rfl (l' := #[.val (.long q1), .second, .val (.int p2), .val (.long (((q1 &&& (2251799813685247 : Int64)) &&& (-1048576 : Int64)) + (((((p2.toUInt32 >>> ((1 : Int32) &&& 31).toUInt32).toInt32) - (((p2.toUInt32 >>> ((1 : Int32) &&& 31).toUInt32).toInt32) / (3 : Int32)) * (3 : Int32)) - (1 : Int32)).toInt64))), .second, .val (.long ((q1 &&& (2251799813685247 : Int64)) &&& (-1048576 : Int64))), .second, .val (.long (((((p2.toUInt32 >>> ((1 : Int32) &&& 31).toUInt32).toInt32) - (((p2.toUInt32 >>> ((1 : Int32) &&& 31).toUInt32).toInt32) / (3 : Int32)) * (3 : Int32)) - (1 : Int32)).toInt64)), .second, .unset]) rfl ?_
          show Steps p.tables e below (s₁.setTop (mkF m 35 #[.val (.long q1), .second, .val (.int p2), .val (.long (((q1 &&& (2251799813685247 : Int64)) &&& (-1048576 : Int64)) + (((((p2.toUInt32 >>> ((1 : Int32) &&& 31).toUInt32).toInt32) - (((p2.toUInt32 >>> ((1 : Int32) &&& 31).toUInt32).toInt32) / (3 : Int32)) * (3 : Int32)) - (1 : Int32)).toInt64))), .second, .val (.long ((q1 &&& (2251799813685247 : Int64)) &&& (-1048576 : Int64))), .second, .val (.long (((((p2.toUInt32 >>> ((1 : Int32) &&& 31).toUInt32).toInt32) - (((p2.toUInt32 >>> ((1 : Int32) &&& 31).toUInt32).toInt32) / (3 : Int32)) * (3 : Int32)) - (1 : Int32)).toInt64)), .second, .unset] [])) _
          refine XS.lloadN X0.here hx rfl (hb hby at_35) rfl ?_
          show Steps p.tables e below (s₁.setTop (mkF m 36 #[.val (.long q1), .second, .val (.int p2), .val (.long (((q1 &&& (2251799813685247 : Int64)) &&& (-1048576 : Int64)) + (((((p2.toUInt32 >>> ((1 : Int32) &&& 31).toUInt32).toInt32) - (((p2.toUInt32 >>> ((1 : Int32) &&& 31).toUInt32).toInt32) / (3 : Int32)) * (3 : Int32)) - (1 : Int32)).toInt64))), .second, .val (.long ((q1 &&& (2251799813685247 : Int64)) &&& (-1048576 : Int64))), .second, .val (.long (((((p2.toUInt32 >>> ((1 : Int32) &&& 31).toUInt32).toInt32) - (((p2.toUInt32 >>> ((1 : Int32) &&& 31).toUInt32).toInt32) / (3 : Int32)) * (3 : Int32)) - (1 : Int32)).toInt64)), .second, .unset] [(.long (((q1 &&& (2251799813685247 : Int64)) &&& (-1048576 : Int64)) + (((((p2.toUInt32 >>> ((1 : Int32) &&& 31).toUInt32).toInt32) - (((p2.toUInt32 >>> ((1 : Int32) &&& 31).toUInt32).toInt32) / (3 : Int32)) * (3 : Int32)) - (1 : Int32)).toInt64)))])) _
          refine XS.lconst X0.here hx rfl (hb hby at_36) ?_
          show Steps p.tables e below (s₁.setTop (mkF m 37 #[.val (.long q1), .second, .val (.int p2), .val (.long (((q1 &&& (2251799813685247 : Int64)) &&& (-1048576 : Int64)) + (((((p2.toUInt32 >>> ((1 : Int32) &&& 31).toUInt32).toInt32) - (((p2.toUInt32 >>> ((1 : Int32) &&& 31).toUInt32).toInt32) / (3 : Int32)) * (3 : Int32)) - (1 : Int32)).toInt64))), .second, .val (.long ((q1 &&& (2251799813685247 : Int64)) &&& (-1048576 : Int64))), .second, .val (.long (((((p2.toUInt32 >>> ((1 : Int32) &&& 31).toUInt32).toInt32) - (((p2.toUInt32 >>> ((1 : Int32) &&& 31).toUInt32).toInt32) / (3 : Int32)) * (3 : Int32)) - (1 : Int32)).toInt64)), .second, .unset] [(.long (0 : Int64)), (.long (((q1 &&& (2251799813685247 : Int64)) &&& (-1048576 : Int64)) + (((((p2.toUInt32 >>> ((1 : Int32) &&& 31).toUInt32).toInt32) - (((p2.toUInt32 >>> ((1 : Int32) &&& 31).toUInt32).toInt32) / (3 : Int32)) * (3 : Int32)) - (1 : Int32)).toInt64)))])) _
          refine XS.lcmp X0.here hx rfl (hb hby at_37) rfl ?_
          show Steps p.tables e below (s₁.setTop (mkF m 38 #[.val (.long q1), .second, .val (.int p2), .val (.long (((q1 &&& (2251799813685247 : Int64)) &&& (-1048576 : Int64)) + (((((p2.toUInt32 >>> ((1 : Int32) &&& 31).toUInt32).toInt32) - (((p2.toUInt32 >>> ((1 : Int32) &&& 31).toUInt32).toInt32) / (3 : Int32)) * (3 : Int32)) - (1 : Int32)).toInt64))), .second, .val (.long ((q1 &&& (2251799813685247 : Int64)) &&& (-1048576 : Int64))), .second, .val (.long (((((p2.toUInt32 >>> ((1 : Int32) &&& 31).toUInt32).toInt32) - (((p2.toUInt32 >>> ((1 : Int32) &&& 31).toUInt32).toInt32) / (3 : Int32)) * (3 : Int32)) - (1 : Int32)).toInt64)), .second, .unset] [(.int (lcmpW (((q1 &&& (2251799813685247 : Int64)) &&& (-1048576 : Int64)) + (((((p2.toUInt32 >>> ((1 : Int32) &&& 31).toUInt32).toInt32) - (((p2.toUInt32 >>> ((1 : Int32) &&& 31).toUInt32).toInt32) / (3 : Int32)) * (3 : Int32)) - (1 : Int32)).toInt64)) (0 : Int64)))])) _
          refine XS.ifYes X0.here hx rfl (pc0 := 38) (pc' := 43) rfl (hb hby at_38) rfl ((if0 _ _).trans (flt hc38).2.1) (by decide) (by decide) ?_
          exact kt
        · rw [lw_lt, Int64.lt_iff_toInt_lt] at hc38
          have e0 : (0 : Int64).toInt = 0 := rfl
          omega
    by_cases hc48 : (0 : Int32) < (lcmpW sz (2251799812636672 : Int64))
    · skip
      obtain ⟨fs, hr, hrun, hended, hW, hsame⟩ := X0.leave (v := some (.int (1 : Int32))) (fun h => by rw [Bd.returns] at h; cases h)
      refine ⟨_, _, pre0 _ (pre1 _ ?_), hrun, hended, _, _, rfl, ?_, ⟨_, rfl⟩, hW, hsame.mono (by decide) (by decide)⟩
      · show Steps p.tables e below (s₁.setTop (mkF m 43 #[.val (.long q1), .second, .val (.int p2), .val (.long sz), .second, .val (.long bs), .second, .val (.long dl), .second, .unset] [])) _
        refine XS.lloadN X0.here hx rfl (hb hby at_43) rfl ?_
        show Steps p.tables e below (s₁.setTop (mkF m 44 #[.val (.long q1), .second, .val (.int p2), .val (.long sz), .second, .val (.long bs), .second, .val (.long dl), .second, .unset] [(.long sz)])) _
        refine X0.ldc2Long hx hown (mvT hZ (hw _ (List.mem_of_getElem? (i := 1) rfl))) (g := (mkF m 44 #[.val (.long q1), .second, .val (.int p2), .val (.long sz), .second, .val (.long bs), .second, .val (.long dl), .second, .unset] [(.long sz)])) rfl (hb hby at_44) _ ?_
        show Steps p.tables e below (s₁.setTop (mkF m 47 #[.val (.long q1), .second, .val (.int p2), .val (.long sz), .second, .val (.long bs), .second, .val (.long dl), .second, .unset] [(.long (2251799812636672 : Int64)), (.long sz)])) _
        refine XS.lcmp X0.here hx rfl (hb hby at_47) rfl ?_
        show Steps p.tables e below (s₁.setTop (mkF m 48 #[.val (.long q1), .second, .val (.int p2), .val (.long sz), .second, .val (.long bs), .second, .val (.long dl), .second, .unset] [(.int (lcmpW sz (2251799812636672 : Int64)))])) _
        refine XS.ifNo X0.here hx rfl (hb hby at_48) rfl ((if0 _ _).trans (tlt hc48).2.2.2) ?_
        show Steps p.tables e below (s₁.setTop (mkF m 51 #[.val (.long q1), .second, .val (.int p2), .val (.long sz), .second, .val (.long bs), .second, .val (.long dl), .second, .unset] [])) _
        refine XS.iconst X0.here hx rfl (hb hby at_51) ?_
        show Steps p.tables e below (s₁.setTop (mkF m 52 #[.val (.long q1), .second, .val (.int p2), .val (.long sz), .second, .val (.long bs), .second, .val (.long dl), .second, .unset] [(.int (1 : Int32))])) _
        exact retN X0 hx (t := .boolean) Bd.returns (by simp) (hb hby at_52) hr
      · show Q0 Z q1 p2 h0 n0 _ s₁.heap _
        rw [e0]
        exact ⟨rfl, N0⟩
    obtain ⟨r1, hr1⟩ : ∃ z : Int32, z = if (lcmpW sz (0 : Int64)) = (0 : Int32) then (1 : Int32) else ((((sz - (1 : Int64)) / (1048576 : Int64)) + (1 : Int64)).toInt32) := ⟨_, rfl⟩
    by_cases hc62 : (lcmpW sz (0 : Int64)) = (0 : Int32)
    · skip
      obtain ⟨_, _, ⟨T3, L3, k3, n3⟩, -, X3, ⟨Lc3, hQ3, l3, y3, z3⟩, st3⟩ := Jvm.LawKit.callS X0 hx (y := (⟨"com/example/graticule/graticule/blobs/BlockSums", "blocks", "(J)I"⟩ : MethodName)) hown (mvT hZ (hw _ (List.mem_of_getElem? (i := 2) rfl))) (mvT hZ (hw _ (List.mem_of_getElem? (i := 3) rfl))) (mvT hZ (hw _ (List.mem_of_getElem? (i := 4) rfl))) (mvT hZ (hw _ (List.mem_of_getElem? (i := 5) rfl))) (by decide) (backOf (W := 0) (rm1 l Z a0 hw [] sz r1 h0 n0 Z0 hr1) hZ (hw _ (List.mem_of_getElem? (i := 5) rfl)) (hw _ (List.mem_of_getElem? (i := 4) rfl)) (by decide) (by decide)) (g := (mkF m 54 #[.val (.long q1), .second, .val (.int p2), .val (.long sz), .second, .val (.long bs), .second, .val (.long dl), .second, .unset] [(.long sz)])) rfl (by rw [hml]; rfl) (argsL := [(.long sz)]) (rest := []) (lenOf pd_0_0 rfl) rfl (by show 2 * 0 + _ ≤ _; exact Nat.le_of_eq rfl) (hb hby at_54) (fun _ _ => ⟨rfl, e0, (by decide : 0 + 0 ≤ _), (by decide : 0 + 0 ≤ _)⟩)
      dsimp only [Pt.U, Pt.locs, Pt.cells, Pt.slots] at X3 l3 y3 z3 st3 hQ3
      subst l3 y3 z3
      obtain ⟨rfl, N3q, e3⟩ := hQ3
      have N3 := Fr.app N0 N3q
      obtain ⟨fs, hr, hrun, hended, hW, hsame⟩ := X3.leave (v := some (.int (1 : Int32))) (fun h => by rw [Bd.returns] at h; cases h)
      refine ⟨_, _, pre0 _ (pre1 _ ?_), hrun, hended, _, _, rfl, ?_, ⟨_, rfl⟩, hW, hsame.mono (by decide) (by decide)⟩
      · show Steps p.tables e below (s₁.setTop (mkF m 43 #[.val (.long q1), .second, .val (.int p2), .val (.long sz), .second, .val (.long bs), .second, .val (.long dl), .second, .unset] [])) _
        refine XS.lloadN X0.here hx rfl (hb hby at_43) rfl ?_
        show Steps p.tables e below (s₁.setTop (mkF m 44 #[.val (.long q1), .second, .val (.int p2), .val (.long sz), .second, .val (.long bs), .second, .val (.long dl), .second, .unset] [(.long sz)])) _
        refine X0.ldc2Long hx hown (mvT hZ (hw _ (List.mem_of_getElem? (i := 1) rfl))) (g := (mkF m 44 #[.val (.long q1), .second, .val (.int p2), .val (.long sz), .second, .val (.long bs), .second, .val (.long dl), .second, .unset] [(.long sz)])) rfl (hb hby at_44) _ ?_
        show Steps p.tables e below (s₁.setTop (mkF m 47 #[.val (.long q1), .second, .val (.int p2), .val (.long sz), .second, .val (.long bs), .second, .val (.long dl), .second, .unset] [(.long (2251799812636672 : Int64)), (.long sz)])) _
        refine XS.lcmp X0.here hx rfl (hb hby at_47) rfl ?_
        show Steps p.tables e below (s₁.setTop (mkF m 48 #[.val (.long q1), .second, .val (.int p2), .val (.long sz), .second, .val (.long bs), .second, .val (.long dl), .second, .unset] [(.int (lcmpW sz (2251799812636672 : Int64)))])) _
        refine XS.ifYes X0.here hx rfl (pc0 := 48) (pc' := 53) rfl (hb hby at_48) rfl ((if0 _ _).trans (flt hc48).2.2.2) (by decide) (by decide) ?_
        show Steps p.tables e below (s₁.setTop (mkF m 53 #[.val (.long q1), .second, .val (.int p2), .val (.long sz), .second, .val (.long bs), .second, .val (.long dl), .second, .unset] [])) _
        refine XS.lloadN X0.here hx rfl (hb hby at_53) rfl ?_
        show Steps p.tables e below (s₁.setTop (mkF m 54 #[.val (.long q1), .second, .val (.int p2), .val (.long sz), .second, .val (.long bs), .second, .val (.long dl), .second, .unset] [(.long sz)])) _
        refine st3 _ ?_
        show Steps p.tables e below (T3.setTop (mkF m 57 #[.val (.long q1), .second, .val (.int p2), .val (.long sz), .second, .val (.long bs), .second, .val (.long dl), .second, .unset] [(.int r1)])) _
        refine XS.istore X3.here hx rfl (hb hby at_57) rfl (l' := #[.val (.long q1), .second, .val (.int p2), .val (.long sz), .second, .val (.int r1), .unset, .val (.long dl), .second, .unset]) rfl ?_
        show Steps p.tables e below (T3.setTop (mkF m 59 #[.val (.long q1), .second, .val (.int p2), .val (.long sz), .second, .val (.int r1), .unset, .val (.long dl), .second, .unset] [])) _
        refine XS.lloadN X3.here hx rfl (hb hby at_59) rfl ?_
        show Steps p.tables e below (T3.setTop (mkF m 60 #[.val (.long q1), .second, .val (.int p2), .val (.long sz), .second, .val (.int r1), .unset, .val (.long dl), .second, .unset] [(.long sz)])) _
        refine XS.lconst X3.here hx rfl (hb hby at_60) ?_
        show Steps p.tables e below (T3.setTop (mkF m 61 #[.val (.long q1), .second, .val (.int p2), .val (.long sz), .second, .val (.int r1), .unset, .val (.long dl), .second, .unset] [(.long (0 : Int64)), (.long sz)])) _
        refine XS.lcmp X3.here hx rfl (hb hby at_61) rfl ?_
        show Steps p.tables e below (T3.setTop (mkF m 62 #[.val (.long q1), .second, .val (.int p2), .val (.long sz), .second, .val (.int r1), .unset, .val (.long dl), .second, .unset] [(.int (lcmpW sz (0 : Int64)))])) _
        refine XS.ifNo X3.here hx rfl (hb hby at_62) rfl ((if0 _ _).trans (teq hc62).2) ?_
        show Steps p.tables e below (T3.setTop (mkF m 65 #[.val (.long q1), .second, .val (.int p2), .val (.long sz), .second, .val (.int r1), .unset, .val (.long dl), .second, .unset] [])) _
        refine XS.iload X3.here hx rfl (hb hby at_65) rfl ?_
        show Steps p.tables e below (T3.setTop (mkF m 67 #[.val (.long q1), .second, .val (.int p2), .val (.long sz), .second, .val (.int r1), .unset, .val (.long dl), .second, .unset] [(.int r1)])) _
        refine XS.iconst X3.here hx rfl (hb hby at_67) ?_
        show Steps p.tables e below (T3.setTop (mkF m 68 #[.val (.long q1), .second, .val (.int p2), .val (.long sz), .second, .val (.int r1), .unset, .val (.long dl), .second, .unset] [(.int (1 : Int32)), (.int r1)])) _
        refine XS.icmpNo X3.here hx rfl (hb hby at_68) rfl (teq (own_blocks0 hr1 hc62)).2 ?_
        show Steps p.tables e below (T3.setTop (mkF m 71 #[.val (.long q1), .second, .val (.int p2), .val (.long sz), .second, .val (.int r1), .unset, .val (.long dl), .second, .unset] [])) _
        refine XS.iconst X3.here hx rfl (hb hby at_71) ?_
        show Steps p.tables e below (T3.setTop (mkF m 72 #[.val (.long q1), .second, .val (.int p2), .val (.long sz), .second, .val (.int r1), .unset, .val (.long dl), .second, .unset] [(.int (1 : Int32))])) _
        refine XS.goto X3.here hx rfl (pc0 := 72) (pc' := 76) rfl (hb hby at_72) (by decide) (by decide) ?_
        show Steps p.tables e below (T3.setTop (mkF m 76 #[.val (.long q1), .second, .val (.int p2), .val (.long sz), .second, .val (.int r1), .unset, .val (.long dl), .second, .unset] [(.int (1 : Int32))])) _
        exact retN X3 hx (t := .boolean) Bd.returns (by simp) (hb hby at_76) hr
      · show Q0 Z q1 p2 h0 n0 _ T3.heap _
        rw [e3]
        exact ⟨rfl, N3⟩
    have hq := own_blocks1 hr1 hsz hc62 hc48
    obtain ⟨_, _, ⟨T3, L3, k3, n3⟩, -, X3, ⟨Lc3, hQ3, l3, y3, z3⟩, st3⟩ := Jvm.LawKit.callS X0 hx (y := (⟨"com/example/graticule/graticule/blobs/BlockSums", "blocks", "(J)I"⟩ : MethodName)) hown (mvT hZ (hw _ (List.mem_of_getElem? (i := 2) rfl))) (mvT hZ (hw _ (List.mem_of_getElem? (i := 3) rfl))) (mvT hZ (hw _ (List.mem_of_getElem? (i := 4) rfl))) (mvT hZ (hw _ (List.mem_of_getElem? (i := 5) rfl))) (by decide) (backOf (W := 0) (rm1 l Z a0 hw [] sz r1 h0 n0 Z0 hr1) hZ (hw _ (List.mem_of_getElem? (i := 5) rfl)) (hw _ (List.mem_of_getElem? (i := 4) rfl)) (by decide) (by decide)) (g := (mkF m 54 #[.val (.long q1), .second, .val (.int p2), .val (.long sz), .second, .val (.long bs), .second, .val (.long dl), .second, .unset] [(.long sz)])) rfl (by rw [hml]; rfl) (argsL := [(.long sz)]) (rest := []) (lenOf pd_0_0 rfl) rfl (by show 2 * 0 + _ ≤ _; exact Nat.le_of_eq rfl) (hb hby at_54) (fun _ _ => ⟨rfl, e0, (by decide : 0 + 0 ≤ _), (by decide : 0 + 0 ≤ _)⟩)
    dsimp only [Pt.U, Pt.locs, Pt.cells, Pt.slots] at X3 l3 y3 z3 st3 hQ3
    subst l3 y3 z3
    obtain ⟨rfl, N3q, e3⟩ := hQ3
    have N3 := Fr.app N0 N3q
    obtain ⟨fs, hr, hrun, hended, hW, hsame⟩ := X3.leave (v := some (.int (1 : Int32))) (fun h => by rw [Bd.returns] at h; cases h)
    refine ⟨_, _, pre0 _ (pre1 _ ?_), hrun, hended, _, _, rfl, ?_, ⟨_, rfl⟩, hW, hsame.mono (by decide) (by decide)⟩
    · show Steps p.tables e below (s₁.setTop (mkF m 43 #[.val (.long q1), .second, .val (.int p2), .val (.long sz), .second, .val (.long bs), .second, .val (.long dl), .second, .unset] [])) _
      refine XS.lloadN X0.here hx rfl (hb hby at_43) rfl ?_
      show Steps p.tables e below (s₁.setTop (mkF m 44 #[.val (.long q1), .second, .val (.int p2), .val (.long sz), .second, .val (.long bs), .second, .val (.long dl), .second, .unset] [(.long sz)])) _
      refine X0.ldc2Long hx hown (mvT hZ (hw _ (List.mem_of_getElem? (i := 1) rfl))) (g := (mkF m 44 #[.val (.long q1), .second, .val (.int p2), .val (.long sz), .second, .val (.long bs), .second, .val (.long dl), .second, .unset] [(.long sz)])) rfl (hb hby at_44) _ ?_
      show Steps p.tables e below (s₁.setTop (mkF m 47 #[.val (.long q1), .second, .val (.int p2), .val (.long sz), .second, .val (.long bs), .second, .val (.long dl), .second, .unset] [(.long (2251799812636672 : Int64)), (.long sz)])) _
      refine XS.lcmp X0.here hx rfl (hb hby at_47) rfl ?_
      show Steps p.tables e below (s₁.setTop (mkF m 48 #[.val (.long q1), .second, .val (.int p2), .val (.long sz), .second, .val (.long bs), .second, .val (.long dl), .second, .unset] [(.int (lcmpW sz (2251799812636672 : Int64)))])) _
      refine XS.ifYes X0.here hx rfl (pc0 := 48) (pc' := 53) rfl (hb hby at_48) rfl ((if0 _ _).trans (flt hc48).2.2.2) (by decide) (by decide) ?_
      show Steps p.tables e below (s₁.setTop (mkF m 53 #[.val (.long q1), .second, .val (.int p2), .val (.long sz), .second, .val (.long bs), .second, .val (.long dl), .second, .unset] [])) _
      refine XS.lloadN X0.here hx rfl (hb hby at_53) rfl ?_
      show Steps p.tables e below (s₁.setTop (mkF m 54 #[.val (.long q1), .second, .val (.int p2), .val (.long sz), .second, .val (.long bs), .second, .val (.long dl), .second, .unset] [(.long sz)])) _
      refine st3 _ ?_
      show Steps p.tables e below (T3.setTop (mkF m 57 #[.val (.long q1), .second, .val (.int p2), .val (.long sz), .second, .val (.long bs), .second, .val (.long dl), .second, .unset] [(.int r1)])) _
      refine XS.istore X3.here hx rfl (hb hby at_57) rfl (l' := #[.val (.long q1), .second, .val (.int p2), .val (.long sz), .second, .val (.int r1), .unset, .val (.long dl), .second, .unset]) rfl ?_
      show Steps p.tables e below (T3.setTop (mkF m 59 #[.val (.long q1), .second, .val (.int p2), .val (.long sz), .second, .val (.int r1), .unset, .val (.long dl), .second, .unset] [])) _
      refine XS.lloadN X3.here hx rfl (hb hby at_59) rfl ?_
      show Steps p.tables e below (T3.setTop (mkF m 60 #[.val (.long q1), .second, .val (.int p2), .val (.long sz), .second, .val (.int r1), .unset, .val (.long dl), .second, .unset] [(.long sz)])) _
      refine XS.lconst X3.here hx rfl (hb hby at_60) ?_
      show Steps p.tables e below (T3.setTop (mkF m 61 #[.val (.long q1), .second, .val (.int p2), .val (.long sz), .second, .val (.int r1), .unset, .val (.long dl), .second, .unset] [(.long (0 : Int64)), (.long sz)])) _
      refine XS.lcmp X3.here hx rfl (hb hby at_61) rfl ?_
      show Steps p.tables e below (T3.setTop (mkF m 62 #[.val (.long q1), .second, .val (.int p2), .val (.long sz), .second, .val (.int r1), .unset, .val (.long dl), .second, .unset] [(.int (lcmpW sz (0 : Int64)))])) _
      refine XS.ifYes X3.here hx rfl (pc0 := 62) (pc' := 77) rfl (hb hby at_62) rfl ((if0 _ _).trans (feq hc62).2) (by decide) (by decide) ?_
      show Steps p.tables e below (T3.setTop (mkF m 77 #[.val (.long q1), .second, .val (.int p2), .val (.long sz), .second, .val (.int r1), .unset, .val (.long dl), .second, .unset] [])) _
      refine XS.iload X3.here hx rfl (hb hby at_77) rfl ?_
      show Steps p.tables e below (T3.setTop (mkF m 79 #[.val (.long q1), .second, .val (.int p2), .val (.long sz), .second, .val (.int r1), .unset, .val (.long dl), .second, .unset] [(.int r1)])) _
      refine XS.iconst X3.here hx rfl (hb hby at_79) ?_
      show Steps p.tables e below (T3.setTop (mkF m 80 #[.val (.long q1), .second, .val (.int p2), .val (.long sz), .second, .val (.int r1), .unset, .val (.long dl), .second, .unset] [(.int (1 : Int32)), (.int r1)])) _
      refine XS.icmpYes X3.here hx rfl (pc0 := 80) (pc' := 85) rfl (hb hby at_80) rfl (flt hq.1).2.1 (by decide) (by decide) ?_
      show Steps p.tables e below (T3.setTop (mkF m 85 #[.val (.long q1), .second, .val (.int p2), .val (.long sz), .second, .val (.int r1), .unset, .val (.long dl), .second, .unset] [])) _
      refine XS.iload X3.here hx rfl (hb hby at_85) rfl ?_
      show Steps p.tables e below (T3.setTop (mkF m 87 #[.val (.long q1), .second, .val (.int p2), .val (.long sz), .second, .val (.int r1), .unset, .val (.long dl), .second, .unset] [(.int r1)])) _
      refine XS.iconst X3.here hx rfl (hb hby at_87) ?_
      show Steps p.tables e below (T3.setTop (mkF m 88 #[.val (.long q1), .second, .val (.int p2), .val (.long sz), .second, .val (.int r1), .unset, .val (.long dl), .second, .unset] [(.int (1 : Int32)), (.int r1)])) _
      refine XS.isub X3.here hx rfl (hb hby at_88) rfl ?_
      show Steps p.tables e below (T3.setTop (mkF m 89 #[.val (.long q1), .second, .val (.int p2), .val (.long sz), .second, .val (.int r1), .unset, .val (.long dl), .second, .unset] [(.int (r1 - (1 : Int32)))])) _
      refine XS.i2l X3.here hx rfl (hb hby at_89) rfl ?_
      show Steps p.tables e below (T3.setTop (mkF m 90 #[.val (.long q1), .second, .val (.int p2), .val (.long sz), .second, .val (.int r1), .unset, .val (.long dl), .second, .unset] [(.long ((r1 - (1 : Int32)).toInt64))])) _
      refine X3.ldc2Long hx hown (mvT hZ (hw _ (List.mem_of_getElem? (i := 7) rfl))) (g := (mkF m 90 #[.val (.long q1), .second, .val (.int p2), .val (.long sz), .second, .val (.int r1), .unset, .val (.long dl), .second, .unset] [(.long ((r1 - (1 : Int32)).toInt64))])) rfl (hb hby at_90) _ ?_
      show Steps p.tables e below (T3.setTop (mkF m 93 #[.val (.long q1), .second, .val (.int p2), .val (.long sz), .second, .val (.int r1), .unset, .val (.long dl), .second, .unset] [(.long (1048576 : Int64)), (.long ((r1 - (1 : Int32)).toInt64))])) _
      refine XS.lmul X3.here hx rfl (hb hby at_93) rfl ?_
      show Steps p.tables e below (T3.setTop (mkF m 94 #[.val (.long q1), .second, .val (.int p2), .val (.long sz), .second, .val (.int r1), .unset, .val (.long dl), .second, .unset] [(.long (((r1 - (1 : Int32)).toInt64) * (1048576 : Int64)))])) _
      refine XS.lstore X3.here hx rfl (hb hby at_94) rfl (l' := #[.val (.long q1), .second, .val (.int p2), .val (.long sz), .second, .val (.int r1), .val (.long (((r1 - (1 : Int32)).toInt64) * (1048576 : Int64))), .second, .unset, .unset]) rfl ?_
      show Steps p.tables e below (T3.setTop (mkF m 96 #[.val (.long q1), .second, .val (.int p2), .val (.long sz), .second, .val (.int r1), .val (.long (((r1 - (1 : Int32)).toInt64) * (1048576 : Int64))), .second, .unset, .unset] [])) _
      refine XS.iload X3.here hx rfl (hb hby at_96) rfl ?_
      show Steps p.tables e below (T3.setTop (mkF m 98 #[.val (.long q1), .second, .val (.int p2), .val (.long sz), .second, .val (.int r1), .val (.long (((r1 - (1 : Int32)).toInt64) * (1048576 : Int64))), .second, .unset, .unset] [(.int r1)])) _
      refine XS.i2l X3.here hx rfl (hb hby at_98) rfl ?_
      show Steps p.tables e below (T3.setTop (mkF m 99 #[.val (.long q1), .second, .val (.int p2), .val (.long sz), .second, .val (.int r1), .val (.long (((r1 - (1 : Int32)).toInt64) * (1048576 : Int64))), .second, .unset, .unset] [(.long (r1.toInt64))])) _
      refine X3.ldc2Long hx hown (mvT hZ (hw _ (List.mem_of_getElem? (i := 7) rfl))) (g := (mkF m 99 #[.val (.long q1), .second, .val (.int p2), .val (.long sz), .second, .val (.int r1), .val (.long (((r1 - (1 : Int32)).toInt64) * (1048576 : Int64))), .second, .unset, .unset] [(.long (r1.toInt64))])) rfl (hb hby at_99) _ ?_
      show Steps p.tables e below (T3.setTop (mkF m 102 #[.val (.long q1), .second, .val (.int p2), .val (.long sz), .second, .val (.int r1), .val (.long (((r1 - (1 : Int32)).toInt64) * (1048576 : Int64))), .second, .unset, .unset] [(.long (1048576 : Int64)), (.long (r1.toInt64))])) _
      refine XS.lmul X3.here hx rfl (hb hby at_102) rfl ?_
      show Steps p.tables e below (T3.setTop (mkF m 103 #[.val (.long q1), .second, .val (.int p2), .val (.long sz), .second, .val (.int r1), .val (.long (((r1 - (1 : Int32)).toInt64) * (1048576 : Int64))), .second, .unset, .unset] [(.long ((r1.toInt64) * (1048576 : Int64)))])) _
      refine XS.lstore X3.here hx rfl (hb hby at_103) rfl (l' := #[.val (.long q1), .second, .val (.int p2), .val (.long sz), .second, .val (.int r1), .val (.long (((r1 - (1 : Int32)).toInt64) * (1048576 : Int64))), .second, .val (.long ((r1.toInt64) * (1048576 : Int64))), .second]) rfl ?_
      show Steps p.tables e below (T3.setTop (mkF m 105 #[.val (.long q1), .second, .val (.int p2), .val (.long sz), .second, .val (.int r1), .val (.long (((r1 - (1 : Int32)).toInt64) * (1048576 : Int64))), .second, .val (.long ((r1.toInt64) * (1048576 : Int64))), .second] [])) _
      refine XS.lload X3.here hx rfl (hb hby at_105) rfl ?_
      show Steps p.tables e below (T3.setTop (mkF m 107 #[.val (.long q1), .second, .val (.int p2), .val (.long sz), .second, .val (.int r1), .val (.long (((r1 - (1 : Int32)).toInt64) * (1048576 : Int64))), .second, .val (.long ((r1.toInt64) * (1048576 : Int64))), .second] [(.long (((r1 - (1 : Int32)).toInt64) * (1048576 : Int64)))])) _
      refine XS.lloadN X3.here hx rfl (hb hby at_107) rfl ?_
      show Steps p.tables e below (T3.setTop (mkF m 108 #[.val (.long q1), .second, .val (.int p2), .val (.long sz), .second, .val (.int r1), .val (.long (((r1 - (1 : Int32)).toInt64) * (1048576 : Int64))), .second, .val (.long ((r1.toInt64) * (1048576 : Int64))), .second] [(.long sz), (.long (((r1 - (1 : Int32)).toInt64) * (1048576 : Int64)))])) _
      refine XS.lcmp X3.here hx rfl (hb hby at_108) rfl ?_
      show Steps p.tables e below (T3.setTop (mkF m 109 #[.val (.long q1), .second, .val (.int p2), .val (.long sz), .second, .val (.int r1), .val (.long (((r1 - (1 : Int32)).toInt64) * (1048576 : Int64))), .second, .val (.long ((r1.toInt64) * (1048576 : Int64))), .second] [(.int (lcmpW (((r1 - (1 : Int32)).toInt64) * (1048576 : Int64)) sz))])) _
      refine XS.ifNo X3.here hx rfl (hb hby at_109) rfl ((if0 _ _).trans (tlt hq.2.1).2.1) ?_
      show Steps p.tables e below (T3.setTop (mkF m 112 #[.val (.long q1), .second, .val (.int p2), .val (.long sz), .second, .val (.int r1), .val (.long (((r1 - (1 : Int32)).toInt64) * (1048576 : Int64))), .second, .val (.long ((r1.toInt64) * (1048576 : Int64))), .second] [])) _
      refine XS.lloadN X3.here hx rfl (hb hby at_112) rfl ?_
      show Steps p.tables e below (T3.setTop (mkF m 113 #[.val (.long q1), .second, .val (.int p2), .val (.long sz), .second, .val (.int r1), .val (.long (((r1 - (1 : Int32)).toInt64) * (1048576 : Int64))), .second, .val (.long ((r1.toInt64) * (1048576 : Int64))), .second] [(.long sz)])) _
      refine XS.lload X3.here hx rfl (hb hby at_113) rfl ?_
      show Steps p.tables e below (T3.setTop (mkF m 115 #[.val (.long q1), .second, .val (.int p2), .val (.long sz), .second, .val (.int r1), .val (.long (((r1 - (1 : Int32)).toInt64) * (1048576 : Int64))), .second, .val (.long ((r1.toInt64) * (1048576 : Int64))), .second] [(.long ((r1.toInt64) * (1048576 : Int64))), (.long sz)])) _
      refine XS.lcmp X3.here hx rfl (hb hby at_115) rfl ?_
      show Steps p.tables e below (T3.setTop (mkF m 116 #[.val (.long q1), .second, .val (.int p2), .val (.long sz), .second, .val (.int r1), .val (.long (((r1 - (1 : Int32)).toInt64) * (1048576 : Int64))), .second, .val (.long ((r1.toInt64) * (1048576 : Int64))), .second] [(.int (lcmpW sz ((r1.toInt64) * (1048576 : Int64))))])) _
      refine XS.ifNo X3.here hx rfl (hb hby at_116) rfl ((if0 _ _).trans (flt hq.2.2).2.2.1) ?_
      show Steps p.tables e below (T3.setTop (mkF m 119 #[.val (.long q1), .second, .val (.int p2), .val (.long sz), .second, .val (.int r1), .val (.long (((r1 - (1 : Int32)).toInt64) * (1048576 : Int64))), .second, .val (.long ((r1.toInt64) * (1048576 : Int64))), .second] [])) _
      refine XS.iconst X3.here hx rfl (hb hby at_119) ?_
      show Steps p.tables e below (T3.setTop (mkF m 120 #[.val (.long q1), .second, .val (.int p2), .val (.long sz), .second, .val (.int r1), .val (.long (((r1 - (1 : Int32)).toInt64) * (1048576 : Int64))), .second, .val (.long ((r1.toInt64) * (1048576 : Int64))), .second] [(.int (1 : Int32))])) _
      refine XS.goto X3.here hx rfl (pc0 := 120) (pc' := 124) rfl (hb hby at_120) (by decide) (by decide) ?_
      show Steps p.tables e below (T3.setTop (mkF m 124 #[.val (.long q1), .second, .val (.int p2), .val (.long sz), .second, .val (.int r1), .val (.long (((r1 - (1 : Int32)).toInt64) * (1048576 : Int64))), .second, .val (.long ((r1.toInt64) * (1048576 : Int64))), .second] [(.int (1 : Int32))])) _
      exact retN X3 hx (t := .boolean) Bd.returns (by simp) (hb hby at_124) hr
    · show Q0 Z q1 p2 h0 n0 _ T3.heap _
      rw [e3]
      exact ⟨rfl, N3⟩
set_option maxRecDepth 65536 in
set_option maxHeartbeats 40000000 in
theorem comes_1 {Post : Tables → Env → Array Value → State → Outcome → State → Prop} (hpost : ∀ tb e args s v u, (limb_1_1.after args s (.returned v) u = true ∧ limb_1_2.after args s (.returned v) u = true ∧ True) → FrameEnd s (.returned v) u (Jvm.fieldLocs frame_1_writes args s ++ Jvm.arrayLocs frame_1_arrays args s ++ Jvm.staticLocs frame_1_statics s) 0 0 → Post tb e args s (.returned v) u) :
    ArmFor flags0 classFile x code maxLocals ret World_1 tables_1 room_1 Calls_1 rest_1 Pre_1 Post := by
  intro l hfl _ _ p e ha hc hk s m args below hf hA hF happ hP
  obtain ⟨hcalls, hrest, hpre⟩ := hP
  obtain ⟨-, -, -, hnamed, -, -, -, hat⟩ := (Spec.applies_iff hf).mp happ
  obtain ⟨hg, hn⟩ := and_e (Cond.before_iff.mp (show (Jvm.Cond.and given_1 narrow_1).before args s = true from hpre))
  obtain ⟨g3, g4⟩ := and_e hg
  obtain ⟨g5, g6⟩ := and_e g4
  obtain ⟨w0, w1, rfl⟩ : ∃ w0 w1 : Value, args = #[w0, w1] := by
    have hs : args.size = 2 := by simpa [Cond.value, given_1] using g3
    obtain ⟨L⟩ := args
    match L, hs with
    | [w0, w1], _ => exact ⟨w0, w1, rfl⟩
  have hw := fun d (hd : d ∈ tables_1) => atoms_spec (ws := Jvm.Cond.code x code maxLocals ret :: tables_1) hat d (List.mem_cons_of_mem _ hd)
  have hfit : Fit s := fun {y c} hc i hi => by
    obtain ⟨ha, rfl⟩ := Array.getElem?_eq_some_iff.mp hc
    have q := List.all_eq_true.mp ((Array.all_eq_true_iff_forall_mem.mp hF) _ (Array.getElem_mem ha)) i (List.mem_range.mpr hi)
    simpa [Array.getElem?_eq_getElem hi] using q
  obtain ⟨i0, ei0⟩ := isL_v g5
  obtain rfl : w0 = (.long i0) := Option.some.inj ei0
  obtain ⟨i1, ei1⟩ := is_v g6
  obtain rfl : w1 = (.int i1) := Option.some.inj ei1
  obtain ⟨n, o, h1, h2, h3, _, L, rfl, ⟨rfl, N⟩, hq⟩ := rm0 l s _ hw tables_1 i0 i1 s.heap s.heap.size (Nat.le_refl _) p e ha hc hk s m _ below hf ((Spec.applies_iff_loose hf).mp happ).1 ⟨rfl, State.Warmed39.refl s, rfl⟩ trivial
  refine ⟨n, _, h1, h2, h3, hpost _ _ _ _ _ _ ⟨Cond.after_iff.mpr rfl, Cond.after_iff.mpr (eq_i res_at (Term.int_eval (1)) rfl), trivial⟩ ⟨hq.1, hq.2.1, (hq.2.2.sift fun y hy => Or.inr (N y hy)).mono (by decide) (by decide)⟩⟩
theorem main_1_1 : Claimed_1_1 := comes_1 fun _ _ _ _ _ _ h hF => ⟨h.1, hF⟩
theorem main_1_2 : Claimed_1_2 := comes_1 fun _ _ _ _ _ _ h hF => ⟨h.2.1, hF⟩
end Jvm.Pilot.@@N@@
namespace Jvm.Pilot.@@N@@
open Jvm Jvm.ClassFile Sem Op Lib Jvm.Free Jvm.Stand Jvm.Pilot.@@N@@.Jvm.D
/-! MADE BY PROGRAM (witnessworld.py) out of the Statement's table words and the real class files: 9 classes; the members and pool entries that the words name. The judged class is class 1, her method 1. -/
namespace start1
open Jvm.ClassFile
def u (s : String) : CpInfo := .utf8 (stringToUtf16 s)
/-- a pool by its gaps: so many unusable entries, then the entry; so many at the end -/
def gap : Nat → List CpInfo → List CpInfo
  | 0, r => r
  | n + 1, r => .unusable :: gap n r
def poolList (es : List (Nat × CpInfo)) (last : Nat) : List CpInfo := es.foldr (fun e r => gap e.1 (e.2 :: r)) (gap last [])
def pool (es : List (Nat × CpInfo)) (last : Nat) : Array CpInfo := ⟨poolList es last⟩
def fileOf (pool : Array CpInfo) (this : Nat) (attrs : Array Attribute := #[]) (ms : Array MethodInfo := #[]) (fl : Nat := 33) (sup : Nat := 0) (ifs : Array Nat := #[]) (fds : Array FieldInfo := #[]) : ClassFile where
  minorVersion := 0
  majorVersion := 65
  constantPool := pool
  accessFlags := fl
  thisClass := this
  superClass := sup
  interfaces := ifs
  fields := fds
  methods := ms
  attributes := attrs
def plain (name : String) (sup : Option ClassId) : Class where
  name := name
  kind := .ordinary
  loader := none
  accessFlags := 33
  super := sup
  interfaces := #[]
  cf := none
  fields := #[]
  methods := #[]
  instanceTypes := #[]
  staticTypes := #[]
  resolved := #[]
  callSites := []
  init := .initialized
  statics := none
  mirror := none

def pool0 : Array CpInfo := pool [(5, u "<init>"), (0, u "()V"), (1, .class_ 10), (1, u "java/lang/Object")] 113

def k0m0 : Method := { name := "<init>", desc := "()V", sig := { parameters := [], returnType := none }, accessFlags := 1, code := none }
/-- java/lang/Object -/
def k0 : Class := { plain "java/lang/Object" none with
  accessFlags := 33
  interfaces := #[]
  cf := some (fileOf pool0 8 #[] #[{ accessFlags := 1, nameIndex := 5, descriptorIndex := 6, attributes := #[] }] 33 0 #[] #[])
  fields := #[]
  methods := #[k0m0]
  instanceTypes := #[]
  staticTypes := #[]
  resolved := Array.replicate 124 none
  statics := none }

def pool1 : Array CpInfo := pool [(2, .class_ 4), (1, u "java/lang/Object"), (0, u "<init>"), (0, u "()V"), (0, .long 2251799813685247), (1, .class_ 10), (0, u "com/example/graticule/graticule/blobs/BlockSumsBlocksPinLaw"), (0, .long 18446744073708503040), (1, .long 2251799812636672), (1, .methodref 16 17), (0, .class_ 18), (0, .nameAndType 19 20), (0, u "com/example/graticule/graticule/blobs/BlockSums"), (0, u "blocks"), (0, u "(J)I"), (0, .long 1048576), (1, u "B"), (0, u "J"), (1, u "MAX_SIZE"), (2, u "law"), (0, u "(JI)Z")] 3

def k1m0 : Method := { name := "<init>", desc := "()V", sig := { parameters := [], returnType := none }, accessFlags := 1, code := none }
def k1c1 : Code := { maxStack := 4, maxLocals := 10, code := code, exceptionTable := #[], attributes := #[] }
def k1m1 : Method := { name := "law", desc := "(JI)Z", sig := { parameters := [.long, .int], returnType := some .boolean }, accessFlags := 9, code := some k1c1 }
/-- com/example/graticule/graticule/blobs/BlockSumsBlocksPinLaw -/
def k1 : Class := { plain "com/example/graticule/graticule/blobs/BlockSumsBlocksPinLaw" (some 0) with
  accessFlags := 49
  interfaces := #[]
  cf := some (fileOf pool1 9 #[] #[{ accessFlags := 1, nameIndex := 5, descriptorIndex := 6, attributes := #[] }, { accessFlags := 9, nameIndex := 29, descriptorIndex := 30, attributes := #[] }] 49 2 #[] #[{ accessFlags := 26, nameIndex := 23, descriptorIndex := 24, attributes := #[] }, { accessFlags := 26, nameIndex := 26, descriptorIndex := 24, attributes := #[] }])
  fields := #[{ name := "B", type := .long, accessFlags := 26, slot := 0, constantValue := 0 }, { name := "MAX_SIZE", type := .long, accessFlags := 26, slot := 1, constantValue := 0 }]
  methods := #[k1m0, k1m1]
  instanceTypes := #[]
  staticTypes := #[.long, .long]
  resolved := Array.replicate 34 none
  statics := none }

def pool2 : Array CpInfo := pool [(2, .class_ 4), (1, u "java/lang/Object"), (3, .class_ 10), (1, u "com/example/graticule/graticule/blobs/BlockSums"), (0, u "sums"), (0, u "[I"), (0, .long 1048576), (12, u "BLOCK_BYTES"), (0, u "I"), (5, u "blocks"), (0, u "(J)I"), (7, .class_ 43), (0, u "com/example/graticule/graticule/blobs/BlockSums$Cache"), (0, .class_ 45), (0, u "com/example/graticule/graticule/blobs/BlockSums$Builder")] 3

def k2c0 : Code := { maxStack := 4, maxLocals := 2, code := prog_7_method_2_code, exceptionTable := #[], attributes := #[] }
def k2m0 : Method := { name := "blocks", desc := "(J)I", sig := { parameters := [.long], returnType := some .int }, accessFlags := 8, code := some k2c0 }
/-- com/example/graticule/graticule/blobs/BlockSums -/
def k2 : Class := { plain "com/example/graticule/graticule/blobs/BlockSums" (some 0) with
  accessFlags := 48
  interfaces := #[]
  cf := some (fileOf pool2 8 #[.nestMembers #[42, 44]] #[{ accessFlags := 8, nameIndex := 33, descriptorIndex := 34, attributes := #[] }] 48 2 #[] #[{ accessFlags := 24, nameIndex := 26, descriptorIndex := 27, attributes := #[] }, { accessFlags := 18, nameIndex := 11, descriptorIndex := 12, attributes := #[] }])
  fields := #[{ name := "BLOCK_BYTES", type := .int, accessFlags := 24, slot := 0, constantValue := 0 }, { name := "sums", type := (.array .int), accessFlags := 18, slot := 0, constantValue := 0 }]
  methods := #[k2m0]
  instanceTypes := #[(.array .int)]
  staticTypes := #[.int]
  resolved := Array.replicate 49 none
  statics := none }

def pool3 : Array CpInfo := pool [(1, u "java/lang/Cloneable"), (0, .class_ 1), (0, u "java/lang/Object"), (0, .class_ 3)] 3

/-- java/lang/Cloneable -/
def k3 : Class := { plain "java/lang/Cloneable" (some 0) with
  accessFlags := 1537
  interfaces := #[]
  cf := some (fileOf pool3 2 #[] #[] 1537 4 #[] #[])
  fields := #[]
  methods := #[]
  instanceTypes := #[]
  staticTypes := #[]
  resolved := Array.replicate 8 none
  statics := none }

def pool4 : Array CpInfo := pool [(1, u "java/io/Serializable"), (0, .class_ 1), (0, u "java/lang/Object"), (0, .class_ 3)] 3

/-- java/io/Serializable -/
def k4 : Class := { plain "java/io/Serializable" (some 0) with
  accessFlags := 1537
  interfaces := #[]
  cf := some (fileOf pool4 2 #[] #[] 1537 4 #[] #[])
  fields := #[]
  methods := #[]
  instanceTypes := #[]
  staticTypes := #[]
  resolved := Array.replicate 8 none
  statics := none }

/-- the primitive byte -/
def k5 : Class := { plain "byte" none with kind := .primitive 'B', accessFlags := 0x411 }
/-- [B -/
def k6 : Class := { plain "[B" (some 0) with kind := .array 5 .byte, interfaces := #[3, 4], accessFlags := 1041 }

/-- the primitive int -/
def k7 : Class := { plain "int" none with kind := .primitive 'I', accessFlags := 0x411 }
/-- [I -/
def k8 : Class := { plain "[I" (some 0) with kind := .array 7 .int, interfaces := #[3, 4], accessFlags := 1041 }

def heap : Heap := #[]
def classes : Array Class := #[k0, k1, k2, k3, k4, k5, k6, k7, k8]
def interned : List (Array UInt16 × Addr) := []
def slotsUsed : Nat := 0
def theMethod : MethodId := ⟨1, 1⟩
def args0 : Array Value := #[.long 5, .int 2]
def aboutOver (below : List Frame) : State where
  vm := { classes := classes, interned := interned.toArray }
  heap := heap
  slotsUsed := slotsUsed
  threads := #[{ frames := .invoking theMethod args0 :: below }]
def below0 : List Frame := [.native { method := ⟨0, 0⟩, args := #[] }]
def about1 : State := aboutOver below0
def p0 : Program := .bare "" "" ""
def e0 : Env := launch0.env 0 0 0
theorem w_frames : about1.frames = Frame.invoking theMethod args0 :: below0 := rfl
set_option maxRecDepth 65536 in
theorem w_args : argsFit about1.vm theMethod args0 = true := by decide +kernel
set_option maxRecDepth 65536 in
theorem w_heap : heapFits about1 = true := by decide +kernel
set_option maxRecDepth 65536 in
theorem w_runnable : about1.curStatus? = some .runnable := by decide +kernel
set_option maxRecDepth 65536 in
theorem w_alone : about1.alone = true := by decide +kernel
set_option maxRecDepth 65536 in
theorem w_named : about1.methodNamed? x = some theMethod := by decide +kernel
set_option maxRecDepth 65536 in
theorem w_hears : about1.hears theMethod below0 = true := by decide +kernel
set_option maxRecDepth 65536 in
theorem w_ripe : about1.ripe theMethod args0 below0 = true := by decide +kernel
theorem w_running : about1.status = .running := rfl
set_option maxRecDepth 65536 in
theorem w_room : about1.hasRoom e0.platform room_1 = true :=
  launch0.hasRoom_least _ room_1 (by decide +kernel) (by decide +kernel) (by decide +kernel) (by decide +kernel) (by decide +kernel) (by decide +kernel)
theorem allAtoms_all (ts : List Jvm.Cond) (a : Array Jvm.Value) (st : Jvm.State) : (allAtoms ts).before a st = ts.all (fun c => c.before a st) := by
  induction ts with
  | nil => rfl
  | cons c t ih =>
    show (Jvm.Cond.and c (allAtoms t)).before a st = _
    rw [Jvm.Cond.before_and, ih, List.all_cons]
def words1 : List Jvm.Cond := Jvm.Cond.code x code maxLocals ret :: tables_1
/-- a 'code' word, met by the world's own term for the bytes: nothing is compared byte by byte -/
theorem code_word {y : MethodName} {bytes : ByteArray} {mx : Nat} {rt : Option FieldType} {a : Array Value} {s : State} {m : MethodId} {meth : Method} {c : Code} (h1 : s.methodNamed? y = some m) (h2 : s.vm.method? m = some meth) (h3 : meth.code = some c) (h4 : c.code = bytes)
    (h5 : (c.maxLocals == mx && c.exceptionTable.isEmpty && decide (c.maxStack ≤ mostOperands) && decide (meth.sig.returnType = rt) && !meth.locks && decide (parseMethodDescriptor y.desc = some meth.sig)) = true) : (Jvm.Cond.code y bytes mx rt).before a s = true := by
  simp only [Bool.and_eq_true, beq_iff_eq, Bool.not_eq_true', decide_eq_true_eq] at h5
  obtain ⟨⟨⟨⟨⟨g1, g2⟩, g3⟩, g4⟩, g5⟩, g6⟩ := h5
  simp [Cond.before, Cond.holds, Cond.value, h1, h2, h3, h4, g1, g2, g3, g4, g5, g6]
def isCode : Jvm.Cond → Bool
  | .code _ _ _ _ => true
  | _ => false
theorem all_split {L : List Jvm.Cond} {P : Jvm.Cond → Bool} (h1 : L.all (fun c => isCode c || P c) = true) (h2 : ∀ c ∈ L.filter isCode, P c = true) : L.all P = true := by
  refine List.all_eq_true.mpr fun c hc => ?_
  have h := List.all_eq_true.mp h1 c hc
  rcases Bool.eq_false_or_eq_true (isCode c) with hi | hi
  · exact h2 c (List.mem_filter.mpr ⟨hc, hi⟩)
  · simpa [hi] using h
set_option maxRecDepth 65536 in
theorem w_c0 : (Jvm.Cond.code x code maxLocals ret).before args0 about1 = true := code_word (m := ⟨1, 1⟩) (meth := k1m1) (c := k1c1) (by decide +kernel) rfl rfl rfl (by decide +kernel)
set_option maxRecDepth 65536 in
theorem w_c1 : (Jvm.Cond.code ({ cls := "com/example/graticule/graticule/blobs/BlockSums", name := "blocks", desc := "(J)I" } : Jvm.MethodName) prog_7_method_2_code (2 : Nat) (Option.some Jvm.ClassFile.FieldType.int)).before args0 about1 = true := code_word (m := ⟨2, 0⟩) (meth := k2m0) (c := k2c0) (by decide +kernel) rfl rfl rfl (by decide +kernel)
def codes1 : List Jvm.Cond := [Jvm.Cond.code x code maxLocals ret, Jvm.Cond.code ({ cls := "com/example/graticule/graticule/blobs/BlockSums", name := "blocks", desc := "(J)I" } : Jvm.MethodName) prog_7_method_2_code (2 : Nat) (Option.some Jvm.ClassFile.FieldType.int)]
set_option maxRecDepth 65536 in
theorem codes_eq : words1.filter isCode = codes1 := rfl
theorem w_codes : ∀ c ∈ words1.filter isCode, c.before args0 about1 = true := by
  rw [codes_eq]
  intro c hc
  simp only [codes1, List.mem_cons, List.not_mem_nil, or_false] at hc
  rcases hc with rfl | rfl
  · exact w_c0
  · exact w_c1
set_option maxRecDepth 65536 in
theorem w_t1 : words1.all (fun c => isCode c || c.before args0 about1) = true := by decide +kernel
theorem w_tables : (allAtoms (Jvm.Cond.code x code maxLocals ret :: tables_1)).before args0 about1 = true := by
  rw [allAtoms_all]
  show words1.all (fun c => c.before args0 about1) = true
  refine all_split ?_ w_codes
  rw [w_t1]
set_option maxRecDepth 65536 in
theorem w_case : (Jvm.Cond.and given_1 narrow_1).before args0 about1 = true := by decide +kernel
theorem w_applies : (headSpec (Jvm.Cond.code x code maxLocals ret :: tables_1) room_1).applies x e0.platform about1 = true :=
  (Spec.applies_iff w_frames).mpr ⟨w_running, w_runnable, w_alone, w_named, w_hears, w_ripe, w_room, w_tables⟩
theorem atStart : AtStart classFile x code maxLocals ret World_1 tables_1 room_1 Calls_1 rest_1 Pre_1 launch0 p0 e0 about1 theMethod args0 below0 :=
  ⟨lists_1, trivial, launch0.admits_env _ _ _, launch0.least_env, fairChoices_fair.cas, fairChoices_fair.clock, w_frames, w_args, w_heap, w_applies, trivial, trivial, w_case⟩
end start1
theorem witness_1 : WitnessClaimed_1 := ⟨start1.p0, start1.e0, start1.about1, start1.theMethod, start1.args0, start1.below0, start1.atStart⟩
end Jvm.Pilot.@@N@@
