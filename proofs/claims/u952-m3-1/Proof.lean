import JvmDerived
import JvmDerived.Pilot.@@N@@Statement
import JvmDerived.Pilot.@@N@@Code
set_option linter.unusedVariables false
set_option linter.unusedSimpArgs false
namespace Jvm.RoadKit
open Sem ClassFile Op Lib Jvm.Stand Jvm.Free Jvm.LawKit
section New
variable {p : Program} {l : Launch} {e : Env} {R : Room} {s : State} {m : MethodId} {args : Array Value} {below : List Frame} {meth : Method} {c : Code} {T : State} {locs : List Loc} {cells slots : Nat}
theorem retI (X : Stand p l e R s m args below meth c T locs cells slots) (hx : p.tables.exec = Jvm.exec) {pc : Nat} {Ls : Array Slot} {z : Int32} {rest : List Value} (hret : meth.sig.returnType = some .int) (hd : decode c.code pc = .ok (.ireturn, 1)) {fs : List Frame}
    (hl : ∀ (f : JFrame) (acts : List Action), f.method = m → f.locked = none → f.entered = [] → (doReturn e (T.setTop f) acts (some (.int z))).1 = T.setFrames fs) : Steps p.tables e below (T.setTop (mkF m pc Ls (.int z :: rest))) (T.setFrames fs) := by
  have hm' : T.vm.method? m = some meth := X.method'
  have hn : narrow .int (.int z) = .int z := rfl
  show Steps p.tables e below (T.setTop { method := m, pc := pc, locals := Ls, stack := _ :: rest, locked := none }) _
  jvm_step X.here [X.here.top, hx, hd, hm', hret, hn]
  first | (intro acts; rw [hl _ acts rfl rfl rfl]) | rw [hl _ _ rfl rfl rfl]
  exact Steps.refl _
end New
end Jvm.RoadKit
namespace Jvm.Pilot.@@N@@
open Jvm Jvm.ClassFile Sem Op Lib Jvm.Free Jvm.Stand Jvm.LawKit Jvm.RoadKit Bundle Jvm.Pilot.@@N@@.Jvm.D
theorem d1_0 : decode prog_50_method_2_code 0 = .ok (.ldc2_w 9, 3) := by decide +kernel
theorem d1_3 : decode prog_50_method_2_code 3 = .ok (.iload_n 1, 1) := by decide +kernel
theorem d1_4 : decode prog_50_method_2_code 4 = .ok (.i2l, 1) := by decide +kernel
theorem d1_5 : decode prog_50_method_2_code 5 = .ok (.ladd, 1) := by decide +kernel
theorem d1_6 : decode prog_50_method_2_code 6 = .ok (.lconst 1, 1) := by decide +kernel
theorem d1_7 : decode prog_50_method_2_code 7 = .ok (.lsub, 1) := by decide +kernel
theorem d1_8 : decode prog_50_method_2_code 8 = .ok (.iload_n 1, 1) := by decide +kernel
theorem d1_9 : decode prog_50_method_2_code 9 = .ok (.i2l, 1) := by decide +kernel
theorem d1_10 : decode prog_50_method_2_code 10 = .ok (.ldiv, 1) := by decide +kernel
theorem d1_11 : decode prog_50_method_2_code 11 = .ok (.lconst 1, 1) := by decide +kernel
theorem d1_12 : decode prog_50_method_2_code 12 = .ok (.ladd, 1) := by decide +kernel
theorem d1_13 : decode prog_50_method_2_code 13 = .ok (.lstore_n 2, 1) := by decide +kernel
theorem d1_14 : decode prog_50_method_2_code 14 = .ok (.iload_n 0, 1) := by decide +kernel
theorem d1_15 : decode prog_50_method_2_code 15 = .ok (.i2l, 1) := by decide +kernel
theorem d1_16 : decode prog_50_method_2_code 16 = .ok (.lconst 1, 1) := by decide +kernel
theorem d1_17 : decode prog_50_method_2_code 17 = .ok (.ladd, 1) := by decide +kernel
theorem d1_18 : decode prog_50_method_2_code 18 = .ok (.lload_n 2, 1) := by decide +kernel
theorem d1_19 : decode prog_50_method_2_code 19 = .ok (.lmul, 1) := by decide +kernel
theorem d1_20 : decode prog_50_method_2_code 20 = .ok (.lreturn, 1) := by decide +kernel
theorem pn_1 : plainName "com/example/indel/indel/SeedChain" = true := by first | (simp [plainName, overriddenIn]; done) | decide +kernel
theorem ef_1 (m : MethodId) (x0 : Int32) (x1 : Int32) : entryFrame m #[(.int x0), (.int x1)] 4 = mkF m 0 #[.val (.int x0), .val (.int x1), .unset, .unset] [] := by first | (simp [entryFrame, mkF, argsToLocals, Value.category]; done) | rfl
def Q1 (r : Int64) (h0 : Heap) (n0 : Nat) (v : Option Value) (h : Heap) (L : List Loc) : Prop := v = some (.long r) ∧ Fr n0 L ∧ h = h0
set_option maxRecDepth 65536 in
set_option maxHeartbeats 40000000 in
theorem rm1 (l : Launch) (Z : State) (a0 : Array Value) (hw : ∀ d ∈ tables_1, d.before a0 Z = true) (ws : List Jvm.Cond) (p1 : Int32) (p2 : Int32) (r : Int64) (h0 : Heap) (n0 : Nat) (Z0 : n0 ≤ h0.size) (hr0 : r = (((p1.toInt64) + (1 : Int64)) * (((((256 : Int64) + (p2.toInt64)) - (1 : Int64)) / (p2.toInt64)) + (1 : Int64)))) (hnz10 : ¬ ((p2.toInt64) = (0 : Int64))) :
    MetFree l (⟨"com/example/indel/indel/SeedChain", "wordStepsOfBand", "(II)J"⟩ : MethodName) (head1 (Jvm.Cond.code (⟨"com/example/indel/indel/SeedChain", "wordStepsOfBand", "(II)J"⟩ : MethodName) prog_50_method_2_code 4 (some .long) :: ws) ({ frames := 0, cells := 0, slots := 0, locals := 0 } : Room)) (fun a U => a = #[(.int p1), (.int p2)] ∧ Z.Warmed39 U.vm ∧ U.heap = h0) (fun _ _ _ _ _ => True) (fun _ U o U' => ∃ v L, o = .returned v ∧ Q1 r h0 n0 v U'.heap L ∧ FrameEnd U o U' L ({ frames := 0, cells := 0, slots := 0, locals := 0 } : Room).cells ({ frames := 0, cells := 0, slots := 0, locals := 0 } : Room).slots) := by
  · rw [show r = (((p1.toInt64) + (1 : Int64)) * (((((256 : Int64) + (p2.toInt64)) - (1 : Int64)) / (p2.toInt64)) + (1 : Int64))) by rw [hr0]]
    refine MetFree.of_bodySF (plainFor_of_name pn_1) hisR ?_
    intro p e s m args below meth c s₁ Bd hml0 hP hK
    obtain ⟨rfl, hZ, hh⟩ := hP
    have hx := Bd.exec
    have hby := Bd.bytes
    have hml : c.maxLocals = 4 := hml0
    have hown : s.vm.findClass "com/example/indel/indel/SeedChain" = some m.cls := findClass_of_methodNamed Bd.named
    have hnm := (name_of_methodNamed Bd.named Bd.method).1
    have X0 : Stand p l e ({ frames := 0, cells := 0, slots := 0, locals := 0 } : Room) s m #[(.int p1), (.int p2)] below meth c s₁ [] 0 0 := Stand.of_body Bd
    have e0 : s₁.heap = h0 := by rw [← hh, Bd.state]; rfl
    have N0 := Fr.nil n0
    have pre0 : ∀ t, Steps p.tables e below (s₁.setTop (mkF m 0 #[.val (.int p1), .val (.int p2), .unset, .unset] [])) t → Steps p.tables e below (s₁.setTop (entryFrame m #[(.int p1), (.int p2)] 4)) t := fun t k => castTop (ef_1 m p1 p2) k
    obtain ⟨fs, hr, hrun, hended, hW, hsame⟩ := X0.leave (v := some (.long (((p1.toInt64) + (1 : Int64)) * (((((256 : Int64) + (p2.toInt64)) - (1 : Int64)) / (p2.toInt64)) + (1 : Int64))))) (fun h => by rw [Bd.returns] at h; cases h)
    refine ⟨_, _, pre0 _ ?_, hrun, hended, _, _, rfl, ?_, ⟨_, rfl⟩, hW, hsame.mono (by decide) (by decide)⟩
    · show Steps p.tables e below (s₁.setTop (mkF m 0 #[.val (.int p1), .val (.int p2), .unset, .unset] [])) _
      refine X0.ldc2Long hx hown (mvT hZ (hw _ (List.mem_of_getElem? (i := 5) rfl))) (g := (mkF m 0 #[.val (.int p1), .val (.int p2), .unset, .unset] [])) rfl (hb hby d1_0) _ ?_
      show Steps p.tables e below (s₁.setTop (mkF m 3 #[.val (.int p1), .val (.int p2), .unset, .unset] [(.long (256 : Int64))])) _
      refine XS.iloadN X0.here hx rfl (hb hby d1_3) rfl ?_
      show Steps p.tables e below (s₁.setTop (mkF m 4 #[.val (.int p1), .val (.int p2), .unset, .unset] [(.int p2), (.long (256 : Int64))])) _
      refine XS.i2l X0.here hx rfl (hb hby d1_4) rfl ?_
      show Steps p.tables e below (s₁.setTop (mkF m 5 #[.val (.int p1), .val (.int p2), .unset, .unset] [(.long (p2.toInt64)), (.long (256 : Int64))])) _
      refine XS.ladd X0.here hx rfl (hb hby d1_5) rfl ?_
      show Steps p.tables e below (s₁.setTop (mkF m 6 #[.val (.int p1), .val (.int p2), .unset, .unset] [(.long ((256 : Int64) + (p2.toInt64)))])) _
      refine XS.lconst X0.here hx rfl (hb hby d1_6) ?_
      show Steps p.tables e below (s₁.setTop (mkF m 7 #[.val (.int p1), .val (.int p2), .unset, .unset] [(.long (1 : Int64)), (.long ((256 : Int64) + (p2.toInt64)))])) _
      refine XS.lsub X0.here hx rfl (hb hby d1_7) rfl ?_
      show Steps p.tables e below (s₁.setTop (mkF m 8 #[.val (.int p1), .val (.int p2), .unset, .unset] [(.long (((256 : Int64) + (p2.toInt64)) - (1 : Int64)))])) _
      refine XS.iloadN X0.here hx rfl (hb hby d1_8) rfl ?_
      show Steps p.tables e below (s₁.setTop (mkF m 9 #[.val (.int p1), .val (.int p2), .unset, .unset] [(.int p2), (.long (((256 : Int64) + (p2.toInt64)) - (1 : Int64)))])) _
      refine XS.i2l X0.here hx rfl (hb hby d1_9) rfl ?_
      show Steps p.tables e below (s₁.setTop (mkF m 10 #[.val (.int p1), .val (.int p2), .unset, .unset] [(.long (p2.toInt64)), (.long (((256 : Int64) + (p2.toInt64)) - (1 : Int64)))])) _
      refine XS.ldiv X0.here hx rfl (hb hby d1_10) rfl hnz10 ?_
      show Steps p.tables e below (s₁.setTop (mkF m 11 #[.val (.int p1), .val (.int p2), .unset, .unset] [(.long ((((256 : Int64) + (p2.toInt64)) - (1 : Int64)) / (p2.toInt64)))])) _
      refine XS.lconst X0.here hx rfl (hb hby d1_11) ?_
      show Steps p.tables e below (s₁.setTop (mkF m 12 #[.val (.int p1), .val (.int p2), .unset, .unset] [(.long (1 : Int64)), (.long ((((256 : Int64) + (p2.toInt64)) - (1 : Int64)) / (p2.toInt64)))])) _
      refine XS.ladd X0.here hx rfl (hb hby d1_12) rfl ?_
      show Steps p.tables e below (s₁.setTop (mkF m 13 #[.val (.int p1), .val (.int p2), .unset, .unset] [(.long (((((256 : Int64) + (p2.toInt64)) - (1 : Int64)) / (p2.toInt64)) + (1 : Int64)))])) _
      refine XS.lstoreN X0.here hx rfl (hb hby d1_13) rfl (l' := #[.val (.int p1), .val (.int p2), .val (.long (((((256 : Int64) + (p2.toInt64)) - (1 : Int64)) / (p2.toInt64)) + (1 : Int64))), .second]) rfl ?_
      show Steps p.tables e below (s₁.setTop (mkF m 14 #[.val (.int p1), .val (.int p2), .val (.long (((((256 : Int64) + (p2.toInt64)) - (1 : Int64)) / (p2.toInt64)) + (1 : Int64))), .second] [])) _
      refine XS.iloadN X0.here hx rfl (hb hby d1_14) rfl ?_
      show Steps p.tables e below (s₁.setTop (mkF m 15 #[.val (.int p1), .val (.int p2), .val (.long (((((256 : Int64) + (p2.toInt64)) - (1 : Int64)) / (p2.toInt64)) + (1 : Int64))), .second] [(.int p1)])) _
      refine XS.i2l X0.here hx rfl (hb hby d1_15) rfl ?_
      show Steps p.tables e below (s₁.setTop (mkF m 16 #[.val (.int p1), .val (.int p2), .val (.long (((((256 : Int64) + (p2.toInt64)) - (1 : Int64)) / (p2.toInt64)) + (1 : Int64))), .second] [(.long (p1.toInt64))])) _
      refine XS.lconst X0.here hx rfl (hb hby d1_16) ?_
      show Steps p.tables e below (s₁.setTop (mkF m 17 #[.val (.int p1), .val (.int p2), .val (.long (((((256 : Int64) + (p2.toInt64)) - (1 : Int64)) / (p2.toInt64)) + (1 : Int64))), .second] [(.long (1 : Int64)), (.long (p1.toInt64))])) _
      refine XS.ladd X0.here hx rfl (hb hby d1_17) rfl ?_
      show Steps p.tables e below (s₁.setTop (mkF m 18 #[.val (.int p1), .val (.int p2), .val (.long (((((256 : Int64) + (p2.toInt64)) - (1 : Int64)) / (p2.toInt64)) + (1 : Int64))), .second] [(.long ((p1.toInt64) + (1 : Int64)))])) _
      refine XS.lloadN X0.here hx rfl (hb hby d1_18) rfl ?_
      show Steps p.tables e below (s₁.setTop (mkF m 19 #[.val (.int p1), .val (.int p2), .val (.long (((((256 : Int64) + (p2.toInt64)) - (1 : Int64)) / (p2.toInt64)) + (1 : Int64))), .second] [(.long (((((256 : Int64) + (p2.toInt64)) - (1 : Int64)) / (p2.toInt64)) + (1 : Int64))), (.long ((p1.toInt64) + (1 : Int64)))])) _
      refine XS.lmul X0.here hx rfl (hb hby d1_19) rfl ?_
      show Steps p.tables e below (s₁.setTop (mkF m 20 #[.val (.int p1), .val (.int p2), .val (.long (((((256 : Int64) + (p2.toInt64)) - (1 : Int64)) / (p2.toInt64)) + (1 : Int64))), .second] [(.long (((p1.toInt64) + (1 : Int64)) * (((((256 : Int64) + (p2.toInt64)) - (1 : Int64)) / (p2.toInt64)) + (1 : Int64))))])) _
      exact X0.lreturnOut hx Bd.returns (hb hby d1_20) hr
    · show Q1 _ h0 n0 _ s₁.heap _
      rw [e0]
      exact ⟨rfl, N0, rfl⟩
theorem own_irem (x y : Int32) : (x - (x / y) * y).toInt = x.toInt.tmod y.toInt := by
  have a := (x % y).toInt_lt
  have b := (x % y).le_toInt
  rw [Int32.toInt_mod] at a b
  rw [Int32.toInt_sub, Int32.toInt_mul, Int32.toInt_div, Int.bmod_mul_bmod, Int.sub_bmod_bmod, Int.mul_comm, ← Int.tmod_def, Int.bmod_def]
  omega
theorem own_cl0 {y : Int32} (h : 0 ≤ y.toInt) : 1 ≤ ((1 : Int32) + (y - (y / (2147483647 : Int32)) * (2147483647 : Int32))).toInt := by
  have h4 := own_irem y 2147483647
  have eM : (2147483647 : Int32).toInt = 2147483647 := rfl
  rw [eM, Int.tmod_eq_emod_of_nonneg h] at h4
  have h5 := c_iadd 1 (y - (y / 2147483647) * 2147483647)
  have h5r := rng32 (1 + (y - (y / 2147483647) * 2147483647))
  have e1 : (1 : Int32).toInt = 1 := rfl
  omega
theorem own_cl (x : Int32) : 1 ≤ ((1 : Int32) + ((x &&& (2147483647 : Int32)) - ((x &&& (2147483647 : Int32)) / (2147483647 : Int32)) * (2147483647 : Int32))).toInt := by
  have h1 := c_mask x 2147483647 31 (by decide) (by decide)
  exact own_cl0 (by omega)
theorem own_ro (x : Int32) : 0 ≤ (x &&& (2147483647 : Int32)).toInt := by
  have h1 := c_mask x 2147483647 31 (by decide) (by decide)
  omega
theorem own_nz {cl : Int32} (h1 : 1 ≤ cl.toInt) : ¬ ((cl.toInt64) = (0 : Int64)) := by
  rw [← Int64.toInt_inj, c_i2l]
  have e0 : (0 : Int64).toInt = 0 := rfl
  omega
theorem own_band {ro cl : Int32} {r : Int64} (h0 : 0 ≤ ro.toInt) (h1 : 1 ≤ cl.toInt) (hr : r = (((ro.toInt64) + (1 : Int64)) * (((((256 : Int64) + (cl.toInt64)) - (1 : Int64)) / (cl.toInt64)) + (1 : Int64)))) :
    ¬ (((ro.toInt64) + (1 : Int64)) = (0 : Int64)) ∧ lcmpW ((r / ((ro.toInt64) + (1 : Int64))) * ((ro.toInt64) + (1 : Int64))) r = (0 : Int32) ∧ ¬ lcmpW (((r / ((ro.toInt64) + (1 : Int64))) - (1 : Int64)) * (cl.toInt64)) (256 : Int64) < (0 : Int32) ∧ lcmpW (((r / ((ro.toInt64) + (1 : Int64))) - (2 : Int64)) * (cl.toInt64)) (256 : Int64) < (0 : Int32) := by
  have e0 : (0 : Int64).toInt = 0 := rfl
  have e1 : (1 : Int64).toInt = 1 := rfl
  have e2 : (2 : Int64).toInt = 2 := rfl
  have e256 : (256 : Int64).toInt = 256 := rfl
  have em : (-1 : Int64).toInt = -1 := rfl
  have hro := rng32 ro
  have hcl := rng32 cl
  have hc := c_i2l cl
  have hn := c_i2l ro
  have hA := c_ladd 256 cl.toInt64
  have hAr := rng64 (256 + cl.toInt64)
  have hB := c_lsub (256 + cl.toInt64) 1
  have hBr := rng64 (256 + cl.toInt64 - 1)
  have dB : (256 + cl.toInt64 - 1).toInt = 255 + cl.toInt := by omega
  have hD := (c_ldiv (256 + cl.toInt64 - 1) cl.toInt64 cl.toInt hc (fun q => by have := congrArg Int64.toInt q; omega)).1 (by omega)
  rw [dB] at hD
  have q1 : cl.toInt * ((255 + cl.toInt) / cl.toInt) ≤ 255 + cl.toInt := Int.mul_ediv_self_le (by omega)
  have q2 : 255 + cl.toInt < ((255 + cl.toInt) / cl.toInt + 1) * cl.toInt := Int.lt_ediv_add_one_mul_self _ (by omega)
  have q3 : 1 ≤ (255 + cl.toInt) / cl.toInt := Int.le_ediv_of_mul_le (by omega) (by omega)
  generalize (255 + cl.toInt) / cl.toInt = q at *
  have q4 : q ≤ 256 := by
    rcases Int.lt_or_le 256 q with z | z
    · have := Int.mul_le_mul_of_nonneg_left (show 257 ≤ q by omega) (show 0 ≤ cl.toInt by omega)
      omega
    · exact z
  rw [Int.add_mul, Int.mul_comm q] at q2
  have hK := c_ladd ((256 + cl.toInt64 - 1) / cl.toInt64) 1
  have hKr := rng64 ((256 + cl.toInt64 - 1) / cl.toInt64 + 1)
  have dK : ((256 + cl.toInt64 - 1) / cl.toInt64 + 1).toInt = q + 1 := by omega
  have hN := c_ladd ro.toInt64 1
  have hNr := rng64 (ro.toInt64 + 1)
  have dN : (ro.toInt64 + 1).toInt = ro.toInt + 1 := by omega
  have hM := c_lmul (ro.toInt64 + 1) ((256 + cl.toInt64 - 1) / cl.toInt64 + 1)
  rw [← hr, dN, dK] at hM
  have hrr := rng64 r
  have m1 : 0 ≤ (ro.toInt + 1) * (q + 1) := Int.mul_nonneg (by omega) (by omega)
  have m2 : (ro.toInt + 1) * (q + 1) ≤ 2147483648 * 257 := Int.mul_le_mul (by omega) (by omega) (by omega) (by omega)
  have dr : r.toInt = (ro.toInt + 1) * (q + 1) := by omega
  have hk := (c_ldiv r (ro.toInt64 + 1) (ro.toInt + 1) dN (fun z => by have := congrArg Int64.toInt z; omega)).1 (by omega)
  rw [dr, Int.mul_ediv_cancel_left (q + 1) (show ro.toInt + 1 ≠ 0 by omega)] at hk
  have hP := c_lmul (r / (ro.toInt64 + 1)) (ro.toInt64 + 1)
  have hPr := rng64 (r / (ro.toInt64 + 1) * (ro.toInt64 + 1))
  rw [hk, dN, Int.mul_comm (q + 1)] at hP
  have h5 := c_lsub (r / (ro.toInt64 + 1)) 1
  have h5r := rng64 (r / (ro.toInt64 + 1) - 1)
  have d5 : (r / (ro.toInt64 + 1) - 1).toInt = q := by omega
  have h6 := c_lsub (r / (ro.toInt64 + 1)) 2
  have h6r := rng64 (r / (ro.toInt64 + 1) - 2)
  have d6 : (r / (ro.toInt64 + 1) - 2).toInt = q - 1 := by omega
  have h7 := c_lmul (r / (ro.toInt64 + 1) - 1) cl.toInt64
  have h7r := rng64 ((r / (ro.toInt64 + 1) - 1) * cl.toInt64)
  rw [d5, hc, Int.mul_comm q] at h7
  have h8 := c_lmul (r / (ro.toInt64 + 1) - 2) cl.toInt64
  have h8r := rng64 ((r / (ro.toInt64 + 1) - 2) * cl.toInt64)
  rw [d6, hc, Int.sub_mul, Int.mul_comm q] at h8
  have m3 : 0 ≤ cl.toInt * q := Int.mul_nonneg (by omega) (by omega)
  refine ⟨?_, ?_, ?_, ?_⟩
  · rw [← Int64.toInt_inj]; omega
  · rw [lw_eq, ← Int64.toInt_inj]; omega
  · rw [lw_lt, Int64.lt_iff_toInt_lt]; omega
  · rw [lw_lt, Int64.lt_iff_toInt_lt]; omega
theorem pn_0 : plainName "com/example/indel/indel/SeedChainWordStepsOfBandPinLaw" = true := by first | (simp [plainName, overriddenIn]; done) | decide +kernel
theorem pd_0_0 : parseMethodDescriptor "(II)J" = some ⟨[.int, .int], some .long⟩ := by decide +kernel
theorem ef_0 (m : MethodId) (x0 : Int32) (x1 : Int32) : entryFrame m #[(.int x0), (.int x1)] maxLocals = mkF m 0 #[.val (.int x0), .val (.int x1), .unset, .unset, .unset, .unset, .unset, .unset, .unset, .unset, .unset, .unset, .unset, .unset, .unset, .unset] [] := by first | (simp [entryFrame, mkF, argsToLocals, Value.category, maxLocals]; done) | rfl
def Q0 (Z : State) (p1 : Int32) (p2 : Int32) (h0 : Heap) (n0 : Nat) (v : Option Value) (h : Heap) (L : List Loc) : Prop := v = some (.int (1 : Int32)) ∧ Fr n0 L
set_option maxRecDepth 65536 in
set_option maxHeartbeats 40000000 in
theorem rm0 (l : Launch) (Z : State) (a0 : Array Value) (hw : ∀ d ∈ tables_1, d.before a0 Z = true) (ws : List Jvm.Cond) (p1 : Int32) (p2 : Int32) (h0 : Heap) (n0 : Nat) (Z0 : n0 ≤ h0.size) :
    MetFree l x (head1 (Jvm.Cond.code x code maxLocals ret :: ws) room_1) (fun a U => a = #[(.int p1), (.int p2)] ∧ Z.Warmed39 U.vm ∧ U.heap = h0) (fun _ _ _ _ _ => True) (fun _ U o U' => ∃ v L, o = .returned v ∧ Q0 Z p1 p2 h0 n0 v U'.heap L ∧ FrameEnd U o U' L room_1.cells room_1.slots) := by
  refine MetFree.of_bodySF (plainFor_of_name pn_0) hisR ?_
  intro p e s m args below meth c s₁ Bd hml0 hP hK
  obtain ⟨rfl, hZ, hh⟩ := hP
  have hx := Bd.exec
  have hby := Bd.bytes
  have hml : c.maxLocals = 16 := hml0
  have hown : s.vm.findClass "com/example/indel/indel/SeedChainWordStepsOfBandPinLaw" = some m.cls := findClass_of_methodNamed Bd.named
  have hnm := (name_of_methodNamed Bd.named Bd.method).1
  have X0 : Stand p l e room_1 s m #[(.int p1), (.int p2)] below meth c s₁ [] 0 0 := Stand.of_body Bd
  have e0 : s₁.heap = h0 := by rw [← hh, Bd.state]; rfl
  have N0 := Fr.nil n0
  have pre0 : ∀ t, Steps p.tables e below (s₁.setTop (mkF m 0 #[.val (.int p1), .val (.int p2), .unset, .unset, .unset, .unset, .unset, .unset, .unset, .unset, .unset, .unset, .unset, .unset, .unset, .unset] [])) t → Steps p.tables e below (s₁.setTop (entryFrame m #[(.int p1), (.int p2)] maxLocals)) t := fun t k => castTop (ef_0 m p1 p2) k
  obtain ⟨ro, cl, h0r, h1, pre1⟩ : ∃ ro cl : Int32, 0 ≤ ro.toInt ∧ 1 ≤ cl.toInt ∧ (∀ t, Steps p.tables e below (s₁.setTop (mkF m 15 #[.val (.int p1), .val (.int p2), .val (.int ro), .val (.int cl), .unset, .unset, .unset, .unset, .unset, .unset, .unset, .unset, .unset, .unset, .unset, .unset] [])) t → Steps p.tables e below (s₁.setTop (mkF m 0 #[.val (.int p1), .val (.int p2), .unset, .unset, .unset, .unset, .unset, .unset, .unset, .unset, .unset, .unset, .unset, .unset, .unset, .unset] [])) t) := by
    refine ⟨(p1 &&& (2147483647 : Int32)), ((1 : Int32) + ((p2 &&& (2147483647 : Int32)) - ((p2 &&& (2147483647 : Int32)) / (2147483647 : Int32)) * (2147483647 : Int32))), own_ro p1, own_cl p2, fun t kt => ?_⟩
    show Steps p.tables e below (s₁.setTop (mkF m 0 #[.val (.int p1), .val (.int p2), .unset, .unset, .unset, .unset, .unset, .unset, .unset, .unset, .unset, .unset, .unset, .unset, .unset, .unset] [])) _
    refine XS.iloadN X0.here hx rfl (hb hby at_0) rfl ?_
    show Steps p.tables e below (s₁.setTop (mkF m 1 #[.val (.int p1), .val (.int p2), .unset, .unset, .unset, .unset, .unset, .unset, .unset, .unset, .unset, .unset, .unset, .unset, .unset, .unset] [(.int p1)])) _
    refine X0.ldcInt hx hown (mvT hZ (hw _ (List.mem_of_getElem? (i := 0) rfl))) (g := (mkF m 1 #[.val (.int p1), .val (.int p2), .unset, .unset, .unset, .unset, .unset, .unset, .unset, .unset, .unset, .unset, .unset, .unset, .unset, .unset] [(.int p1)])) rfl (hb hby at_1) _ ?_
    show Steps p.tables e below (s₁.setTop (mkF m 3 #[.val (.int p1), .val (.int p2), .unset, .unset, .unset, .unset, .unset, .unset, .unset, .unset, .unset, .unset, .unset, .unset, .unset, .unset] [(.int (2147483647 : Int32)), (.int p1)])) _
    refine XS.iand X0.here hx rfl (hb hby at_3) rfl ?_
    show Steps p.tables e below (s₁.setTop (mkF m 4 #[.val (.int p1), .val (.int p2), .unset, .unset, .unset, .unset, .unset, .unset, .unset, .unset, .unset, .unset, .unset, .unset, .unset, .unset] [(.int (p1 &&& (2147483647 : Int32)))])) _
    refine XS.istoreN X0.here hx rfl (hb hby at_4) rfl (l' := #[.val (.int p1), .val (.int p2), .val (.int (p1 &&& (2147483647 : Int32))), .unset, .unset, .unset, .unset, .unset, .unset, .unset, .unset, .unset, .unset, .unset, .unset, .unset]) rfl ?_
    show Steps p.tables e below (s₁.setTop (mkF m 5 #[.val (.int p1), .val (.int p2), .val (.int (p1 &&& (2147483647 : Int32))), .unset, .unset, .unset, .unset, .unset, .unset, .unset, .unset, .unset, .unset, .unset, .unset, .unset] [])) _
    refine XS.iconst X0.here hx rfl (hb hby at_5) ?_
    show Steps p.tables e below (s₁.setTop (mkF m 6 #[.val (.int p1), .val (.int p2), .val (.int (p1 &&& (2147483647 : Int32))), .unset, .unset, .unset, .unset, .unset, .unset, .unset, .unset, .unset, .unset, .unset, .unset, .unset] [(.int (1 : Int32))])) _
    refine XS.iloadN X0.here hx rfl (hb hby at_6) rfl ?_
    show Steps p.tables e below (s₁.setTop (mkF m 7 #[.val (.int p1), .val (.int p2), .val (.int (p1 &&& (2147483647 : Int32))), .unset, .unset, .unset, .unset, .unset, .unset, .unset, .unset, .unset, .unset, .unset, .unset, .unset] [(.int p2), (.int (1 : Int32))])) _
    refine X0.ldcInt hx hown (mvT hZ (hw _ (List.mem_of_getElem? (i := 0) rfl))) (g := (mkF m 7 #[.val (.int p1), .val (.int p2), .val (.int (p1 &&& (2147483647 : Int32))), .unset, .unset, .unset, .unset, .unset, .unset, .unset, .unset, .unset, .unset, .unset, .unset, .unset] [(.int p2), (.int (1 : Int32))])) rfl (hb hby at_7) _ ?_
    show Steps p.tables e below (s₁.setTop (mkF m 9 #[.val (.int p1), .val (.int p2), .val (.int (p1 &&& (2147483647 : Int32))), .unset, .unset, .unset, .unset, .unset, .unset, .unset, .unset, .unset, .unset, .unset, .unset, .unset] [(.int (2147483647 : Int32)), (.int p2), (.int (1 : Int32))])) _
    refine XS.iand X0.here hx rfl (hb hby at_9) rfl ?_
    show Steps p.tables e below (s₁.setTop (mkF m 10 #[.val (.int p1), .val (.int p2), .val (.int (p1 &&& (2147483647 : Int32))), .unset, .unset, .unset, .unset, .unset, .unset, .unset, .unset, .unset, .unset, .unset, .unset, .unset] [(.int (p2 &&& (2147483647 : Int32))), (.int (1 : Int32))])) _
    refine X0.ldcInt hx hown (mvT hZ (hw _ (List.mem_of_getElem? (i := 0) rfl))) (g := (mkF m 10 #[.val (.int p1), .val (.int p2), .val (.int (p1 &&& (2147483647 : Int32))), .unset, .unset, .unset, .unset, .unset, .unset, .unset, .unset, .unset, .unset, .unset, .unset, .unset] [(.int (p2 &&& (2147483647 : Int32))), (.int (1 : Int32))])) rfl (hb hby at_10) _ ?_
    show Steps p.tables e below (s₁.setTop (mkF m 12 #[.val (.int p1), .val (.int p2), .val (.int (p1 &&& (2147483647 : Int32))), .unset, .unset, .unset, .unset, .unset, .unset, .unset, .unset, .unset, .unset, .unset, .unset, .unset] [(.int (2147483647 : Int32)), (.int (p2 &&& (2147483647 : Int32))), (.int (1 : Int32))])) _
    refine XS.irem X0.here hx rfl (hb hby at_12) rfl (by decide) ?_
    show Steps p.tables e below (s₁.setTop (mkF m 13 #[.val (.int p1), .val (.int p2), .val (.int (p1 &&& (2147483647 : Int32))), .unset, .unset, .unset, .unset, .unset, .unset, .unset, .unset, .unset, .unset, .unset, .unset, .unset] [(.int ((p2 &&& (2147483647 : Int32)) - ((p2 &&& (2147483647 : Int32)) / (2147483647 : Int32)) * (2147483647 : Int32))), (.int (1 : Int32))])) _
    refine XS.iadd X0.here hx rfl (hb hby at_13) rfl ?_
    show Steps p.tables e below (s₁.setTop (mkF m 14 #[.val (.int p1), .val (.int p2), .val (.int (p1 &&& (2147483647 : Int32))), .unset, .unset, .unset, .unset, .unset, .unset, .unset, .unset, .unset, .unset, .unset, .unset, .unset] [(.int ((1 : Int32) + ((p2 &&& (2147483647 : Int32)) - ((p2 &&& (2147483647 : Int32)) / (2147483647 : Int32)) * (2147483647 : Int32))))])) _
    refine XS.istoreN X0.here hx rfl (hb hby at_14) rfl (l' := #[.val (.int p1), .val (.int p2), .val (.int (p1 &&& (2147483647 : Int32))), .val (.int ((1 : Int32) + ((p2 &&& (2147483647 : Int32)) - ((p2 &&& (2147483647 : Int32)) / (2147483647 : Int32)) * (2147483647 : Int32)))), .unset, .unset, .unset, .unset, .unset, .unset, .unset, .unset, .unset, .unset, .unset, .unset]) rfl ?_
    exact kt
  obtain ⟨r1, hr1⟩ : ∃ z : Int64, z = (((ro.toInt64) + (1 : Int64)) * (((((256 : Int64) + (cl.toInt64)) - (1 : Int64)) / (cl.toInt64)) + (1 : Int64))) := ⟨_, rfl⟩
  have hq := own_band h0r h1 hr1
  obtain ⟨_, _, ⟨T3, L3, k3, n3⟩, -, X3, ⟨Lc3, hQ3, l3, y3, z3⟩, st3⟩ := Jvm.LawKit.callS X0 hx (y := (⟨"com/example/indel/indel/SeedChain", "wordStepsOfBand", "(II)J"⟩ : MethodName)) hown (mvT hZ (hw _ (List.mem_of_getElem? (i := 1) rfl))) (mvT hZ (hw _ (List.mem_of_getElem? (i := 2) rfl))) (mvT hZ (hw _ (List.mem_of_getElem? (i := 3) rfl))) (mvT hZ (hw _ (List.mem_of_getElem? (i := 4) rfl))) (by decide) (backOf (W := 0) (rm1 l Z a0 hw [] ro cl r1 h0 n0 Z0 hr1 (own_nz h1)) hZ (hw _ (List.mem_of_getElem? (i := 4) rfl)) (hw _ (List.mem_of_getElem? (i := 3) rfl)) (by decide) (by decide)) (g := (mkF m 17 #[.val (.int p1), .val (.int p2), .val (.int ro), .val (.int cl), .unset, .unset, .unset, .unset, .unset, .unset, .unset, .unset, .unset, .unset, .unset, .unset] [(.int cl), (.int ro)])) rfl (by rw [hml]; rfl) (argsL := [(.int ro), (.int cl)]) (rest := []) (lenOf pd_0_0 rfl) rfl (by show 2 * 0 + _ ≤ _; exact Nat.le_of_eq rfl) (hb hby at_17) (fun _ _ => ⟨rfl, e0, (by decide : 0 + 0 ≤ _), (by decide : 0 + 0 ≤ _)⟩)
  dsimp only [Pt.U, Pt.locs, Pt.cells, Pt.slots] at X3 l3 y3 z3 st3 hQ3
  subst l3 y3 z3
  obtain ⟨rfl, N3q, e3⟩ := hQ3
  have N3 := Fr.app N0 N3q
  obtain ⟨fs, hr, hrun, hended, hW, hsame⟩ := X3.leave (v := some (.int (1 : Int32))) (fun h => by rw [Bd.returns] at h; cases h)
  refine ⟨_, _, pre0 _ (pre1 _ ?_), hrun, hended, _, _, rfl, ?_, ⟨_, rfl⟩, hW, hsame.mono (by decide) (by decide)⟩
  · show Steps p.tables e below (s₁.setTop (mkF m 15 #[.val (.int p1), .val (.int p2), .val (.int ro), .val (.int cl), .unset, .unset, .unset, .unset, .unset, .unset, .unset, .unset, .unset, .unset, .unset, .unset] [])) _
    refine XS.iloadN X0.here hx rfl (hb hby at_15) rfl ?_
    show Steps p.tables e below (s₁.setTop (mkF m 16 #[.val (.int p1), .val (.int p2), .val (.int ro), .val (.int cl), .unset, .unset, .unset, .unset, .unset, .unset, .unset, .unset, .unset, .unset, .unset, .unset] [(.int ro)])) _
    refine XS.iloadN X0.here hx rfl (hb hby at_16) rfl ?_
    show Steps p.tables e below (s₁.setTop (mkF m 17 #[.val (.int p1), .val (.int p2), .val (.int ro), .val (.int cl), .unset, .unset, .unset, .unset, .unset, .unset, .unset, .unset, .unset, .unset, .unset, .unset] [(.int cl), (.int ro)])) _
    refine st3 _ ?_
    show Steps p.tables e below (T3.setTop (mkF m 20 #[.val (.int p1), .val (.int p2), .val (.int ro), .val (.int cl), .unset, .unset, .unset, .unset, .unset, .unset, .unset, .unset, .unset, .unset, .unset, .unset] [(.long r1)])) _
    refine XS.lstore X3.here hx rfl (hb hby at_20) rfl (l' := #[.val (.int p1), .val (.int p2), .val (.int ro), .val (.int cl), .val (.long r1), .second, .unset, .unset, .unset, .unset, .unset, .unset, .unset, .unset, .unset, .unset]) rfl ?_
    show Steps p.tables e below (T3.setTop (mkF m 22 #[.val (.int p1), .val (.int p2), .val (.int ro), .val (.int cl), .val (.long r1), .second, .unset, .unset, .unset, .unset, .unset, .unset, .unset, .unset, .unset, .unset] [])) _
    refine XS.iloadN X3.here hx rfl (hb hby at_22) rfl ?_
    show Steps p.tables e below (T3.setTop (mkF m 23 #[.val (.int p1), .val (.int p2), .val (.int ro), .val (.int cl), .val (.long r1), .second, .unset, .unset, .unset, .unset, .unset, .unset, .unset, .unset, .unset, .unset] [(.int ro)])) _
    refine XS.i2l X3.here hx rfl (hb hby at_23) rfl ?_
    show Steps p.tables e below (T3.setTop (mkF m 24 #[.val (.int p1), .val (.int p2), .val (.int ro), .val (.int cl), .val (.long r1), .second, .unset, .unset, .unset, .unset, .unset, .unset, .unset, .unset, .unset, .unset] [(.long (ro.toInt64))])) _
    refine XS.lconst X3.here hx rfl (hb hby at_24) ?_
    show Steps p.tables e below (T3.setTop (mkF m 25 #[.val (.int p1), .val (.int p2), .val (.int ro), .val (.int cl), .val (.long r1), .second, .unset, .unset, .unset, .unset, .unset, .unset, .unset, .unset, .unset, .unset] [(.long (1 : Int64)), (.long (ro.toInt64))])) _
    refine XS.ladd X3.here hx rfl (hb hby at_25) rfl ?_
    show Steps p.tables e below (T3.setTop (mkF m 26 #[.val (.int p1), .val (.int p2), .val (.int ro), .val (.int cl), .val (.long r1), .second, .unset, .unset, .unset, .unset, .unset, .unset, .unset, .unset, .unset, .unset] [(.long ((ro.toInt64) + (1 : Int64)))])) _
    refine XS.lstore X3.here hx rfl (hb hby at_26) rfl (l' := #[.val (.int p1), .val (.int p2), .val (.int ro), .val (.int cl), .val (.long r1), .second, .val (.long ((ro.toInt64) + (1 : Int64))), .second, .unset, .unset, .unset, .unset, .unset, .unset, .unset, .unset]) rfl ?_
    show Steps p.tables e below (T3.setTop (mkF m 28 #[.val (.int p1), .val (.int p2), .val (.int ro), .val (.int cl), .val (.long r1), .second, .val (.long ((ro.toInt64) + (1 : Int64))), .second, .unset, .unset, .unset, .unset, .unset, .unset, .unset, .unset] [])) _
    refine XS.lload X3.here hx rfl (hb hby at_28) rfl ?_
    show Steps p.tables e below (T3.setTop (mkF m 30 #[.val (.int p1), .val (.int p2), .val (.int ro), .val (.int cl), .val (.long r1), .second, .val (.long ((ro.toInt64) + (1 : Int64))), .second, .unset, .unset, .unset, .unset, .unset, .unset, .unset, .unset] [(.long r1)])) _
    refine XS.lload X3.here hx rfl (hb hby at_30) rfl ?_
    show Steps p.tables e below (T3.setTop (mkF m 32 #[.val (.int p1), .val (.int p2), .val (.int ro), .val (.int cl), .val (.long r1), .second, .val (.long ((ro.toInt64) + (1 : Int64))), .second, .unset, .unset, .unset, .unset, .unset, .unset, .unset, .unset] [(.long ((ro.toInt64) + (1 : Int64))), (.long r1)])) _
    refine XS.ldiv X3.here hx rfl (hb hby at_32) rfl hq.1 ?_
    show Steps p.tables e below (T3.setTop (mkF m 33 #[.val (.int p1), .val (.int p2), .val (.int ro), .val (.int cl), .val (.long r1), .second, .val (.long ((ro.toInt64) + (1 : Int64))), .second, .unset, .unset, .unset, .unset, .unset, .unset, .unset, .unset] [(.long (r1 / ((ro.toInt64) + (1 : Int64))))])) _
    refine XS.lstore X3.here hx rfl (hb hby at_33) rfl (l' := #[.val (.int p1), .val (.int p2), .val (.int ro), .val (.int cl), .val (.long r1), .second, .val (.long ((ro.toInt64) + (1 : Int64))), .second, .val (.long (r1 / ((ro.toInt64) + (1 : Int64)))), .second, .unset, .unset, .unset, .unset, .unset, .unset]) rfl ?_
    show Steps p.tables e below (T3.setTop (mkF m 35 #[.val (.int p1), .val (.int p2), .val (.int ro), .val (.int cl), .val (.long r1), .second, .val (.long ((ro.toInt64) + (1 : Int64))), .second, .val (.long (r1 / ((ro.toInt64) + (1 : Int64)))), .second, .unset, .unset, .unset, .unset, .unset, .unset] [])) _
    refine XS.lload X3.here hx rfl (hb hby at_35) rfl ?_
    show Steps p.tables e below (T3.setTop (mkF m 37 #[.val (.int p1), .val (.int p2), .val (.int ro), .val (.int cl), .val (.long r1), .second, .val (.long ((ro.toInt64) + (1 : Int64))), .second, .val (.long (r1 / ((ro.toInt64) + (1 : Int64)))), .second, .unset, .unset, .unset, .unset, .unset, .unset] [(.long (r1 / ((ro.toInt64) + (1 : Int64))))])) _
    refine XS.lload X3.here hx rfl (hb hby at_37) rfl ?_
    show Steps p.tables e below (T3.setTop (mkF m 39 #[.val (.int p1), .val (.int p2), .val (.int ro), .val (.int cl), .val (.long r1), .second, .val (.long ((ro.toInt64) + (1 : Int64))), .second, .val (.long (r1 / ((ro.toInt64) + (1 : Int64)))), .second, .unset, .unset, .unset, .unset, .unset, .unset] [(.long ((ro.toInt64) + (1 : Int64))), (.long (r1 / ((ro.toInt64) + (1 : Int64))))])) _
    refine XS.lmul X3.here hx rfl (hb hby at_39) rfl ?_
    show Steps p.tables e below (T3.setTop (mkF m 40 #[.val (.int p1), .val (.int p2), .val (.int ro), .val (.int cl), .val (.long r1), .second, .val (.long ((ro.toInt64) + (1 : Int64))), .second, .val (.long (r1 / ((ro.toInt64) + (1 : Int64)))), .second, .unset, .unset, .unset, .unset, .unset, .unset] [(.long ((r1 / ((ro.toInt64) + (1 : Int64))) * ((ro.toInt64) + (1 : Int64))))])) _
    refine XS.lload X3.here hx rfl (hb hby at_40) rfl ?_
    show Steps p.tables e below (T3.setTop (mkF m 42 #[.val (.int p1), .val (.int p2), .val (.int ro), .val (.int cl), .val (.long r1), .second, .val (.long ((ro.toInt64) + (1 : Int64))), .second, .val (.long (r1 / ((ro.toInt64) + (1 : Int64)))), .second, .unset, .unset, .unset, .unset, .unset, .unset] [(.long r1), (.long ((r1 / ((ro.toInt64) + (1 : Int64))) * ((ro.toInt64) + (1 : Int64))))])) _
    refine XS.lcmp X3.here hx rfl (hb hby at_42) rfl ?_
    show Steps p.tables e below (T3.setTop (mkF m 43 #[.val (.int p1), .val (.int p2), .val (.int ro), .val (.int cl), .val (.long r1), .second, .val (.long ((ro.toInt64) + (1 : Int64))), .second, .val (.long (r1 / ((ro.toInt64) + (1 : Int64)))), .second, .unset, .unset, .unset, .unset, .unset, .unset] [(.int (lcmpW ((r1 / ((ro.toInt64) + (1 : Int64))) * ((ro.toInt64) + (1 : Int64))) r1))])) _
    refine XS.ifYes X3.here hx rfl (pc0 := 43) (pc' := 48) rfl (hb hby at_43) rfl ((if0 _ _).trans (teq hq.2.1).1) (by decide) (by decide) ?_
    show Steps p.tables e below (T3.setTop (mkF m 48 #[.val (.int p1), .val (.int p2), .val (.int ro), .val (.int cl), .val (.long r1), .second, .val (.long ((ro.toInt64) + (1 : Int64))), .second, .val (.long (r1 / ((ro.toInt64) + (1 : Int64)))), .second, .unset, .unset, .unset, .unset, .unset, .unset] [])) _
    refine XS.iloadN X3.here hx rfl (hb hby at_48) rfl ?_
    show Steps p.tables e below (T3.setTop (mkF m 49 #[.val (.int p1), .val (.int p2), .val (.int ro), .val (.int cl), .val (.long r1), .second, .val (.long ((ro.toInt64) + (1 : Int64))), .second, .val (.long (r1 / ((ro.toInt64) + (1 : Int64)))), .second, .unset, .unset, .unset, .unset, .unset, .unset] [(.int cl)])) _
    refine XS.i2l X3.here hx rfl (hb hby at_49) rfl ?_
    show Steps p.tables e below (T3.setTop (mkF m 50 #[.val (.int p1), .val (.int p2), .val (.int ro), .val (.int cl), .val (.long r1), .second, .val (.long ((ro.toInt64) + (1 : Int64))), .second, .val (.long (r1 / ((ro.toInt64) + (1 : Int64)))), .second, .unset, .unset, .unset, .unset, .unset, .unset] [(.long (cl.toInt64))])) _
    refine XS.lstore X3.here hx rfl (hb hby at_50) rfl (l' := #[.val (.int p1), .val (.int p2), .val (.int ro), .val (.int cl), .val (.long r1), .second, .val (.long ((ro.toInt64) + (1 : Int64))), .second, .val (.long (r1 / ((ro.toInt64) + (1 : Int64)))), .second, .val (.long (cl.toInt64)), .second, .unset, .unset, .unset, .unset]) rfl ?_
    show Steps p.tables e below (T3.setTop (mkF m 52 #[.val (.int p1), .val (.int p2), .val (.int ro), .val (.int cl), .val (.long r1), .second, .val (.long ((ro.toInt64) + (1 : Int64))), .second, .val (.long (r1 / ((ro.toInt64) + (1 : Int64)))), .second, .val (.long (cl.toInt64)), .second, .unset, .unset, .unset, .unset] [])) _
    refine X3.ldc2Long hx hown (mvT hZ (hw _ (List.mem_of_getElem? (i := 6) rfl))) (g := (mkF m 52 #[.val (.int p1), .val (.int p2), .val (.int ro), .val (.int cl), .val (.long r1), .second, .val (.long ((ro.toInt64) + (1 : Int64))), .second, .val (.long (r1 / ((ro.toInt64) + (1 : Int64)))), .second, .val (.long (cl.toInt64)), .second, .unset, .unset, .unset, .unset] [])) rfl (hb hby at_52) _ ?_
    show Steps p.tables e below (T3.setTop (mkF m 55 #[.val (.int p1), .val (.int p2), .val (.int ro), .val (.int cl), .val (.long r1), .second, .val (.long ((ro.toInt64) + (1 : Int64))), .second, .val (.long (r1 / ((ro.toInt64) + (1 : Int64)))), .second, .val (.long (cl.toInt64)), .second, .unset, .unset, .unset, .unset] [(.long (256 : Int64))])) _
    refine XS.lstore X3.here hx rfl (hb hby at_55) rfl (l' := #[.val (.int p1), .val (.int p2), .val (.int ro), .val (.int cl), .val (.long r1), .second, .val (.long ((ro.toInt64) + (1 : Int64))), .second, .val (.long (r1 / ((ro.toInt64) + (1 : Int64)))), .second, .val (.long (cl.toInt64)), .second, .val (.long (256 : Int64)), .second, .unset, .unset]) rfl ?_
    show Steps p.tables e below (T3.setTop (mkF m 57 #[.val (.int p1), .val (.int p2), .val (.int ro), .val (.int cl), .val (.long r1), .second, .val (.long ((ro.toInt64) + (1 : Int64))), .second, .val (.long (r1 / ((ro.toInt64) + (1 : Int64)))), .second, .val (.long (cl.toInt64)), .second, .val (.long (256 : Int64)), .second, .unset, .unset] [])) _
    refine XS.lload X3.here hx rfl (hb hby at_57) rfl ?_
    show Steps p.tables e below (T3.setTop (mkF m 59 #[.val (.int p1), .val (.int p2), .val (.int ro), .val (.int cl), .val (.long r1), .second, .val (.long ((ro.toInt64) + (1 : Int64))), .second, .val (.long (r1 / ((ro.toInt64) + (1 : Int64)))), .second, .val (.long (cl.toInt64)), .second, .val (.long (256 : Int64)), .second, .unset, .unset] [(.long (r1 / ((ro.toInt64) + (1 : Int64))))])) _
    refine XS.lconst X3.here hx rfl (hb hby at_59) ?_
    show Steps p.tables e below (T3.setTop (mkF m 60 #[.val (.int p1), .val (.int p2), .val (.int ro), .val (.int cl), .val (.long r1), .second, .val (.long ((ro.toInt64) + (1 : Int64))), .second, .val (.long (r1 / ((ro.toInt64) + (1 : Int64)))), .second, .val (.long (cl.toInt64)), .second, .val (.long (256 : Int64)), .second, .unset, .unset] [(.long (1 : Int64)), (.long (r1 / ((ro.toInt64) + (1 : Int64))))])) _
    refine XS.lsub X3.here hx rfl (hb hby at_60) rfl ?_
    show Steps p.tables e below (T3.setTop (mkF m 61 #[.val (.int p1), .val (.int p2), .val (.int ro), .val (.int cl), .val (.long r1), .second, .val (.long ((ro.toInt64) + (1 : Int64))), .second, .val (.long (r1 / ((ro.toInt64) + (1 : Int64)))), .second, .val (.long (cl.toInt64)), .second, .val (.long (256 : Int64)), .second, .unset, .unset] [(.long ((r1 / ((ro.toInt64) + (1 : Int64))) - (1 : Int64)))])) _
    refine XS.lload X3.here hx rfl (hb hby at_61) rfl ?_
    show Steps p.tables e below (T3.setTop (mkF m 63 #[.val (.int p1), .val (.int p2), .val (.int ro), .val (.int cl), .val (.long r1), .second, .val (.long ((ro.toInt64) + (1 : Int64))), .second, .val (.long (r1 / ((ro.toInt64) + (1 : Int64)))), .second, .val (.long (cl.toInt64)), .second, .val (.long (256 : Int64)), .second, .unset, .unset] [(.long (cl.toInt64)), (.long ((r1 / ((ro.toInt64) + (1 : Int64))) - (1 : Int64)))])) _
    refine XS.lmul X3.here hx rfl (hb hby at_63) rfl ?_
    show Steps p.tables e below (T3.setTop (mkF m 64 #[.val (.int p1), .val (.int p2), .val (.int ro), .val (.int cl), .val (.long r1), .second, .val (.long ((ro.toInt64) + (1 : Int64))), .second, .val (.long (r1 / ((ro.toInt64) + (1 : Int64)))), .second, .val (.long (cl.toInt64)), .second, .val (.long (256 : Int64)), .second, .unset, .unset] [(.long (((r1 / ((ro.toInt64) + (1 : Int64))) - (1 : Int64)) * (cl.toInt64)))])) _
    refine XS.lload X3.here hx rfl (hb hby at_64) rfl ?_
    show Steps p.tables e below (T3.setTop (mkF m 66 #[.val (.int p1), .val (.int p2), .val (.int ro), .val (.int cl), .val (.long r1), .second, .val (.long ((ro.toInt64) + (1 : Int64))), .second, .val (.long (r1 / ((ro.toInt64) + (1 : Int64)))), .second, .val (.long (cl.toInt64)), .second, .val (.long (256 : Int64)), .second, .unset, .unset] [(.long (256 : Int64)), (.long (((r1 / ((ro.toInt64) + (1 : Int64))) - (1 : Int64)) * (cl.toInt64)))])) _
    refine XS.lcmp X3.here hx rfl (hb hby at_66) rfl ?_
    show Steps p.tables e below (T3.setTop (mkF m 67 #[.val (.int p1), .val (.int p2), .val (.int ro), .val (.int cl), .val (.long r1), .second, .val (.long ((ro.toInt64) + (1 : Int64))), .second, .val (.long (r1 / ((ro.toInt64) + (1 : Int64)))), .second, .val (.long (cl.toInt64)), .second, .val (.long (256 : Int64)), .second, .unset, .unset] [(.int (lcmpW (((r1 / ((ro.toInt64) + (1 : Int64))) - (1 : Int64)) * (cl.toInt64)) (256 : Int64)))])) _
    refine XS.ifNo X3.here hx rfl (hb hby at_67) rfl ((if0 _ _).trans (flt hq.2.2.1).1) ?_
    show Steps p.tables e below (T3.setTop (mkF m 70 #[.val (.int p1), .val (.int p2), .val (.int ro), .val (.int cl), .val (.long r1), .second, .val (.long ((ro.toInt64) + (1 : Int64))), .second, .val (.long (r1 / ((ro.toInt64) + (1 : Int64)))), .second, .val (.long (cl.toInt64)), .second, .val (.long (256 : Int64)), .second, .unset, .unset] [])) _
    refine XS.iconst X3.here hx rfl (hb hby at_70) ?_
    show Steps p.tables e below (T3.setTop (mkF m 71 #[.val (.int p1), .val (.int p2), .val (.int ro), .val (.int cl), .val (.long r1), .second, .val (.long ((ro.toInt64) + (1 : Int64))), .second, .val (.long (r1 / ((ro.toInt64) + (1 : Int64)))), .second, .val (.long (cl.toInt64)), .second, .val (.long (256 : Int64)), .second, .unset, .unset] [(.int (1 : Int32))])) _
    refine XS.goto X3.here hx rfl (pc0 := 71) (pc' := 75) rfl (hb hby at_71) (by decide) (by decide) ?_
    show Steps p.tables e below (T3.setTop (mkF m 75 #[.val (.int p1), .val (.int p2), .val (.int ro), .val (.int cl), .val (.long r1), .second, .val (.long ((ro.toInt64) + (1 : Int64))), .second, .val (.long (r1 / ((ro.toInt64) + (1 : Int64)))), .second, .val (.long (cl.toInt64)), .second, .val (.long (256 : Int64)), .second, .unset, .unset] [(.int (1 : Int32))])) _
    refine XS.istore X3.here hx rfl (hb hby at_75) rfl (l' := #[.val (.int p1), .val (.int p2), .val (.int ro), .val (.int cl), .val (.long r1), .second, .val (.long ((ro.toInt64) + (1 : Int64))), .second, .val (.long (r1 / ((ro.toInt64) + (1 : Int64)))), .second, .val (.long (cl.toInt64)), .second, .val (.long (256 : Int64)), .second, .val (.int (1 : Int32)), .unset]) rfl ?_
    show Steps p.tables e below (T3.setTop (mkF m 77 #[.val (.int p1), .val (.int p2), .val (.int ro), .val (.int cl), .val (.long r1), .second, .val (.long ((ro.toInt64) + (1 : Int64))), .second, .val (.long (r1 / ((ro.toInt64) + (1 : Int64)))), .second, .val (.long (cl.toInt64)), .second, .val (.long (256 : Int64)), .second, .val (.int (1 : Int32)), .unset] [])) _
    refine XS.lload X3.here hx rfl (hb hby at_77) rfl ?_
    show Steps p.tables e below (T3.setTop (mkF m 79 #[.val (.int p1), .val (.int p2), .val (.int ro), .val (.int cl), .val (.long r1), .second, .val (.long ((ro.toInt64) + (1 : Int64))), .second, .val (.long (r1 / ((ro.toInt64) + (1 : Int64)))), .second, .val (.long (cl.toInt64)), .second, .val (.long (256 : Int64)), .second, .val (.int (1 : Int32)), .unset] [(.long (r1 / ((ro.toInt64) + (1 : Int64))))])) _
    refine X3.ldc2Long hx hown (mvT hZ (hw _ (List.mem_of_getElem? (i := 7) rfl))) (g := (mkF m 79 #[.val (.int p1), .val (.int p2), .val (.int ro), .val (.int cl), .val (.long r1), .second, .val (.long ((ro.toInt64) + (1 : Int64))), .second, .val (.long (r1 / ((ro.toInt64) + (1 : Int64)))), .second, .val (.long (cl.toInt64)), .second, .val (.long (256 : Int64)), .second, .val (.int (1 : Int32)), .unset] [(.long (r1 / ((ro.toInt64) + (1 : Int64))))])) rfl (hb hby at_79) _ ?_
    show Steps p.tables e below (T3.setTop (mkF m 82 #[.val (.int p1), .val (.int p2), .val (.int ro), .val (.int cl), .val (.long r1), .second, .val (.long ((ro.toInt64) + (1 : Int64))), .second, .val (.long (r1 / ((ro.toInt64) + (1 : Int64)))), .second, .val (.long (cl.toInt64)), .second, .val (.long (256 : Int64)), .second, .val (.int (1 : Int32)), .unset] [(.long (2 : Int64)), (.long (r1 / ((ro.toInt64) + (1 : Int64))))])) _
    refine XS.lsub X3.here hx rfl (hb hby at_82) rfl ?_
    show Steps p.tables e below (T3.setTop (mkF m 83 #[.val (.int p1), .val (.int p2), .val (.int ro), .val (.int cl), .val (.long r1), .second, .val (.long ((ro.toInt64) + (1 : Int64))), .second, .val (.long (r1 / ((ro.toInt64) + (1 : Int64)))), .second, .val (.long (cl.toInt64)), .second, .val (.long (256 : Int64)), .second, .val (.int (1 : Int32)), .unset] [(.long ((r1 / ((ro.toInt64) + (1 : Int64))) - (2 : Int64)))])) _
    refine XS.lload X3.here hx rfl (hb hby at_83) rfl ?_
    show Steps p.tables e below (T3.setTop (mkF m 85 #[.val (.int p1), .val (.int p2), .val (.int ro), .val (.int cl), .val (.long r1), .second, .val (.long ((ro.toInt64) + (1 : Int64))), .second, .val (.long (r1 / ((ro.toInt64) + (1 : Int64)))), .second, .val (.long (cl.toInt64)), .second, .val (.long (256 : Int64)), .second, .val (.int (1 : Int32)), .unset] [(.long (cl.toInt64)), (.long ((r1 / ((ro.toInt64) + (1 : Int64))) - (2 : Int64)))])) _
    refine XS.lmul X3.here hx rfl (hb hby at_85) rfl ?_
    show Steps p.tables e below (T3.setTop (mkF m 86 #[.val (.int p1), .val (.int p2), .val (.int ro), .val (.int cl), .val (.long r1), .second, .val (.long ((ro.toInt64) + (1 : Int64))), .second, .val (.long (r1 / ((ro.toInt64) + (1 : Int64)))), .second, .val (.long (cl.toInt64)), .second, .val (.long (256 : Int64)), .second, .val (.int (1 : Int32)), .unset] [(.long (((r1 / ((ro.toInt64) + (1 : Int64))) - (2 : Int64)) * (cl.toInt64)))])) _
    refine XS.lload X3.here hx rfl (hb hby at_86) rfl ?_
    show Steps p.tables e below (T3.setTop (mkF m 88 #[.val (.int p1), .val (.int p2), .val (.int ro), .val (.int cl), .val (.long r1), .second, .val (.long ((ro.toInt64) + (1 : Int64))), .second, .val (.long (r1 / ((ro.toInt64) + (1 : Int64)))), .second, .val (.long (cl.toInt64)), .second, .val (.long (256 : Int64)), .second, .val (.int (1 : Int32)), .unset] [(.long (256 : Int64)), (.long (((r1 / ((ro.toInt64) + (1 : Int64))) - (2 : Int64)) * (cl.toInt64)))])) _
    refine XS.lcmp X3.here hx rfl (hb hby at_88) rfl ?_
    show Steps p.tables e below (T3.setTop (mkF m 89 #[.val (.int p1), .val (.int p2), .val (.int ro), .val (.int cl), .val (.long r1), .second, .val (.long ((ro.toInt64) + (1 : Int64))), .second, .val (.long (r1 / ((ro.toInt64) + (1 : Int64)))), .second, .val (.long (cl.toInt64)), .second, .val (.long (256 : Int64)), .second, .val (.int (1 : Int32)), .unset] [(.int (lcmpW (((r1 / ((ro.toInt64) + (1 : Int64))) - (2 : Int64)) * (cl.toInt64)) (256 : Int64)))])) _
    refine XS.ifNo X3.here hx rfl (hb hby at_89) rfl ((if0 _ _).trans (tlt hq.2.2.2).2.1) ?_
    show Steps p.tables e below (T3.setTop (mkF m 92 #[.val (.int p1), .val (.int p2), .val (.int ro), .val (.int cl), .val (.long r1), .second, .val (.long ((ro.toInt64) + (1 : Int64))), .second, .val (.long (r1 / ((ro.toInt64) + (1 : Int64)))), .second, .val (.long (cl.toInt64)), .second, .val (.long (256 : Int64)), .second, .val (.int (1 : Int32)), .unset] [])) _
    refine XS.iconst X3.here hx rfl (hb hby at_92) ?_
    show Steps p.tables e below (T3.setTop (mkF m 93 #[.val (.int p1), .val (.int p2), .val (.int ro), .val (.int cl), .val (.long r1), .second, .val (.long ((ro.toInt64) + (1 : Int64))), .second, .val (.long (r1 / ((ro.toInt64) + (1 : Int64)))), .second, .val (.long (cl.toInt64)), .second, .val (.long (256 : Int64)), .second, .val (.int (1 : Int32)), .unset] [(.int (1 : Int32))])) _
    refine XS.goto X3.here hx rfl (pc0 := 93) (pc' := 97) rfl (hb hby at_93) (by decide) (by decide) ?_
    show Steps p.tables e below (T3.setTop (mkF m 97 #[.val (.int p1), .val (.int p2), .val (.int ro), .val (.int cl), .val (.long r1), .second, .val (.long ((ro.toInt64) + (1 : Int64))), .second, .val (.long (r1 / ((ro.toInt64) + (1 : Int64)))), .second, .val (.long (cl.toInt64)), .second, .val (.long (256 : Int64)), .second, .val (.int (1 : Int32)), .unset] [(.int (1 : Int32))])) _
    refine XS.istore X3.here hx rfl (hb hby at_97) rfl (l' := #[.val (.int p1), .val (.int p2), .val (.int ro), .val (.int cl), .val (.long r1), .second, .val (.long ((ro.toInt64) + (1 : Int64))), .second, .val (.long (r1 / ((ro.toInt64) + (1 : Int64)))), .second, .val (.long (cl.toInt64)), .second, .val (.long (256 : Int64)), .second, .val (.int (1 : Int32)), .val (.int (1 : Int32))]) rfl ?_
    show Steps p.tables e below (T3.setTop (mkF m 99 #[.val (.int p1), .val (.int p2), .val (.int ro), .val (.int cl), .val (.long r1), .second, .val (.long ((ro.toInt64) + (1 : Int64))), .second, .val (.long (r1 / ((ro.toInt64) + (1 : Int64)))), .second, .val (.long (cl.toInt64)), .second, .val (.long (256 : Int64)), .second, .val (.int (1 : Int32)), .val (.int (1 : Int32))] [])) _
    refine XS.iload X3.here hx rfl (hb hby at_99) rfl ?_
    show Steps p.tables e below (T3.setTop (mkF m 101 #[.val (.int p1), .val (.int p2), .val (.int ro), .val (.int cl), .val (.long r1), .second, .val (.long ((ro.toInt64) + (1 : Int64))), .second, .val (.long (r1 / ((ro.toInt64) + (1 : Int64)))), .second, .val (.long (cl.toInt64)), .second, .val (.long (256 : Int64)), .second, .val (.int (1 : Int32)), .val (.int (1 : Int32))] [(.int (1 : Int32))])) _
    refine XS.ifNo X3.here hx rfl (hb hby at_101) rfl ((if0 _ _).trans (feq (by decide : ¬ ((1 : Int32) = (0 : Int32)))).1) ?_
    show Steps p.tables e below (T3.setTop (mkF m 104 #[.val (.int p1), .val (.int p2), .val (.int ro), .val (.int cl), .val (.long r1), .second, .val (.long ((ro.toInt64) + (1 : Int64))), .second, .val (.long (r1 / ((ro.toInt64) + (1 : Int64)))), .second, .val (.long (cl.toInt64)), .second, .val (.long (256 : Int64)), .second, .val (.int (1 : Int32)), .val (.int (1 : Int32))] [])) _
    refine XS.iload X3.here hx rfl (hb hby at_104) rfl ?_
    show Steps p.tables e below (T3.setTop (mkF m 106 #[.val (.int p1), .val (.int p2), .val (.int ro), .val (.int cl), .val (.long r1), .second, .val (.long ((ro.toInt64) + (1 : Int64))), .second, .val (.long (r1 / ((ro.toInt64) + (1 : Int64)))), .second, .val (.long (cl.toInt64)), .second, .val (.long (256 : Int64)), .second, .val (.int (1 : Int32)), .val (.int (1 : Int32))] [(.int (1 : Int32))])) _
    refine XS.ifNo X3.here hx rfl (hb hby at_106) rfl ((if0 _ _).trans (feq (by decide : ¬ ((1 : Int32) = (0 : Int32)))).1) ?_
    show Steps p.tables e below (T3.setTop (mkF m 109 #[.val (.int p1), .val (.int p2), .val (.int ro), .val (.int cl), .val (.long r1), .second, .val (.long ((ro.toInt64) + (1 : Int64))), .second, .val (.long (r1 / ((ro.toInt64) + (1 : Int64)))), .second, .val (.long (cl.toInt64)), .second, .val (.long (256 : Int64)), .second, .val (.int (1 : Int32)), .val (.int (1 : Int32))] [])) _
    refine XS.iconst X3.here hx rfl (hb hby at_109) ?_
    show Steps p.tables e below (T3.setTop (mkF m 110 #[.val (.int p1), .val (.int p2), .val (.int ro), .val (.int cl), .val (.long r1), .second, .val (.long ((ro.toInt64) + (1 : Int64))), .second, .val (.long (r1 / ((ro.toInt64) + (1 : Int64)))), .second, .val (.long (cl.toInt64)), .second, .val (.long (256 : Int64)), .second, .val (.int (1 : Int32)), .val (.int (1 : Int32))] [(.int (1 : Int32))])) _
    refine XS.goto X3.here hx rfl (pc0 := 110) (pc' := 114) rfl (hb hby at_110) (by decide) (by decide) ?_
    show Steps p.tables e below (T3.setTop (mkF m 114 #[.val (.int p1), .val (.int p2), .val (.int ro), .val (.int cl), .val (.long r1), .second, .val (.long ((ro.toInt64) + (1 : Int64))), .second, .val (.long (r1 / ((ro.toInt64) + (1 : Int64)))), .second, .val (.long (cl.toInt64)), .second, .val (.long (256 : Int64)), .second, .val (.int (1 : Int32)), .val (.int (1 : Int32))] [(.int (1 : Int32))])) _
    exact retN X3 hx (t := .boolean) Bd.returns (by simp) (hb hby at_114) hr
  · show Q0 Z p1 p2 h0 n0 _ T3.heap _
    rw [e3]
    exact ⟨rfl, N3⟩
set_option maxRecDepth 65536 in
set_option maxHeartbeats 40000000 in
theorem comes_1 {Post : Tables → Env → Array Value → State → Outcome → State → Prop} (hpost : ∀ tb e args s v u, (limb_1_1.after args s (.returned v) u = true ∧ limb_1_2.after args s (.returned v) u = true ∧ True) → FrameEnd s (.returned v) u (Jvm.fieldLocs frame_1_writes args s ++ Jvm.arrayLocs frame_1_arrays args s ++ Jvm.staticLocs frame_1_statics s) 0 0 → Post tb e args s (.returned v) u) :
    ArmFor flags0 classFile x code maxLocals ret World_1 tables_1 room_1 Calls_1 rest_1 Pre_1 Post := by
  intro l hfl _ _ p e ha hc hk s m args below hf hA hF happ hP
  obtain ⟨hcalls, hrest, hpre⟩ := hP
  obtain ⟨-, -, -, hnamed, -, -, -, hat⟩ := (Spec.applies_iff hf).mp happ
  obtain ⟨hg, hn⟩ := and_e (Cond.before_iff.mp (show (Jvm.Cond.and given_1 narrow_1).before args s = true from hpre))
  obtain ⟨g4, g5⟩ := and_e hg
  obtain ⟨g6, g7⟩ := and_e g5
  obtain ⟨w0, w1, rfl⟩ : ∃ w0 w1 : Value, args = #[w0, w1] := by
    have hs : args.size = 2 := by simpa [Cond.value, given_1] using g4
    obtain ⟨L⟩ := args
    match L, hs with
    | [w0, w1], _ => exact ⟨w0, w1, rfl⟩
  have hw := fun d (hd : d ∈ tables_1) => atoms_spec (ws := Jvm.Cond.code x code maxLocals ret :: tables_1) hat d (List.mem_cons_of_mem _ hd)
  have hfit : Fit s := fun {y c} hc i hi => by
    obtain ⟨ha, rfl⟩ := Array.getElem?_eq_some_iff.mp hc
    have q := List.all_eq_true.mp ((Array.all_eq_true_iff_forall_mem.mp hF) _ (Array.getElem_mem ha)) i (List.mem_range.mpr hi)
    simpa [Array.getElem?_eq_getElem hi] using q
  obtain ⟨i0, ei0⟩ := is_v g6
  obtain rfl : w0 = (.int i0) := Option.some.inj ei0
  obtain ⟨i1, ei1⟩ := is_v g7
  obtain rfl : w1 = (.int i1) := Option.some.inj ei1
  obtain ⟨n, o, h1, h2, h3, _, L, rfl, ⟨rfl, N⟩, hq⟩ := rm0 l s _ hw tables_1 i0 i1 s.heap s.heap.size (Nat.le_refl _) p e ha hc hk s m _ below hf ((Spec.applies_iff_loose hf).mp happ).1 ⟨rfl, State.Warmed39.refl s, rfl⟩ trivial
  refine ⟨n, _, h1, h2, h3, hpost _ _ _ _ _ _ ⟨Cond.after_iff.mpr rfl, Cond.after_iff.mpr (eq_i res_at (Term.int_eval (1)) rfl), trivial⟩ ⟨hq.1, hq.2.1, (hq.2.2.sift fun y hy => Or.inr (N y hy)).mono (by decide) (by decide)⟩⟩
theorem main_1_1 : Claimed_1_1 := comes_1 fun _ _ _ _ _ _ h hF => ⟨h.1, hF⟩
theorem main_1_2 : Claimed_1_2 := comes_1 fun _ _ _ _ _ _ h hF => ⟨h.2.1, hF⟩
end Jvm.Pilot.@@N@@
namespace Jvm.Pilot.@@N@@
open Jvm Jvm.ClassFile Sem Op Lib Jvm.Free Jvm.Stand Jvm.Pilot.@@N@@.Jvm.D
/-! MADE BY PROGRAM (witnessworld.py) out of the Statement's table words and the real class files: 9 classes; the members and pool entries that the words name. The judged class is class 1, her method 1. -/
namespace start1
open Jvm.ClassFile
def u (s : String) : CpInfo := .utf8 (stringToUtf16 s)
/-- a pool by its gaps: so many unusable entries, then the entry; so many at the end -/
def gap : Nat → List CpInfo → List CpInfo
  | 0, r => r
  | n + 1, r => .unusable :: gap n r
def poolList (es : List (Nat × CpInfo)) (last : Nat) : List CpInfo := es.foldr (fun e r => gap e.1 (e.2 :: r)) (gap last [])
def pool (es : List (Nat × CpInfo)) (last : Nat) : Array CpInfo := ⟨poolList es last⟩
def fileOf (pool : Array CpInfo) (this : Nat) (attrs : Array Attribute := #[]) (ms : Array MethodInfo := #[]) (fl : Nat := 33) (sup : Nat := 0) (ifs : Array Nat := #[]) (fds : Array FieldInfo := #[]) : ClassFile where
  minorVersion := 0
  majorVersion := 65
  constantPool := pool
  accessFlags := fl
  thisClass := this
  superClass := sup
  interfaces := ifs
  fields := fds
  methods := ms
  attributes := attrs
def plain (name : String) (sup : Option ClassId) : Class where
  name := name
  kind := .ordinary
  loader := none
  accessFlags := 33
  super := sup
  interfaces := #[]
  cf := none
  fields := #[]
  methods := #[]
  instanceTypes := #[]
  staticTypes := #[]
  resolved := #[]
  callSites := []
  init := .initialized
  statics := none
  mirror := none

def pool0 : Array CpInfo := pool [(5, u "<init>"), (0, u "()V"), (1, .class_ 10), (1, u "java/lang/Object")] 113

def k0m0 : Method := { name := "<init>", desc := "()V", sig := { parameters := [], returnType := none }, accessFlags := 1, code := none }
/-- java/lang/Object -/
def k0 : Class := { plain "java/lang/Object" none with
  accessFlags := 33
  interfaces := #[]
  cf := some (fileOf pool0 8 #[] #[{ accessFlags := 1, nameIndex := 5, descriptorIndex := 6, attributes := #[] }] 33 0 #[] #[])
  fields := #[]
  methods := #[k0m0]
  instanceTypes := #[]
  staticTypes := #[]
  resolved := Array.replicate 124 none
  statics := none }

def pool1 : Array CpInfo := pool [(2, .class_ 4), (1, u "java/lang/Object"), (0, u "<init>"), (0, u "()V"), (0, .integer 2147483647), (0, .methodref 9 10), (0, .class_ 11), (0, .nameAndType 12 13), (0, u "com/example/indel/indel/SeedChain"), (0, u "wordStepsOfBand"), (0, u "(II)J"), (0, .long 256), (1, .long 2), (1, .class_ 19), (0, u "com/example/indel/indel/SeedChainWordStepsOfBandPinLaw"), (2, u "law"), (0, u "(II)Z")] 3

def k1m0 : Method := { name := "<init>", desc := "()V", sig := { parameters := [], returnType := none }, accessFlags := 2, code := none }
def k1c1 : Code := { maxStack := 4, maxLocals := 16, code := code, exceptionTable := #[], attributes := #[] }
def k1m1 : Method := { name := "law", desc := "(II)Z", sig := { parameters := [.int, .int], returnType := some .boolean }, accessFlags := 9, code := some k1c1 }
/-- com/example/indel/indel/SeedChainWordStepsOfBandPinLaw -/
def k1 : Class := { plain "com/example/indel/indel/SeedChainWordStepsOfBandPinLaw" (some 0) with
  accessFlags := 49
  interfaces := #[]
  cf := some (fileOf pool1 18 #[] #[{ accessFlags := 2, nameIndex := 5, descriptorIndex := 6, attributes := #[] }, { accessFlags := 9, nameIndex := 22, descriptorIndex := 23, attributes := #[] }] 49 2 #[] #[])
  fields := #[]
  methods := #[k1m0, k1m1]
  instanceTypes := #[]
  staticTypes := #[]
  resolved := Array.replicate 27 none
  statics := none }

def pool2 : Array CpInfo := pool [(2, .class_ 4), (1, u "java/lang/Object"), (0, u "<init>"), (0, u "()V"), (0, .class_ 8), (0, u "com/example/indel/indel/SeedChain"), (0, .long 256), (6, .class_ 18), (1, u "com/example/indel/indel/SeedChain$Chain"), (14, .class_ 35), (1, u "com/example/indel/indel/SeedChain$Seeds"), (5, u "I"), (59, u "REACH"), (2, u "SEED"), (1, u "STRIDE"), (1, u "BASE"), (0, u "J"), (0, u "EMPTY"), (1, u "REPEATED"), (3, u "wordStepsOfBand"), (0, u "(II)J")] 11

def k2m0 : Method := { name := "<init>", desc := "()V", sig := { parameters := [], returnType := none }, accessFlags := 2, code := none }
def k2c1 : Code := { maxStack := 4, maxLocals := 4, code := prog_50_method_2_code, exceptionTable := #[], attributes := #[] }
def k2m1 : Method := { name := "wordStepsOfBand", desc := "(II)J", sig := { parameters := [.int, .int], returnType := some .long }, accessFlags := 8, code := some k2c1 }
/-- com/example/indel/indel/SeedChain -/
def k2 : Class := { plain "com/example/indel/indel/SeedChain" (some 0) with
  accessFlags := 48
  interfaces := #[]
  cf := some (fileOf pool2 7 #[.nestMembers #[16, 33]] #[{ accessFlags := 2, nameIndex := 5, descriptorIndex := 6, attributes := #[] }, { accessFlags := 8, nameIndex := 116, descriptorIndex := 117, attributes := #[] }] 48 2 #[] #[{ accessFlags := 24, nameIndex := 101, descriptorIndex := 41, attributes := #[] }, { accessFlags := 26, nameIndex := 104, descriptorIndex := 41, attributes := #[] }, { accessFlags := 26, nameIndex := 106, descriptorIndex := 41, attributes := #[] }, { accessFlags := 26, nameIndex := 108, descriptorIndex := 109, attributes := #[] }, { accessFlags := 26, nameIndex := 110, descriptorIndex := 41, attributes := #[] }, { accessFlags := 26, nameIndex := 112, descriptorIndex := 41, attributes := #[] }])
  fields := #[{ name := "REACH", type := .int, accessFlags := 24, slot := 0, constantValue := 0 }, { name := "SEED", type := .int, accessFlags := 26, slot := 1, constantValue := 0 }, { name := "STRIDE", type := .int, accessFlags := 26, slot := 2, constantValue := 0 }, { name := "BASE", type := .long, accessFlags := 26, slot := 3, constantValue := 0 }, { name := "EMPTY", type := .int, accessFlags := 26, slot := 4, constantValue := 0 }, { name := "REPEATED", type := .int, accessFlags := 26, slot := 5, constantValue := 0 }]
  methods := #[k2m0, k2m1]
  instanceTypes := #[]
  staticTypes := #[.int, .int, .int, .long, .int, .int]
  resolved := Array.replicate 129 none
  statics := none }

def pool3 : Array CpInfo := pool [(1, u "java/lang/Cloneable"), (0, .class_ 1), (0, u "java/lang/Object"), (0, .class_ 3)] 3

/-- java/lang/Cloneable -/
def k3 : Class := { plain "java/lang/Cloneable" (some 0) with
  accessFlags := 1537
  interfaces := #[]
  cf := some (fileOf pool3 2 #[] #[] 1537 4 #[] #[])
  fields := #[]
  methods := #[]
  instanceTypes := #[]
  staticTypes := #[]
  resolved := Array.replicate 8 none
  statics := none }

def pool4 : Array CpInfo := pool [(1, u "java/io/Serializable"), (0, .class_ 1), (0, u "java/lang/Object"), (0, .class_ 3)] 3

/-- java/io/Serializable -/
def k4 : Class := { plain "java/io/Serializable" (some 0) with
  accessFlags := 1537
  interfaces := #[]
  cf := some (fileOf pool4 2 #[] #[] 1537 4 #[] #[])
  fields := #[]
  methods := #[]
  instanceTypes := #[]
  staticTypes := #[]
  resolved := Array.replicate 8 none
  statics := none }

/-- the primitive byte -/
def k5 : Class := { plain "byte" none with kind := .primitive 'B', accessFlags := 0x411 }
/-- [B -/
def k6 : Class := { plain "[B" (some 0) with kind := .array 5 .byte, interfaces := #[3, 4], accessFlags := 1041 }

/-- the primitive int -/
def k7 : Class := { plain "int" none with kind := .primitive 'I', accessFlags := 0x411 }
/-- [I -/
def k8 : Class := { plain "[I" (some 0) with kind := .array 7 .int, interfaces := #[3, 4], accessFlags := 1041 }

def heap : Heap := #[]
def classes : Array Class := #[k0, k1, k2, k3, k4, k5, k6, k7, k8]
def interned : List (Array UInt16 × Addr) := []
def slotsUsed : Nat := 0
def theMethod : MethodId := ⟨1, 1⟩
def args0 : Array Value := #[.int 5, .int 7]
def aboutOver (below : List Frame) : State where
  vm := { classes := classes, interned := interned.toArray }
  heap := heap
  slotsUsed := slotsUsed
  threads := #[{ frames := .invoking theMethod args0 :: below }]
def below0 : List Frame := [.native { method := ⟨0, 0⟩, args := #[] }]
def about1 : State := aboutOver below0
def p0 : Program := .bare "" "" ""
def e0 : Env := launch0.env 0 0 0
theorem w_frames : about1.frames = Frame.invoking theMethod args0 :: below0 := rfl
set_option maxRecDepth 65536 in
theorem w_args : argsFit about1.vm theMethod args0 = true := by decide +kernel
set_option maxRecDepth 65536 in
theorem w_heap : heapFits about1 = true := by decide +kernel
set_option maxRecDepth 65536 in
theorem w_runnable : about1.curStatus? = some .runnable := by decide +kernel
set_option maxRecDepth 65536 in
theorem w_alone : about1.alone = true := by decide +kernel
set_option maxRecDepth 65536 in
theorem w_named : about1.methodNamed? x = some theMethod := by decide +kernel
set_option maxRecDepth 65536 in
theorem w_hears : about1.hears theMethod below0 = true := by decide +kernel
set_option maxRecDepth 65536 in
theorem w_ripe : about1.ripe theMethod args0 below0 = true := by decide +kernel
theorem w_running : about1.status = .running := rfl
set_option maxRecDepth 65536 in
theorem w_room : about1.hasRoom e0.platform room_1 = true :=
  launch0.hasRoom_least _ room_1 (by decide +kernel) (by decide +kernel) (by decide +kernel) (by decide +kernel) (by decide +kernel) (by decide +kernel)
theorem allAtoms_all (ts : List Jvm.Cond) (a : Array Jvm.Value) (st : Jvm.State) : (allAtoms ts).before a st = ts.all (fun c => c.before a st) := by
  induction ts with
  | nil => rfl
  | cons c t ih =>
    show (Jvm.Cond.and c (allAtoms t)).before a st = _
    rw [Jvm.Cond.before_and, ih, List.all_cons]
def words1 : List Jvm.Cond := Jvm.Cond.code x code maxLocals ret :: tables_1
/-- a 'code' word, met by the world's own term for the bytes: nothing is compared byte by byte -/
theorem code_word {y : MethodName} {bytes : ByteArray} {mx : Nat} {rt : Option FieldType} {a : Array Value} {s : State} {m : MethodId} {meth : Method} {c : Code} (h1 : s.methodNamed? y = some m) (h2 : s.vm.method? m = some meth) (h3 : meth.code = some c) (h4 : c.code = bytes)
    (h5 : (c.maxLocals == mx && c.exceptionTable.isEmpty && decide (c.maxStack ≤ mostOperands) && decide (meth.sig.returnType = rt) && !meth.locks && decide (parseMethodDescriptor y.desc = some meth.sig)) = true) : (Jvm.Cond.code y bytes mx rt).before a s = true := by
  simp only [Bool.and_eq_true, beq_iff_eq, Bool.not_eq_true', decide_eq_true_eq] at h5
  obtain ⟨⟨⟨⟨⟨g1, g2⟩, g3⟩, g4⟩, g5⟩, g6⟩ := h5
  simp [Cond.before, Cond.holds, Cond.value, h1, h2, h3, h4, g1, g2, g3, g4, g5, g6]
def isCode : Jvm.Cond → Bool
  | .code _ _ _ _ => true
  | _ => false
theorem all_split {L : List Jvm.Cond} {P : Jvm.Cond → Bool} (h1 : L.all (fun c => isCode c || P c) = true) (h2 : ∀ c ∈ L.filter isCode, P c = true) : L.all P = true := by
  refine List.all_eq_true.mpr fun c hc => ?_
  have h := List.all_eq_true.mp h1 c hc
  rcases Bool.eq_false_or_eq_true (isCode c) with hi | hi
  · exact h2 c (List.mem_filter.mpr ⟨hc, hi⟩)
  · simpa [hi] using h
set_option maxRecDepth 65536 in
theorem w_c0 : (Jvm.Cond.code x code maxLocals ret).before args0 about1 = true := code_word (m := ⟨1, 1⟩) (meth := k1m1) (c := k1c1) (by decide +kernel) rfl rfl rfl (by decide +kernel)
set_option maxRecDepth 65536 in
theorem w_c1 : (Jvm.Cond.code ({ cls := "com/example/indel/indel/SeedChain", name := "wordStepsOfBand", desc := "(II)J" } : Jvm.MethodName) prog_50_method_2_code (4 : Nat) (Option.some Jvm.ClassFile.FieldType.long)).before args0 about1 = true := code_word (m := ⟨2, 1⟩) (meth := k2m1) (c := k2c1) (by decide +kernel) rfl rfl rfl (by decide +kernel)
def codes1 : List Jvm.Cond := [Jvm.Cond.code x code maxLocals ret, Jvm.Cond.code ({ cls := "com/example/indel/indel/SeedChain", name := "wordStepsOfBand", desc := "(II)J" } : Jvm.MethodName) prog_50_method_2_code (4 : Nat) (Option.some Jvm.ClassFile.FieldType.long)]
set_option maxRecDepth 65536 in
theorem codes_eq : words1.filter isCode = codes1 := rfl
theorem w_codes : ∀ c ∈ words1.filter isCode, c.before args0 about1 = true := by
  rw [codes_eq]
  intro c hc
  simp only [codes1, List.mem_cons, List.not_mem_nil, or_false] at hc
  rcases hc with rfl | rfl
  · exact w_c0
  · exact w_c1
set_option maxRecDepth 65536 in
theorem w_t1 : words1.all (fun c => isCode c || c.before args0 about1) = true := by decide +kernel
theorem w_tables : (allAtoms (Jvm.Cond.code x code maxLocals ret :: tables_1)).before args0 about1 = true := by
  rw [allAtoms_all]
  show words1.all (fun c => c.before args0 about1) = true
  refine all_split ?_ w_codes
  rw [w_t1]
set_option maxRecDepth 65536 in
theorem w_case : (Jvm.Cond.and given_1 narrow_1).before args0 about1 = true := by decide +kernel
theorem w_applies : (headSpec (Jvm.Cond.code x code maxLocals ret :: tables_1) room_1).applies x e0.platform about1 = true :=
  (Spec.applies_iff w_frames).mpr ⟨w_running, w_runnable, w_alone, w_named, w_hears, w_ripe, w_room, w_tables⟩
theorem atStart : AtStart classFile x code maxLocals ret World_1 tables_1 room_1 Calls_1 rest_1 Pre_1 launch0 p0 e0 about1 theMethod args0 below0 :=
  ⟨lists_1, trivial, launch0.admits_env _ _ _, launch0.least_env, fairChoices_fair.cas, fairChoices_fair.clock, w_frames, w_args, w_heap, w_applies, trivial, trivial, w_case⟩
end start1
theorem witness_1 : WitnessClaimed_1 := ⟨start1.p0, start1.e0, start1.about1, start1.theMethod, start1.args0, start1.below0, start1.atStart⟩
end Jvm.Pilot.@@N@@
