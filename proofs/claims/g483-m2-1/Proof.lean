import JvmDerived
import JvmDerived.Pilot.@@N@@Statement
import JvmDerived.Pilot.@@N@@Code
set_option linter.unusedVariables false
set_option linter.unusedSimpArgs false
namespace Jvm.RoadKit
open Sem ClassFile Op Lib Jvm.Stand Jvm.Free Jvm.LawKit
section New
variable {p : Program} {l : Launch} {e : Env} {R : Room} {s : State} {m : MethodId} {args : Array Value} {below : List Frame} {meth : Method} {c : Code} {T : State} {locs : List Loc} {cells slots : Nat}
theorem retI (X : Stand p l e R s m args below meth c T locs cells slots) (hx : p.tables.exec = Jvm.exec) {pc : Nat} {Ls : Array Slot} {z : Int32} {rest : List Value} (hret : meth.sig.returnType = some .int) (hd : decode c.code pc = .ok (.ireturn, 1)) {fs : List Frame}
    (hl : ∀ (f : JFrame) (acts : List Action), f.method = m → f.locked = none → f.entered = [] → (doReturn e (T.setTop f) acts (some (.int z))).1 = T.setFrames fs) : Steps p.tables e below (T.setTop (mkF m pc Ls (.int z :: rest))) (T.setFrames fs) := by
  have hm' : T.vm.method? m = some meth := X.method'
  have hn : narrow .int (.int z) = .int z := rfl
  show Steps p.tables e below (T.setTop { method := m, pc := pc, locals := Ls, stack := _ :: rest, locked := none }) _
  jvm_step X.here [X.here.top, hx, hd, hm', hret, hn]
  first | (intro acts; rw [hl _ acts rfl rfl rfl]) | rw [hl _ _ rfl rfl rfl]
  exact Steps.refl _
end New
end Jvm.RoadKit
namespace Jvm.Pilot.@@N@@
open Jvm Jvm.ClassFile Sem Op Lib Jvm.Free Jvm.Stand Jvm.LawKit Jvm.RoadKit Bundle Jvm.Pilot.@@N@@.Jvm.D
theorem own_retJ {p : Program} {l : Launch} {e : Env} {R : Room} {s : State} {m : MethodId} {args : Array Value} {below : List Frame} {meth : Method} {c : Code} {T : State} {locs : List Loc} {cells slots : Nat} (X : Stand p l e R s m args below meth c T locs cells slots) (hx : p.tables.exec = Jvm.exec) {pc : Nat} {Ls : Array Slot} {z : Int64} {rest : List Value} (hret : meth.sig.returnType = some .long) (hd : decode c.code pc = .ok (.lreturn, 1)) {fs : List Frame}
    (hl : ∀ (f : JFrame) (acts : List Action), f.method = m → f.locked = none → f.entered = [] → (doReturn e (T.setTop f) acts (some (.long z))).1 = T.setFrames fs) : Steps p.tables e below (T.setTop (mkF m pc Ls (.long z :: rest))) (T.setFrames fs) := by
  have hm' : T.vm.method? m = some meth := X.method'
  have hn : narrow .long (.long z) = .long z := rfl
  show Steps p.tables e below (T.setTop { method := m, pc := pc, locals := Ls, stack := _ :: rest, locked := none }) _
  jvm_step X.here [X.here.top, hx, hd, hm', hret, hn]
  first | (intro acts; rw [hl _ acts rfl rfl rfl]) | rw [hl _ _ rfl rfl rfl]
  exact Steps.refl _
def own_sh (x : Int64) : Int64 := x ^^^ ((x.toUInt64 >>> ((33 : Int32) &&& 0x3f).toInt64.toUInt64).toInt64)
def own_nw (c x : Int64) : Int64 := x * ((2 : Int64) - (c * x))
def own_inv (c : Int64) : Int64 := own_nw c (own_nw c (own_nw c (own_nw c (own_nw c c))))
def own_mix (x : Int64) : Int64 := own_sh (own_sh (own_sh x * (-49064778989728563 : Int64)) * (-4265267296055464877 : Int64))
theorem own_sh_bv (x : Int64) : (own_sh x).toBitVec = x.toBitVec ^^^ (x.toBitVec >>> 33) := rfl
theorem own_sh_sh (x : Int64) : own_sh (own_sh x) = x := by
  apply Int64.toBitVec_inj.mp
  rw [own_sh_bv, own_sh_bv]
  apply BitVec.eq_of_getLsbD_eq
  intro i hi
  simp only [BitVec.getLsbD_xor, BitVec.getLsbD_ushiftRight]
  rw [BitVec.getLsbD_of_ge x.toBitVec (33 + (33 + i)) (by omega)]
  cases x.toBitVec.getLsbD i <;> cases x.toBitVec.getLsbD (33 + i) <;> rfl
theorem own_i1 : (-49064778989728563 : Int64) * own_inv (-49064778989728563 : Int64) = 1 := by decide
theorem own_i2 : (-4265267296055464877 : Int64) * own_inv (-4265267296055464877 : Int64) = 1 := by decide
theorem own_fin (k : Int64) : own_sh (own_sh (own_sh (own_mix k) * own_inv (-4265267296055464877 : Int64)) * own_inv (-49064778989728563 : Int64)) = k := by
  unfold own_mix
  rw [own_sh_sh, Int64.mul_assoc, own_i2, Int64.mul_one, own_sh_sh, Int64.mul_assoc, own_i1, Int64.mul_one, own_sh_sh]
theorem d1_0 : decode prog_19_method_11_code 0 = .ok (.lload_n 0, 1) := by decide +kernel
theorem d1_1 : decode prog_19_method_11_code 1 = .ok (.lload_n 0, 1) := by decide +kernel
theorem d1_2 : decode prog_19_method_11_code 2 = .ok (.bipush 33, 2) := by decide +kernel
theorem d1_4 : decode prog_19_method_11_code 4 = .ok (.lushr, 1) := by decide +kernel
theorem d1_5 : decode prog_19_method_11_code 5 = .ok (.lxor, 1) := by decide +kernel
theorem d1_6 : decode prog_19_method_11_code 6 = .ok (.lstore_n 0, 1) := by decide +kernel
theorem d1_7 : decode prog_19_method_11_code 7 = .ok (.lload_n 0, 1) := by decide +kernel
theorem d1_8 : decode prog_19_method_11_code 8 = .ok (.ldc2_w 106, 3) := by decide +kernel
theorem d1_11 : decode prog_19_method_11_code 11 = .ok (.lmul, 1) := by decide +kernel
theorem d1_12 : decode prog_19_method_11_code 12 = .ok (.lstore_n 0, 1) := by decide +kernel
theorem d1_13 : decode prog_19_method_11_code 13 = .ok (.lload_n 0, 1) := by decide +kernel
theorem d1_14 : decode prog_19_method_11_code 14 = .ok (.lload_n 0, 1) := by decide +kernel
theorem d1_15 : decode prog_19_method_11_code 15 = .ok (.bipush 33, 2) := by decide +kernel
theorem d1_17 : decode prog_19_method_11_code 17 = .ok (.lushr, 1) := by decide +kernel
theorem d1_18 : decode prog_19_method_11_code 18 = .ok (.lxor, 1) := by decide +kernel
theorem d1_19 : decode prog_19_method_11_code 19 = .ok (.lstore_n 0, 1) := by decide +kernel
theorem d1_20 : decode prog_19_method_11_code 20 = .ok (.lload_n 0, 1) := by decide +kernel
theorem d1_21 : decode prog_19_method_11_code 21 = .ok (.ldc2_w 108, 3) := by decide +kernel
theorem d1_24 : decode prog_19_method_11_code 24 = .ok (.lmul, 1) := by decide +kernel
theorem d1_25 : decode prog_19_method_11_code 25 = .ok (.lstore_n 0, 1) := by decide +kernel
theorem d1_26 : decode prog_19_method_11_code 26 = .ok (.lload_n 0, 1) := by decide +kernel
theorem d1_27 : decode prog_19_method_11_code 27 = .ok (.lload_n 0, 1) := by decide +kernel
theorem d1_28 : decode prog_19_method_11_code 28 = .ok (.bipush 33, 2) := by decide +kernel
theorem d1_30 : decode prog_19_method_11_code 30 = .ok (.lushr, 1) := by decide +kernel
theorem d1_31 : decode prog_19_method_11_code 31 = .ok (.lxor, 1) := by decide +kernel
theorem d1_32 : decode prog_19_method_11_code 32 = .ok (.lstore_n 0, 1) := by decide +kernel
theorem d1_33 : decode prog_19_method_11_code 33 = .ok (.lload_n 0, 1) := by decide +kernel
theorem d1_34 : decode prog_19_method_11_code 34 = .ok (.lreturn, 1) := by decide +kernel
theorem pn_1 : plainName "com/example/compact_set_filters/compactsetfilters/KeyHash" = true := by first | (simp [plainName, overriddenIn]; done) | decide +kernel
theorem ef_1 (m : MethodId) (x0 : Int64) : entryFrame m #[(.long x0)] 2 = mkF m 0 #[.val (.long x0), .second] [] := by first | (simp [entryFrame, mkF, argsToLocals, Value.category]; done) | rfl
def Q1 (Z : State) (q1 : Int64) (h0 : Heap) (n0 : Nat) (v : Option Value) (h : Heap) (L : List Loc) : Prop := v = some (.long (own_mix q1)) ∧ Fr n0 L ∧ h = h0
set_option maxRecDepth 65536 in
set_option maxHeartbeats 40000000 in
theorem rm1 (l : Launch) (Z : State) (a0 : Array Value) (hw : ∀ d ∈ tables_1, d.before a0 Z = true) (ws : List Jvm.Cond) (q1 : Int64) (h0 : Heap) (n0 : Nat) (Z0 : n0 ≤ h0.size) :
    MetFree l (⟨"com/example/compact_set_filters/compactsetfilters/KeyHash", "fmix", "(J)J"⟩ : MethodName) (head1 (Jvm.Cond.code (⟨"com/example/compact_set_filters/compactsetfilters/KeyHash", "fmix", "(J)J"⟩ : MethodName) prog_19_method_11_code 2 (some .long) :: ws) ({ frames := 0, cells := 0, slots := 0, locals := 0 } : Room)) (fun a U => a = #[(.long q1)] ∧ Z.Warmed39 U.vm ∧ U.heap = h0) (fun _ _ _ _ _ => True) (fun _ U o U' => ∃ v L, o = .returned v ∧ Q1 Z q1 h0 n0 v U'.heap L ∧ FrameEnd U o U' L ({ frames := 0, cells := 0, slots := 0, locals := 0 } : Room).cells ({ frames := 0, cells := 0, slots := 0, locals := 0 } : Room).slots) := by
  refine MetFree.of_bodySF (plainFor_of_name pn_1) hisR ?_
  intro p e s m args below meth c s₁ Bd hml0 hP hK
  obtain ⟨rfl, hZ, hh⟩ := hP
  have hx := Bd.exec
  have hby := Bd.bytes
  have hml : c.maxLocals = 2 := hml0
  have hown : s.vm.findClass "com/example/compact_set_filters/compactsetfilters/KeyHash" = some m.cls := findClass_of_methodNamed Bd.named
  have hnm := (name_of_methodNamed Bd.named Bd.method).1
  have X0 : Stand p l e ({ frames := 0, cells := 0, slots := 0, locals := 0 } : Room) s m #[(.long q1)] below meth c s₁ [] 0 0 := Stand.of_body Bd
  have e0 : s₁.heap = h0 := by rw [← hh, Bd.state]; rfl
  have N0 := Fr.nil n0
  have pre0 : ∀ t, Steps p.tables e below (s₁.setTop (mkF m 0 #[.val (.long q1), .second] [])) t → Steps p.tables e below (s₁.setTop (entryFrame m #[(.long q1)] 2)) t := fun t k => castTop (ef_1 m q1) k
  -- 3. LAWS

  obtain ⟨fs, hr, hrun, hended, hW, hsame⟩ := X0.leave (v := some (.long (((((q1 ^^^ ((q1.toUInt64 >>> ((33 : Int32) &&& 0x3f).toInt64.toUInt64).toInt64)) * (-49064778989728563 : Int64)) ^^^ ((((q1 ^^^ ((q1.toUInt64 >>> ((33 : Int32) &&& 0x3f).toInt64.toUInt64).toInt64)) * (-49064778989728563 : Int64)).toUInt64 >>> ((33 : Int32) &&& 0x3f).toInt64.toUInt64).toInt64)) * (-4265267296055464877 : Int64)) ^^^ ((((((q1 ^^^ ((q1.toUInt64 >>> ((33 : Int32) &&& 0x3f).toInt64.toUInt64).toInt64)) * (-49064778989728563 : Int64)) ^^^ ((((q1 ^^^ ((q1.toUInt64 >>> ((33 : Int32) &&& 0x3f).toInt64.toUInt64).toInt64)) * (-49064778989728563 : Int64)).toUInt64 >>> ((33 : Int32) &&& 0x3f).toInt64.toUInt64).toInt64)) * (-4265267296055464877 : Int64)).toUInt64 >>> ((33 : Int32) &&& 0x3f).toInt64.toUInt64).toInt64)))) (fun h => by rw [Bd.returns] at h; cases h)
  refine ⟨_, _, pre0 _ ?_, hrun, hended, _, _, rfl, ?_, ⟨_, rfl⟩, hW, hsame.mono (by decide) (by decide)⟩
  -- 4. STEPS
  · show Steps p.tables e below (s₁.setTop (mkF m 0 #[.val (.long q1), .second] [])) _
    refine XS.lloadN X0.here hx rfl (hb hby d1_0) rfl ?_
    show Steps p.tables e below (s₁.setTop (mkF m 1 #[.val (.long q1), .second] [(.long q1)])) _
    refine XS.lloadN X0.here hx rfl (hb hby d1_1) rfl ?_
    show Steps p.tables e below (s₁.setTop (mkF m 2 #[.val (.long q1), .second] [(.long q1), (.long q1)])) _
    refine XS.bipush X0.here hx rfl (hb hby d1_2) ?_
    show Steps p.tables e below (s₁.setTop (mkF m 4 #[.val (.long q1), .second] [(.int (33 : Int32)), (.long q1), (.long q1)])) _
    refine XS.lushr X0.here hx rfl (hb hby d1_4) rfl ?_
    show Steps p.tables e below (s₁.setTop (mkF m 5 #[.val (.long q1), .second] [(.long ((q1.toUInt64 >>> ((33 : Int32) &&& 0x3f).toInt64.toUInt64).toInt64)), (.long q1)])) _
    refine XS.lxor X0.here hx rfl (hb hby d1_5) rfl ?_
    show Steps p.tables e below (s₁.setTop (mkF m 6 #[.val (.long q1), .second] [(.long (q1 ^^^ ((q1.toUInt64 >>> ((33 : Int32) &&& 0x3f).toInt64.toUInt64).toInt64)))])) _
    refine XS.lstoreN X0.here hx rfl (hb hby d1_6) rfl (l' := #[.val (.long (q1 ^^^ ((q1.toUInt64 >>> ((33 : Int32) &&& 0x3f).toInt64.toUInt64).toInt64))), .second]) rfl ?_
    show Steps p.tables e below (s₁.setTop (mkF m 7 #[.val (.long (q1 ^^^ ((q1.toUInt64 >>> ((33 : Int32) &&& 0x3f).toInt64.toUInt64).toInt64))), .second] [])) _
    refine XS.lloadN X0.here hx rfl (hb hby d1_7) rfl ?_
    show Steps p.tables e below (s₁.setTop (mkF m 8 #[.val (.long (q1 ^^^ ((q1.toUInt64 >>> ((33 : Int32) &&& 0x3f).toInt64.toUInt64).toInt64))), .second] [(.long (q1 ^^^ ((q1.toUInt64 >>> ((33 : Int32) &&& 0x3f).toInt64.toUInt64).toInt64)))])) _
    refine X0.ldc2Long hx hown (mvT hZ (hw _ (List.mem_of_getElem? (i := 4) rfl))) (g := (mkF m 8 #[.val (.long (q1 ^^^ ((q1.toUInt64 >>> ((33 : Int32) &&& 0x3f).toInt64.toUInt64).toInt64))), .second] [(.long (q1 ^^^ ((q1.toUInt64 >>> ((33 : Int32) &&& 0x3f).toInt64.toUInt64).toInt64)))])) rfl (hb hby d1_8) _ ?_
    show Steps p.tables e below (s₁.setTop (mkF m 11 #[.val (.long (q1 ^^^ ((q1.toUInt64 >>> ((33 : Int32) &&& 0x3f).toInt64.toUInt64).toInt64))), .second] [(.long (-49064778989728563 : Int64)), (.long (q1 ^^^ ((q1.toUInt64 >>> ((33 : Int32) &&& 0x3f).toInt64.toUInt64).toInt64)))])) _
    refine XS.lmul X0.here hx rfl (hb hby d1_11) rfl ?_
    show Steps p.tables e below (s₁.setTop (mkF m 12 #[.val (.long (q1 ^^^ ((q1.toUInt64 >>> ((33 : Int32) &&& 0x3f).toInt64.toUInt64).toInt64))), .second] [(.long ((q1 ^^^ ((q1.toUInt64 >>> ((33 : Int32) &&& 0x3f).toInt64.toUInt64).toInt64)) * (-49064778989728563 : Int64)))])) _
    refine XS.lstoreN X0.here hx rfl (hb hby d1_12) rfl (l' := #[.val (.long ((q1 ^^^ ((q1.toUInt64 >>> ((33 : Int32) &&& 0x3f).toInt64.toUInt64).toInt64)) * (-49064778989728563 : Int64))), .second]) rfl ?_
    show Steps p.tables e below (s₁.setTop (mkF m 13 #[.val (.long ((q1 ^^^ ((q1.toUInt64 >>> ((33 : Int32) &&& 0x3f).toInt64.toUInt64).toInt64)) * (-49064778989728563 : Int64))), .second] [])) _
    refine XS.lloadN X0.here hx rfl (hb hby d1_13) rfl ?_
    show Steps p.tables e below (s₁.setTop (mkF m 14 #[.val (.long ((q1 ^^^ ((q1.toUInt64 >>> ((33 : Int32) &&& 0x3f).toInt64.toUInt64).toInt64)) * (-49064778989728563 : Int64))), .second] [(.long ((q1 ^^^ ((q1.toUInt64 >>> ((33 : Int32) &&& 0x3f).toInt64.toUInt64).toInt64)) * (-49064778989728563 : Int64)))])) _
    refine XS.lloadN X0.here hx rfl (hb hby d1_14) rfl ?_
    show Steps p.tables e below (s₁.setTop (mkF m 15 #[.val (.long ((q1 ^^^ ((q1.toUInt64 >>> ((33 : Int32) &&& 0x3f).toInt64.toUInt64).toInt64)) * (-49064778989728563 : Int64))), .second] [(.long ((q1 ^^^ ((q1.toUInt64 >>> ((33 : Int32) &&& 0x3f).toInt64.toUInt64).toInt64)) * (-49064778989728563 : Int64))), (.long ((q1 ^^^ ((q1.toUInt64 >>> ((33 : Int32) &&& 0x3f).toInt64.toUInt64).toInt64)) * (-49064778989728563 : Int64)))])) _
    refine XS.bipush X0.here hx rfl (hb hby d1_15) ?_
    show Steps p.tables e below (s₁.setTop (mkF m 17 #[.val (.long ((q1 ^^^ ((q1.toUInt64 >>> ((33 : Int32) &&& 0x3f).toInt64.toUInt64).toInt64)) * (-49064778989728563 : Int64))), .second] [(.int (33 : Int32)), (.long ((q1 ^^^ ((q1.toUInt64 >>> ((33 : Int32) &&& 0x3f).toInt64.toUInt64).toInt64)) * (-49064778989728563 : Int64))), (.long ((q1 ^^^ ((q1.toUInt64 >>> ((33 : Int32) &&& 0x3f).toInt64.toUInt64).toInt64)) * (-49064778989728563 : Int64)))])) _
    refine XS.lushr X0.here hx rfl (hb hby d1_17) rfl ?_
    show Steps p.tables e below (s₁.setTop (mkF m 18 #[.val (.long ((q1 ^^^ ((q1.toUInt64 >>> ((33 : Int32) &&& 0x3f).toInt64.toUInt64).toInt64)) * (-49064778989728563 : Int64))), .second] [(.long ((((q1 ^^^ ((q1.toUInt64 >>> ((33 : Int32) &&& 0x3f).toInt64.toUInt64).toInt64)) * (-49064778989728563 : Int64)).toUInt64 >>> ((33 : Int32) &&& 0x3f).toInt64.toUInt64).toInt64)), (.long ((q1 ^^^ ((q1.toUInt64 >>> ((33 : Int32) &&& 0x3f).toInt64.toUInt64).toInt64)) * (-49064778989728563 : Int64)))])) _
    refine XS.lxor X0.here hx rfl (hb hby d1_18) rfl ?_
    show Steps p.tables e below (s₁.setTop (mkF m 19 #[.val (.long ((q1 ^^^ ((q1.toUInt64 >>> ((33 : Int32) &&& 0x3f).toInt64.toUInt64).toInt64)) * (-49064778989728563 : Int64))), .second] [(.long (((q1 ^^^ ((q1.toUInt64 >>> ((33 : Int32) &&& 0x3f).toInt64.toUInt64).toInt64)) * (-49064778989728563 : Int64)) ^^^ ((((q1 ^^^ ((q1.toUInt64 >>> ((33 : Int32) &&& 0x3f).toInt64.toUInt64).toInt64)) * (-49064778989728563 : Int64)).toUInt64 >>> ((33 : Int32) &&& 0x3f).toInt64.toUInt64).toInt64)))])) _
    refine XS.lstoreN X0.here hx rfl (hb hby d1_19) rfl (l' := #[.val (.long (((q1 ^^^ ((q1.toUInt64 >>> ((33 : Int32) &&& 0x3f).toInt64.toUInt64).toInt64)) * (-49064778989728563 : Int64)) ^^^ ((((q1 ^^^ ((q1.toUInt64 >>> ((33 : Int32) &&& 0x3f).toInt64.toUInt64).toInt64)) * (-49064778989728563 : Int64)).toUInt64 >>> ((33 : Int32) &&& 0x3f).toInt64.toUInt64).toInt64))), .second]) rfl ?_
    show Steps p.tables e below (s₁.setTop (mkF m 20 #[.val (.long (((q1 ^^^ ((q1.toUInt64 >>> ((33 : Int32) &&& 0x3f).toInt64.toUInt64).toInt64)) * (-49064778989728563 : Int64)) ^^^ ((((q1 ^^^ ((q1.toUInt64 >>> ((33 : Int32) &&& 0x3f).toInt64.toUInt64).toInt64)) * (-49064778989728563 : Int64)).toUInt64 >>> ((33 : Int32) &&& 0x3f).toInt64.toUInt64).toInt64))), .second] [])) _
    refine XS.lloadN X0.here hx rfl (hb hby d1_20) rfl ?_
    show Steps p.tables e below (s₁.setTop (mkF m 21 #[.val (.long (((q1 ^^^ ((q1.toUInt64 >>> ((33 : Int32) &&& 0x3f).toInt64.toUInt64).toInt64)) * (-49064778989728563 : Int64)) ^^^ ((((q1 ^^^ ((q1.toUInt64 >>> ((33 : Int32) &&& 0x3f).toInt64.toUInt64).toInt64)) * (-49064778989728563 : Int64)).toUInt64 >>> ((33 : Int32) &&& 0x3f).toInt64.toUInt64).toInt64))), .second] [(.long (((q1 ^^^ ((q1.toUInt64 >>> ((33 : Int32) &&& 0x3f).toInt64.toUInt64).toInt64)) * (-49064778989728563 : Int64)) ^^^ ((((q1 ^^^ ((q1.toUInt64 >>> ((33 : Int32) &&& 0x3f).toInt64.toUInt64).toInt64)) * (-49064778989728563 : Int64)).toUInt64 >>> ((33 : Int32) &&& 0x3f).toInt64.toUInt64).toInt64)))])) _
    refine X0.ldc2Long hx hown (mvT hZ (hw _ (List.mem_of_getElem? (i := 5) rfl))) (g := (mkF m 21 #[.val (.long (((q1 ^^^ ((q1.toUInt64 >>> ((33 : Int32) &&& 0x3f).toInt64.toUInt64).toInt64)) * (-49064778989728563 : Int64)) ^^^ ((((q1 ^^^ ((q1.toUInt64 >>> ((33 : Int32) &&& 0x3f).toInt64.toUInt64).toInt64)) * (-49064778989728563 : Int64)).toUInt64 >>> ((33 : Int32) &&& 0x3f).toInt64.toUInt64).toInt64))), .second] [(.long (((q1 ^^^ ((q1.toUInt64 >>> ((33 : Int32) &&& 0x3f).toInt64.toUInt64).toInt64)) * (-49064778989728563 : Int64)) ^^^ ((((q1 ^^^ ((q1.toUInt64 >>> ((33 : Int32) &&& 0x3f).toInt64.toUInt64).toInt64)) * (-49064778989728563 : Int64)).toUInt64 >>> ((33 : Int32) &&& 0x3f).toInt64.toUInt64).toInt64)))])) rfl (hb hby d1_21) _ ?_
    show Steps p.tables e below (s₁.setTop (mkF m 24 #[.val (.long (((q1 ^^^ ((q1.toUInt64 >>> ((33 : Int32) &&& 0x3f).toInt64.toUInt64).toInt64)) * (-49064778989728563 : Int64)) ^^^ ((((q1 ^^^ ((q1.toUInt64 >>> ((33 : Int32) &&& 0x3f).toInt64.toUInt64).toInt64)) * (-49064778989728563 : Int64)).toUInt64 >>> ((33 : Int32) &&& 0x3f).toInt64.toUInt64).toInt64))), .second] [(.long (-4265267296055464877 : Int64)), (.long (((q1 ^^^ ((q1.toUInt64 >>> ((33 : Int32) &&& 0x3f).toInt64.toUInt64).toInt64)) * (-49064778989728563 : Int64)) ^^^ ((((q1 ^^^ ((q1.toUInt64 >>> ((33 : Int32) &&& 0x3f).toInt64.toUInt64).toInt64)) * (-49064778989728563 : Int64)).toUInt64 >>> ((33 : Int32) &&& 0x3f).toInt64.toUInt64).toInt64)))])) _
    refine XS.lmul X0.here hx rfl (hb hby d1_24) rfl ?_
    show Steps p.tables e below (s₁.setTop (mkF m 25 #[.val (.long (((q1 ^^^ ((q1.toUInt64 >>> ((33 : Int32) &&& 0x3f).toInt64.toUInt64).toInt64)) * (-49064778989728563 : Int64)) ^^^ ((((q1 ^^^ ((q1.toUInt64 >>> ((33 : Int32) &&& 0x3f).toInt64.toUInt64).toInt64)) * (-49064778989728563 : Int64)).toUInt64 >>> ((33 : Int32) &&& 0x3f).toInt64.toUInt64).toInt64))), .second] [(.long ((((q1 ^^^ ((q1.toUInt64 >>> ((33 : Int32) &&& 0x3f).toInt64.toUInt64).toInt64)) * (-49064778989728563 : Int64)) ^^^ ((((q1 ^^^ ((q1.toUInt64 >>> ((33 : Int32) &&& 0x3f).toInt64.toUInt64).toInt64)) * (-49064778989728563 : Int64)).toUInt64 >>> ((33 : Int32) &&& 0x3f).toInt64.toUInt64).toInt64)) * (-4265267296055464877 : Int64)))])) _
    refine XS.lstoreN X0.here hx rfl (hb hby d1_25) rfl (l' := #[.val (.long ((((q1 ^^^ ((q1.toUInt64 >>> ((33 : Int32) &&& 0x3f).toInt64.toUInt64).toInt64)) * (-49064778989728563 : Int64)) ^^^ ((((q1 ^^^ ((q1.toUInt64 >>> ((33 : Int32) &&& 0x3f).toInt64.toUInt64).toInt64)) * (-49064778989728563 : Int64)).toUInt64 >>> ((33 : Int32) &&& 0x3f).toInt64.toUInt64).toInt64)) * (-4265267296055464877 : Int64))), .second]) rfl ?_
    show Steps p.tables e below (s₁.setTop (mkF m 26 #[.val (.long ((((q1 ^^^ ((q1.toUInt64 >>> ((33 : Int32) &&& 0x3f).toInt64.toUInt64).toInt64)) * (-49064778989728563 : Int64)) ^^^ ((((q1 ^^^ ((q1.toUInt64 >>> ((33 : Int32) &&& 0x3f).toInt64.toUInt64).toInt64)) * (-49064778989728563 : Int64)).toUInt64 >>> ((33 : Int32) &&& 0x3f).toInt64.toUInt64).toInt64)) * (-4265267296055464877 : Int64))), .second] [])) _
    refine XS.lloadN X0.here hx rfl (hb hby d1_26) rfl ?_
    show Steps p.tables e below (s₁.setTop (mkF m 27 #[.val (.long ((((q1 ^^^ ((q1.toUInt64 >>> ((33 : Int32) &&& 0x3f).toInt64.toUInt64).toInt64)) * (-49064778989728563 : Int64)) ^^^ ((((q1 ^^^ ((q1.toUInt64 >>> ((33 : Int32) &&& 0x3f).toInt64.toUInt64).toInt64)) * (-49064778989728563 : Int64)).toUInt64 >>> ((33 : Int32) &&& 0x3f).toInt64.toUInt64).toInt64)) * (-4265267296055464877 : Int64))), .second] [(.long ((((q1 ^^^ ((q1.toUInt64 >>> ((33 : Int32) &&& 0x3f).toInt64.toUInt64).toInt64)) * (-49064778989728563 : Int64)) ^^^ ((((q1 ^^^ ((q1.toUInt64 >>> ((33 : Int32) &&& 0x3f).toInt64.toUInt64).toInt64)) * (-49064778989728563 : Int64)).toUInt64 >>> ((33 : Int32) &&& 0x3f).toInt64.toUInt64).toInt64)) * (-4265267296055464877 : Int64)))])) _
    refine XS.lloadN X0.here hx rfl (hb hby d1_27) rfl ?_
    show Steps p.tables e below (s₁.setTop (mkF m 28 #[.val (.long ((((q1 ^^^ ((q1.toUInt64 >>> ((33 : Int32) &&& 0x3f).toInt64.toUInt64).toInt64)) * (-49064778989728563 : Int64)) ^^^ ((((q1 ^^^ ((q1.toUInt64 >>> ((33 : Int32) &&& 0x3f).toInt64.toUInt64).toInt64)) * (-49064778989728563 : Int64)).toUInt64 >>> ((33 : Int32) &&& 0x3f).toInt64.toUInt64).toInt64)) * (-4265267296055464877 : Int64))), .second] [(.long ((((q1 ^^^ ((q1.toUInt64 >>> ((33 : Int32) &&& 0x3f).toInt64.toUInt64).toInt64)) * (-49064778989728563 : Int64)) ^^^ ((((q1 ^^^ ((q1.toUInt64 >>> ((33 : Int32) &&& 0x3f).toInt64.toUInt64).toInt64)) * (-49064778989728563 : Int64)).toUInt64 >>> ((33 : Int32) &&& 0x3f).toInt64.toUInt64).toInt64)) * (-4265267296055464877 : Int64))), (.long ((((q1 ^^^ ((q1.toUInt64 >>> ((33 : Int32) &&& 0x3f).toInt64.toUInt64).toInt64)) * (-49064778989728563 : Int64)) ^^^ ((((q1 ^^^ ((q1.toUInt64 >>> ((33 : Int32) &&& 0x3f).toInt64.toUInt64).toInt64)) * (-49064778989728563 : Int64)).toUInt64 >>> ((33 : Int32) &&& 0x3f).toInt64.toUInt64).toInt64)) * (-4265267296055464877 : Int64)))])) _
    refine XS.bipush X0.here hx rfl (hb hby d1_28) ?_
    show Steps p.tables e below (s₁.setTop (mkF m 30 #[.val (.long ((((q1 ^^^ ((q1.toUInt64 >>> ((33 : Int32) &&& 0x3f).toInt64.toUInt64).toInt64)) * (-49064778989728563 : Int64)) ^^^ ((((q1 ^^^ ((q1.toUInt64 >>> ((33 : Int32) &&& 0x3f).toInt64.toUInt64).toInt64)) * (-49064778989728563 : Int64)).toUInt64 >>> ((33 : Int32) &&& 0x3f).toInt64.toUInt64).toInt64)) * (-4265267296055464877 : Int64))), .second] [(.int (33 : Int32)), (.long ((((q1 ^^^ ((q1.toUInt64 >>> ((33 : Int32) &&& 0x3f).toInt64.toUInt64).toInt64)) * (-49064778989728563 : Int64)) ^^^ ((((q1 ^^^ ((q1.toUInt64 >>> ((33 : Int32) &&& 0x3f).toInt64.toUInt64).toInt64)) * (-49064778989728563 : Int64)).toUInt64 >>> ((33 : Int32) &&& 0x3f).toInt64.toUInt64).toInt64)) * (-4265267296055464877 : Int64))), (.long ((((q1 ^^^ ((q1.toUInt64 >>> ((33 : Int32) &&& 0x3f).toInt64.toUInt64).toInt64)) * (-49064778989728563 : Int64)) ^^^ ((((q1 ^^^ ((q1.toUInt64 >>> ((33 : Int32) &&& 0x3f).toInt64.toUInt64).toInt64)) * (-49064778989728563 : Int64)).toUInt64 >>> ((33 : Int32) &&& 0x3f).toInt64.toUInt64).toInt64)) * (-4265267296055464877 : Int64)))])) _
    refine XS.lushr X0.here hx rfl (hb hby d1_30) rfl ?_
    show Steps p.tables e below (s₁.setTop (mkF m 31 #[.val (.long ((((q1 ^^^ ((q1.toUInt64 >>> ((33 : Int32) &&& 0x3f).toInt64.toUInt64).toInt64)) * (-49064778989728563 : Int64)) ^^^ ((((q1 ^^^ ((q1.toUInt64 >>> ((33 : Int32) &&& 0x3f).toInt64.toUInt64).toInt64)) * (-49064778989728563 : Int64)).toUInt64 >>> ((33 : Int32) &&& 0x3f).toInt64.toUInt64).toInt64)) * (-4265267296055464877 : Int64))), .second] [(.long ((((((q1 ^^^ ((q1.toUInt64 >>> ((33 : Int32) &&& 0x3f).toInt64.toUInt64).toInt64)) * (-49064778989728563 : Int64)) ^^^ ((((q1 ^^^ ((q1.toUInt64 >>> ((33 : Int32) &&& 0x3f).toInt64.toUInt64).toInt64)) * (-49064778989728563 : Int64)).toUInt64 >>> ((33 : Int32) &&& 0x3f).toInt64.toUInt64).toInt64)) * (-4265267296055464877 : Int64)).toUInt64 >>> ((33 : Int32) &&& 0x3f).toInt64.toUInt64).toInt64)), (.long ((((q1 ^^^ ((q1.toUInt64 >>> ((33 : Int32) &&& 0x3f).toInt64.toUInt64).toInt64)) * (-49064778989728563 : Int64)) ^^^ ((((q1 ^^^ ((q1.toUInt64 >>> ((33 : Int32) &&& 0x3f).toInt64.toUInt64).toInt64)) * (-49064778989728563 : Int64)).toUInt64 >>> ((33 : Int32) &&& 0x3f).toInt64.toUInt64).toInt64)) * (-4265267296055464877 : Int64)))])) _
    refine XS.lxor X0.here hx rfl (hb hby d1_31) rfl ?_
    show Steps p.tables e below (s₁.setTop (mkF m 32 #[.val (.long ((((q1 ^^^ ((q1.toUInt64 >>> ((33 : Int32) &&& 0x3f).toInt64.toUInt64).toInt64)) * (-49064778989728563 : Int64)) ^^^ ((((q1 ^^^ ((q1.toUInt64 >>> ((33 : Int32) &&& 0x3f).toInt64.toUInt64).toInt64)) * (-49064778989728563 : Int64)).toUInt64 >>> ((33 : Int32) &&& 0x3f).toInt64.toUInt64).toInt64)) * (-4265267296055464877 : Int64))), .second] [(.long (((((q1 ^^^ ((q1.toUInt64 >>> ((33 : Int32) &&& 0x3f).toInt64.toUInt64).toInt64)) * (-49064778989728563 : Int64)) ^^^ ((((q1 ^^^ ((q1.toUInt64 >>> ((33 : Int32) &&& 0x3f).toInt64.toUInt64).toInt64)) * (-49064778989728563 : Int64)).toUInt64 >>> ((33 : Int32) &&& 0x3f).toInt64.toUInt64).toInt64)) * (-4265267296055464877 : Int64)) ^^^ ((((((q1 ^^^ ((q1.toUInt64 >>> ((33 : Int32) &&& 0x3f).toInt64.toUInt64).toInt64)) * (-49064778989728563 : Int64)) ^^^ ((((q1 ^^^ ((q1.toUInt64 >>> ((33 : Int32) &&& 0x3f).toInt64.toUInt64).toInt64)) * (-49064778989728563 : Int64)).toUInt64 >>> ((33 : Int32) &&& 0x3f).toInt64.toUInt64).toInt64)) * (-4265267296055464877 : Int64)).toUInt64 >>> ((33 : Int32) &&& 0x3f).toInt64.toUInt64).toInt64)))])) _
    refine XS.lstoreN X0.here hx rfl (hb hby d1_32) rfl (l' := #[.val (.long (((((q1 ^^^ ((q1.toUInt64 >>> ((33 : Int32) &&& 0x3f).toInt64.toUInt64).toInt64)) * (-49064778989728563 : Int64)) ^^^ ((((q1 ^^^ ((q1.toUInt64 >>> ((33 : Int32) &&& 0x3f).toInt64.toUInt64).toInt64)) * (-49064778989728563 : Int64)).toUInt64 >>> ((33 : Int32) &&& 0x3f).toInt64.toUInt64).toInt64)) * (-4265267296055464877 : Int64)) ^^^ ((((((q1 ^^^ ((q1.toUInt64 >>> ((33 : Int32) &&& 0x3f).toInt64.toUInt64).toInt64)) * (-49064778989728563 : Int64)) ^^^ ((((q1 ^^^ ((q1.toUInt64 >>> ((33 : Int32) &&& 0x3f).toInt64.toUInt64).toInt64)) * (-49064778989728563 : Int64)).toUInt64 >>> ((33 : Int32) &&& 0x3f).toInt64.toUInt64).toInt64)) * (-4265267296055464877 : Int64)).toUInt64 >>> ((33 : Int32) &&& 0x3f).toInt64.toUInt64).toInt64))), .second]) rfl ?_
    show Steps p.tables e below (s₁.setTop (mkF m 33 #[.val (.long (((((q1 ^^^ ((q1.toUInt64 >>> ((33 : Int32) &&& 0x3f).toInt64.toUInt64).toInt64)) * (-49064778989728563 : Int64)) ^^^ ((((q1 ^^^ ((q1.toUInt64 >>> ((33 : Int32) &&& 0x3f).toInt64.toUInt64).toInt64)) * (-49064778989728563 : Int64)).toUInt64 >>> ((33 : Int32) &&& 0x3f).toInt64.toUInt64).toInt64)) * (-4265267296055464877 : Int64)) ^^^ ((((((q1 ^^^ ((q1.toUInt64 >>> ((33 : Int32) &&& 0x3f).toInt64.toUInt64).toInt64)) * (-49064778989728563 : Int64)) ^^^ ((((q1 ^^^ ((q1.toUInt64 >>> ((33 : Int32) &&& 0x3f).toInt64.toUInt64).toInt64)) * (-49064778989728563 : Int64)).toUInt64 >>> ((33 : Int32) &&& 0x3f).toInt64.toUInt64).toInt64)) * (-4265267296055464877 : Int64)).toUInt64 >>> ((33 : Int32) &&& 0x3f).toInt64.toUInt64).toInt64))), .second] [])) _
    refine XS.lloadN X0.here hx rfl (hb hby d1_33) rfl ?_
    show Steps p.tables e below (s₁.setTop (mkF m 34 #[.val (.long (((((q1 ^^^ ((q1.toUInt64 >>> ((33 : Int32) &&& 0x3f).toInt64.toUInt64).toInt64)) * (-49064778989728563 : Int64)) ^^^ ((((q1 ^^^ ((q1.toUInt64 >>> ((33 : Int32) &&& 0x3f).toInt64.toUInt64).toInt64)) * (-49064778989728563 : Int64)).toUInt64 >>> ((33 : Int32) &&& 0x3f).toInt64.toUInt64).toInt64)) * (-4265267296055464877 : Int64)) ^^^ ((((((q1 ^^^ ((q1.toUInt64 >>> ((33 : Int32) &&& 0x3f).toInt64.toUInt64).toInt64)) * (-49064778989728563 : Int64)) ^^^ ((((q1 ^^^ ((q1.toUInt64 >>> ((33 : Int32) &&& 0x3f).toInt64.toUInt64).toInt64)) * (-49064778989728563 : Int64)).toUInt64 >>> ((33 : Int32) &&& 0x3f).toInt64.toUInt64).toInt64)) * (-4265267296055464877 : Int64)).toUInt64 >>> ((33 : Int32) &&& 0x3f).toInt64.toUInt64).toInt64))), .second] [(.long (((((q1 ^^^ ((q1.toUInt64 >>> ((33 : Int32) &&& 0x3f).toInt64.toUInt64).toInt64)) * (-49064778989728563 : Int64)) ^^^ ((((q1 ^^^ ((q1.toUInt64 >>> ((33 : Int32) &&& 0x3f).toInt64.toUInt64).toInt64)) * (-49064778989728563 : Int64)).toUInt64 >>> ((33 : Int32) &&& 0x3f).toInt64.toUInt64).toInt64)) * (-4265267296055464877 : Int64)) ^^^ ((((((q1 ^^^ ((q1.toUInt64 >>> ((33 : Int32) &&& 0x3f).toInt64.toUInt64).toInt64)) * (-49064778989728563 : Int64)) ^^^ ((((q1 ^^^ ((q1.toUInt64 >>> ((33 : Int32) &&& 0x3f).toInt64.toUInt64).toInt64)) * (-49064778989728563 : Int64)).toUInt64 >>> ((33 : Int32) &&& 0x3f).toInt64.toUInt64).toInt64)) * (-4265267296055464877 : Int64)).toUInt64 >>> ((33 : Int32) &&& 0x3f).toInt64.toUInt64).toInt64)))])) _
    exact own_retJ X0 hx Bd.returns (hb hby d1_34) hr
  · show Q1 Z q1 h0 n0 _ s₁.heap _
    rw [e0]
    exact ⟨rfl, N0, rfl⟩
theorem d2_0 : decode method_2_code 0 = .ok (.lload_n 0, 1) := by decide +kernel
theorem d2_1 : decode method_2_code 1 = .ok (.lload_n 0, 1) := by decide +kernel
theorem d2_2 : decode method_2_code 2 = .ok (.bipush 33, 2) := by decide +kernel
theorem d2_4 : decode method_2_code 4 = .ok (.lushr, 1) := by decide +kernel
theorem d2_5 : decode method_2_code 5 = .ok (.lxor, 1) := by decide +kernel
theorem d2_6 : decode method_2_code 6 = .ok (.lreturn, 1) := by decide +kernel
theorem pn_2 : plainName "com/example/compact_set_filters/compactsetfilters/KeyHashFmixPinLaw" = true := by first | (simp [plainName, overriddenIn]; done) | decide +kernel
theorem ef_2 (m : MethodId) (x0 : Int64) : entryFrame m #[(.long x0)] 2 = mkF m 0 #[.val (.long x0), .second] [] := by first | (simp [entryFrame, mkF, argsToLocals, Value.category]; done) | rfl
def Q2 (Z : State) (q1 : Int64) (h0 : Heap) (n0 : Nat) (v : Option Value) (h : Heap) (L : List Loc) : Prop := v = some (.long (own_sh q1)) ∧ Fr n0 L ∧ h = h0
set_option maxRecDepth 65536 in
set_option maxHeartbeats 40000000 in
theorem rm2 (l : Launch) (Z : State) (a0 : Array Value) (hw : ∀ d ∈ tables_1, d.before a0 Z = true) (ws : List Jvm.Cond) (q1 : Int64) (h0 : Heap) (n0 : Nat) (Z0 : n0 ≤ h0.size) :
    MetFree l (⟨"com/example/compact_set_filters/compactsetfilters/KeyHashFmixPinLaw", "unshift", "(J)J"⟩ : MethodName) (head1 (Jvm.Cond.code (⟨"com/example/compact_set_filters/compactsetfilters/KeyHashFmixPinLaw", "unshift", "(J)J"⟩ : MethodName) method_2_code 2 (some .long) :: ws) ({ frames := 0, cells := 0, slots := 0, locals := 0 } : Room)) (fun a U => a = #[(.long q1)] ∧ Z.Warmed39 U.vm ∧ U.heap = h0) (fun _ _ _ _ _ => True) (fun _ U o U' => ∃ v L, o = .returned v ∧ Q2 Z q1 h0 n0 v U'.heap L ∧ FrameEnd U o U' L ({ frames := 0, cells := 0, slots := 0, locals := 0 } : Room).cells ({ frames := 0, cells := 0, slots := 0, locals := 0 } : Room).slots) := by
  refine MetFree.of_bodySF (plainFor_of_name pn_2) hisR ?_
  intro p e s m args below meth c s₁ Bd hml0 hP hK
  obtain ⟨rfl, hZ, hh⟩ := hP
  have hx := Bd.exec
  have hby := Bd.bytes
  have hml : c.maxLocals = 2 := hml0
  have hown : s.vm.findClass "com/example/compact_set_filters/compactsetfilters/KeyHashFmixPinLaw" = some m.cls := findClass_of_methodNamed Bd.named
  have hnm := (name_of_methodNamed Bd.named Bd.method).1
  have X0 : Stand p l e ({ frames := 0, cells := 0, slots := 0, locals := 0 } : Room) s m #[(.long q1)] below meth c s₁ [] 0 0 := Stand.of_body Bd
  have e0 : s₁.heap = h0 := by rw [← hh, Bd.state]; rfl
  have N0 := Fr.nil n0
  have pre0 : ∀ t, Steps p.tables e below (s₁.setTop (mkF m 0 #[.val (.long q1), .second] [])) t → Steps p.tables e below (s₁.setTop (entryFrame m #[(.long q1)] 2)) t := fun t k => castTop (ef_2 m q1) k
  -- 3. LAWS

  obtain ⟨fs, hr, hrun, hended, hW, hsame⟩ := X0.leave (v := some (.long (q1 ^^^ ((q1.toUInt64 >>> ((33 : Int32) &&& 0x3f).toInt64.toUInt64).toInt64)))) (fun h => by rw [Bd.returns] at h; cases h)
  refine ⟨_, _, pre0 _ ?_, hrun, hended, _, _, rfl, ?_, ⟨_, rfl⟩, hW, hsame.mono (by decide) (by decide)⟩
  -- 4. STEPS
  · show Steps p.tables e below (s₁.setTop (mkF m 0 #[.val (.long q1), .second] [])) _
    refine XS.lloadN X0.here hx rfl (hb hby d2_0) rfl ?_
    show Steps p.tables e below (s₁.setTop (mkF m 1 #[.val (.long q1), .second] [(.long q1)])) _
    refine XS.lloadN X0.here hx rfl (hb hby d2_1) rfl ?_
    show Steps p.tables e below (s₁.setTop (mkF m 2 #[.val (.long q1), .second] [(.long q1), (.long q1)])) _
    refine XS.bipush X0.here hx rfl (hb hby d2_2) ?_
    show Steps p.tables e below (s₁.setTop (mkF m 4 #[.val (.long q1), .second] [(.int (33 : Int32)), (.long q1), (.long q1)])) _
    refine XS.lushr X0.here hx rfl (hb hby d2_4) rfl ?_
    show Steps p.tables e below (s₁.setTop (mkF m 5 #[.val (.long q1), .second] [(.long ((q1.toUInt64 >>> ((33 : Int32) &&& 0x3f).toInt64.toUInt64).toInt64)), (.long q1)])) _
    refine XS.lxor X0.here hx rfl (hb hby d2_5) rfl ?_
    show Steps p.tables e below (s₁.setTop (mkF m 6 #[.val (.long q1), .second] [(.long (q1 ^^^ ((q1.toUInt64 >>> ((33 : Int32) &&& 0x3f).toInt64.toUInt64).toInt64)))])) _
    exact own_retJ X0 hx Bd.returns (hb hby d2_6) hr
  · show Q2 Z q1 h0 n0 _ s₁.heap _
    rw [e0]
    exact ⟨rfl, N0, rfl⟩
theorem d3_0 : decode method_3_code 0 = .ok (.lload_n 0, 1) := by decide +kernel
theorem d3_1 : decode method_3_code 1 = .ok (.lstore_n 2, 1) := by decide +kernel
theorem d3_2 : decode method_3_code 2 = .ok (.lload_n 2, 1) := by decide +kernel
theorem d3_3 : decode method_3_code 3 = .ok (.ldc2_w 7, 3) := by decide +kernel
theorem d3_6 : decode method_3_code 6 = .ok (.lload_n 0, 1) := by decide +kernel
theorem d3_7 : decode method_3_code 7 = .ok (.lload_n 2, 1) := by decide +kernel
theorem d3_8 : decode method_3_code 8 = .ok (.lmul, 1) := by decide +kernel
theorem d3_9 : decode method_3_code 9 = .ok (.lsub, 1) := by decide +kernel
theorem d3_10 : decode method_3_code 10 = .ok (.lmul, 1) := by decide +kernel
theorem d3_11 : decode method_3_code 11 = .ok (.lstore_n 2, 1) := by decide +kernel
theorem d3_12 : decode method_3_code 12 = .ok (.lload_n 2, 1) := by decide +kernel
theorem d3_13 : decode method_3_code 13 = .ok (.ldc2_w 7, 3) := by decide +kernel
theorem d3_16 : decode method_3_code 16 = .ok (.lload_n 0, 1) := by decide +kernel
theorem d3_17 : decode method_3_code 17 = .ok (.lload_n 2, 1) := by decide +kernel
theorem d3_18 : decode method_3_code 18 = .ok (.lmul, 1) := by decide +kernel
theorem d3_19 : decode method_3_code 19 = .ok (.lsub, 1) := by decide +kernel
theorem d3_20 : decode method_3_code 20 = .ok (.lmul, 1) := by decide +kernel
theorem d3_21 : decode method_3_code 21 = .ok (.lstore_n 2, 1) := by decide +kernel
theorem d3_22 : decode method_3_code 22 = .ok (.lload_n 2, 1) := by decide +kernel
theorem d3_23 : decode method_3_code 23 = .ok (.ldc2_w 7, 3) := by decide +kernel
theorem d3_26 : decode method_3_code 26 = .ok (.lload_n 0, 1) := by decide +kernel
theorem d3_27 : decode method_3_code 27 = .ok (.lload_n 2, 1) := by decide +kernel
theorem d3_28 : decode method_3_code 28 = .ok (.lmul, 1) := by decide +kernel
theorem d3_29 : decode method_3_code 29 = .ok (.lsub, 1) := by decide +kernel
theorem d3_30 : decode method_3_code 30 = .ok (.lmul, 1) := by decide +kernel
theorem d3_31 : decode method_3_code 31 = .ok (.lstore_n 2, 1) := by decide +kernel
theorem d3_32 : decode method_3_code 32 = .ok (.lload_n 2, 1) := by decide +kernel
theorem d3_33 : decode method_3_code 33 = .ok (.ldc2_w 7, 3) := by decide +kernel
theorem d3_36 : decode method_3_code 36 = .ok (.lload_n 0, 1) := by decide +kernel
theorem d3_37 : decode method_3_code 37 = .ok (.lload_n 2, 1) := by decide +kernel
theorem d3_38 : decode method_3_code 38 = .ok (.lmul, 1) := by decide +kernel
theorem d3_39 : decode method_3_code 39 = .ok (.lsub, 1) := by decide +kernel
theorem d3_40 : decode method_3_code 40 = .ok (.lmul, 1) := by decide +kernel
theorem d3_41 : decode method_3_code 41 = .ok (.lstore_n 2, 1) := by decide +kernel
theorem d3_42 : decode method_3_code 42 = .ok (.lload_n 2, 1) := by decide +kernel
theorem d3_43 : decode method_3_code 43 = .ok (.ldc2_w 7, 3) := by decide +kernel
theorem d3_46 : decode method_3_code 46 = .ok (.lload_n 0, 1) := by decide +kernel
theorem d3_47 : decode method_3_code 47 = .ok (.lload_n 2, 1) := by decide +kernel
theorem d3_48 : decode method_3_code 48 = .ok (.lmul, 1) := by decide +kernel
theorem d3_49 : decode method_3_code 49 = .ok (.lsub, 1) := by decide +kernel
theorem d3_50 : decode method_3_code 50 = .ok (.lmul, 1) := by decide +kernel
theorem d3_51 : decode method_3_code 51 = .ok (.lstore_n 2, 1) := by decide +kernel
theorem d3_52 : decode method_3_code 52 = .ok (.lload_n 2, 1) := by decide +kernel
theorem d3_53 : decode method_3_code 53 = .ok (.lreturn, 1) := by decide +kernel
theorem pn_3 : plainName "com/example/compact_set_filters/compactsetfilters/KeyHashFmixPinLaw" = true := by first | (simp [plainName, overriddenIn]; done) | decide +kernel
theorem ef_3 (m : MethodId) (x0 : Int64) : entryFrame m #[(.long x0)] 4 = mkF m 0 #[.val (.long x0), .second, .unset, .unset] [] := by first | (simp [entryFrame, mkF, argsToLocals, Value.category]; done) | rfl
def Q3 (Z : State) (q1 : Int64) (h0 : Heap) (n0 : Nat) (v : Option Value) (h : Heap) (L : List Loc) : Prop := v = some (.long (own_inv q1)) ∧ Fr n0 L ∧ h = h0
set_option maxRecDepth 65536 in
set_option maxHeartbeats 40000000 in
theorem rm3 (l : Launch) (Z : State) (a0 : Array Value) (hw : ∀ d ∈ tables_1, d.before a0 Z = true) (ws : List Jvm.Cond) (q1 : Int64) (h0 : Heap) (n0 : Nat) (Z0 : n0 ≤ h0.size) :
    MetFree l (⟨"com/example/compact_set_filters/compactsetfilters/KeyHashFmixPinLaw", "inverse", "(J)J"⟩ : MethodName) (head1 (Jvm.Cond.code (⟨"com/example/compact_set_filters/compactsetfilters/KeyHashFmixPinLaw", "inverse", "(J)J"⟩ : MethodName) method_3_code 4 (some .long) :: ws) ({ frames := 0, cells := 0, slots := 0, locals := 0 } : Room)) (fun a U => a = #[(.long q1)] ∧ Z.Warmed39 U.vm ∧ U.heap = h0) (fun _ _ _ _ _ => True) (fun _ U o U' => ∃ v L, o = .returned v ∧ Q3 Z q1 h0 n0 v U'.heap L ∧ FrameEnd U o U' L ({ frames := 0, cells := 0, slots := 0, locals := 0 } : Room).cells ({ frames := 0, cells := 0, slots := 0, locals := 0 } : Room).slots) := by
  refine MetFree.of_bodySF (plainFor_of_name pn_3) hisR ?_
  intro p e s m args below meth c s₁ Bd hml0 hP hK
  obtain ⟨rfl, hZ, hh⟩ := hP
  have hx := Bd.exec
  have hby := Bd.bytes
  have hml : c.maxLocals = 4 := hml0
  have hown : s.vm.findClass "com/example/compact_set_filters/compactsetfilters/KeyHashFmixPinLaw" = some m.cls := findClass_of_methodNamed Bd.named
  have hnm := (name_of_methodNamed Bd.named Bd.method).1
  have X0 : Stand p l e ({ frames := 0, cells := 0, slots := 0, locals := 0 } : Room) s m #[(.long q1)] below meth c s₁ [] 0 0 := Stand.of_body Bd
  have e0 : s₁.heap = h0 := by rw [← hh, Bd.state]; rfl
  have N0 := Fr.nil n0
  have pre0 : ∀ t, Steps p.tables e below (s₁.setTop (mkF m 0 #[.val (.long q1), .second, .unset, .unset] [])) t → Steps p.tables e below (s₁.setTop (entryFrame m #[(.long q1)] 4)) t := fun t k => castTop (ef_3 m q1) k
  -- 3. LAWS

  obtain ⟨fs, hr, hrun, hended, hW, hsame⟩ := X0.leave (v := some (.long (((((q1 * ((2 : Int64) - (q1 * q1))) * ((2 : Int64) - (q1 * (q1 * ((2 : Int64) - (q1 * q1)))))) * ((2 : Int64) - (q1 * ((q1 * ((2 : Int64) - (q1 * q1))) * ((2 : Int64) - (q1 * (q1 * ((2 : Int64) - (q1 * q1))))))))) * ((2 : Int64) - (q1 * (((q1 * ((2 : Int64) - (q1 * q1))) * ((2 : Int64) - (q1 * (q1 * ((2 : Int64) - (q1 * q1)))))) * ((2 : Int64) - (q1 * ((q1 * ((2 : Int64) - (q1 * q1))) * ((2 : Int64) - (q1 * (q1 * ((2 : Int64) - (q1 * q1)))))))))))) * ((2 : Int64) - (q1 * ((((q1 * ((2 : Int64) - (q1 * q1))) * ((2 : Int64) - (q1 * (q1 * ((2 : Int64) - (q1 * q1)))))) * ((2 : Int64) - (q1 * ((q1 * ((2 : Int64) - (q1 * q1))) * ((2 : Int64) - (q1 * (q1 * ((2 : Int64) - (q1 * q1))))))))) * ((2 : Int64) - (q1 * (((q1 * ((2 : Int64) - (q1 * q1))) * ((2 : Int64) - (q1 * (q1 * ((2 : Int64) - (q1 * q1)))))) * ((2 : Int64) - (q1 * ((q1 * ((2 : Int64) - (q1 * q1))) * ((2 : Int64) - (q1 * (q1 * ((2 : Int64) - (q1 * q1))))))))))))))))) (fun h => by rw [Bd.returns] at h; cases h)
  refine ⟨_, _, pre0 _ ?_, hrun, hended, _, _, rfl, ?_, ⟨_, rfl⟩, hW, hsame.mono (by decide) (by decide)⟩
  -- 4. STEPS
  · show Steps p.tables e below (s₁.setTop (mkF m 0 #[.val (.long q1), .second, .unset, .unset] [])) _
    refine XS.lloadN X0.here hx rfl (hb hby d3_0) rfl ?_
    show Steps p.tables e below (s₁.setTop (mkF m 1 #[.val (.long q1), .second, .unset, .unset] [(.long q1)])) _
    refine XS.lstoreN X0.here hx rfl (hb hby d3_1) rfl (l' := #[.val (.long q1), .second, .val (.long q1), .second]) rfl ?_
    show Steps p.tables e below (s₁.setTop (mkF m 2 #[.val (.long q1), .second, .val (.long q1), .second] [])) _
    refine XS.lloadN X0.here hx rfl (hb hby d3_2) rfl ?_
    show Steps p.tables e below (s₁.setTop (mkF m 3 #[.val (.long q1), .second, .val (.long q1), .second] [(.long q1)])) _
    refine X0.ldc2Long hx hown (mvT hZ (hw _ (List.mem_of_getElem? (i := 14) rfl))) (g := (mkF m 3 #[.val (.long q1), .second, .val (.long q1), .second] [(.long q1)])) rfl (hb hby d3_3) _ ?_
    show Steps p.tables e below (s₁.setTop (mkF m 6 #[.val (.long q1), .second, .val (.long q1), .second] [(.long (2 : Int64)), (.long q1)])) _
    refine XS.lloadN X0.here hx rfl (hb hby d3_6) rfl ?_
    show Steps p.tables e below (s₁.setTop (mkF m 7 #[.val (.long q1), .second, .val (.long q1), .second] [(.long q1), (.long (2 : Int64)), (.long q1)])) _
    refine XS.lloadN X0.here hx rfl (hb hby d3_7) rfl ?_
    show Steps p.tables e below (s₁.setTop (mkF m 8 #[.val (.long q1), .second, .val (.long q1), .second] [(.long q1), (.long q1), (.long (2 : Int64)), (.long q1)])) _
    refine XS.lmul X0.here hx rfl (hb hby d3_8) rfl ?_
    show Steps p.tables e below (s₁.setTop (mkF m 9 #[.val (.long q1), .second, .val (.long q1), .second] [(.long (q1 * q1)), (.long (2 : Int64)), (.long q1)])) _
    refine XS.lsub X0.here hx rfl (hb hby d3_9) rfl ?_
    show Steps p.tables e below (s₁.setTop (mkF m 10 #[.val (.long q1), .second, .val (.long q1), .second] [(.long ((2 : Int64) - (q1 * q1))), (.long q1)])) _
    refine XS.lmul X0.here hx rfl (hb hby d3_10) rfl ?_
    show Steps p.tables e below (s₁.setTop (mkF m 11 #[.val (.long q1), .second, .val (.long q1), .second] [(.long (q1 * ((2 : Int64) - (q1 * q1))))])) _
    refine XS.lstoreN X0.here hx rfl (hb hby d3_11) rfl (l' := #[.val (.long q1), .second, .val (.long (q1 * ((2 : Int64) - (q1 * q1)))), .second]) rfl ?_
    show Steps p.tables e below (s₁.setTop (mkF m 12 #[.val (.long q1), .second, .val (.long (q1 * ((2 : Int64) - (q1 * q1)))), .second] [])) _
    refine XS.lloadN X0.here hx rfl (hb hby d3_12) rfl ?_
    show Steps p.tables e below (s₁.setTop (mkF m 13 #[.val (.long q1), .second, .val (.long (q1 * ((2 : Int64) - (q1 * q1)))), .second] [(.long (q1 * ((2 : Int64) - (q1 * q1))))])) _
    refine X0.ldc2Long hx hown (mvT hZ (hw _ (List.mem_of_getElem? (i := 14) rfl))) (g := (mkF m 13 #[.val (.long q1), .second, .val (.long (q1 * ((2 : Int64) - (q1 * q1)))), .second] [(.long (q1 * ((2 : Int64) - (q1 * q1))))])) rfl (hb hby d3_13) _ ?_
    show Steps p.tables e below (s₁.setTop (mkF m 16 #[.val (.long q1), .second, .val (.long (q1 * ((2 : Int64) - (q1 * q1)))), .second] [(.long (2 : Int64)), (.long (q1 * ((2 : Int64) - (q1 * q1))))])) _
    refine XS.lloadN X0.here hx rfl (hb hby d3_16) rfl ?_
    show Steps p.tables e below (s₁.setTop (mkF m 17 #[.val (.long q1), .second, .val (.long (q1 * ((2 : Int64) - (q1 * q1)))), .second] [(.long q1), (.long (2 : Int64)), (.long (q1 * ((2 : Int64) - (q1 * q1))))])) _
    refine XS.lloadN X0.here hx rfl (hb hby d3_17) rfl ?_
    show Steps p.tables e below (s₁.setTop (mkF m 18 #[.val (.long q1), .second, .val (.long (q1 * ((2 : Int64) - (q1 * q1)))), .second] [(.long (q1 * ((2 : Int64) - (q1 * q1)))), (.long q1), (.long (2 : Int64)), (.long (q1 * ((2 : Int64) - (q1 * q1))))])) _
    refine XS.lmul X0.here hx rfl (hb hby d3_18) rfl ?_
    show Steps p.tables e below (s₁.setTop (mkF m 19 #[.val (.long q1), .second, .val (.long (q1 * ((2 : Int64) - (q1 * q1)))), .second] [(.long (q1 * (q1 * ((2 : Int64) - (q1 * q1))))), (.long (2 : Int64)), (.long (q1 * ((2 : Int64) - (q1 * q1))))])) _
    refine XS.lsub X0.here hx rfl (hb hby d3_19) rfl ?_
    show Steps p.tables e below (s₁.setTop (mkF m 20 #[.val (.long q1), .second, .val (.long (q1 * ((2 : Int64) - (q1 * q1)))), .second] [(.long ((2 : Int64) - (q1 * (q1 * ((2 : Int64) - (q1 * q1)))))), (.long (q1 * ((2 : Int64) - (q1 * q1))))])) _
    refine XS.lmul X0.here hx rfl (hb hby d3_20) rfl ?_
    show Steps p.tables e below (s₁.setTop (mkF m 21 #[.val (.long q1), .second, .val (.long (q1 * ((2 : Int64) - (q1 * q1)))), .second] [(.long ((q1 * ((2 : Int64) - (q1 * q1))) * ((2 : Int64) - (q1 * (q1 * ((2 : Int64) - (q1 * q1)))))))])) _
    refine XS.lstoreN X0.here hx rfl (hb hby d3_21) rfl (l' := #[.val (.long q1), .second, .val (.long ((q1 * ((2 : Int64) - (q1 * q1))) * ((2 : Int64) - (q1 * (q1 * ((2 : Int64) - (q1 * q1))))))), .second]) rfl ?_
    show Steps p.tables e below (s₁.setTop (mkF m 22 #[.val (.long q1), .second, .val (.long ((q1 * ((2 : Int64) - (q1 * q1))) * ((2 : Int64) - (q1 * (q1 * ((2 : Int64) - (q1 * q1))))))), .second] [])) _
    refine XS.lloadN X0.here hx rfl (hb hby d3_22) rfl ?_
    show Steps p.tables e below (s₁.setTop (mkF m 23 #[.val (.long q1), .second, .val (.long ((q1 * ((2 : Int64) - (q1 * q1))) * ((2 : Int64) - (q1 * (q1 * ((2 : Int64) - (q1 * q1))))))), .second] [(.long ((q1 * ((2 : Int64) - (q1 * q1))) * ((2 : Int64) - (q1 * (q1 * ((2 : Int64) - (q1 * q1)))))))])) _
    refine X0.ldc2Long hx hown (mvT hZ (hw _ (List.mem_of_getElem? (i := 14) rfl))) (g := (mkF m 23 #[.val (.long q1), .second, .val (.long ((q1 * ((2 : Int64) - (q1 * q1))) * ((2 : Int64) - (q1 * (q1 * ((2 : Int64) - (q1 * q1))))))), .second] [(.long ((q1 * ((2 : Int64) - (q1 * q1))) * ((2 : Int64) - (q1 * (q1 * ((2 : Int64) - (q1 * q1)))))))])) rfl (hb hby d3_23) _ ?_
    show Steps p.tables e below (s₁.setTop (mkF m 26 #[.val (.long q1), .second, .val (.long ((q1 * ((2 : Int64) - (q1 * q1))) * ((2 : Int64) - (q1 * (q1 * ((2 : Int64) - (q1 * q1))))))), .second] [(.long (2 : Int64)), (.long ((q1 * ((2 : Int64) - (q1 * q1))) * ((2 : Int64) - (q1 * (q1 * ((2 : Int64) - (q1 * q1)))))))])) _
    refine XS.lloadN X0.here hx rfl (hb hby d3_26) rfl ?_
    show Steps p.tables e below (s₁.setTop (mkF m 27 #[.val (.long q1), .second, .val (.long ((q1 * ((2 : Int64) - (q1 * q1))) * ((2 : Int64) - (q1 * (q1 * ((2 : Int64) - (q1 * q1))))))), .second] [(.long q1), (.long (2 : Int64)), (.long ((q1 * ((2 : Int64) - (q1 * q1))) * ((2 : Int64) - (q1 * (q1 * ((2 : Int64) - (q1 * q1)))))))])) _
    refine XS.lloadN X0.here hx rfl (hb hby d3_27) rfl ?_
    show Steps p.tables e below (s₁.setTop (mkF m 28 #[.val (.long q1), .second, .val (.long ((q1 * ((2 : Int64) - (q1 * q1))) * ((2 : Int64) - (q1 * (q1 * ((2 : Int64) - (q1 * q1))))))), .second] [(.long ((q1 * ((2 : Int64) - (q1 * q1))) * ((2 : Int64) - (q1 * (q1 * ((2 : Int64) - (q1 * q1))))))), (.long q1), (.long (2 : Int64)), (.long ((q1 * ((2 : Int64) - (q1 * q1))) * ((2 : Int64) - (q1 * (q1 * ((2 : Int64) - (q1 * q1)))))))])) _
    refine XS.lmul X0.here hx rfl (hb hby d3_28) rfl ?_
    show Steps p.tables e below (s₁.setTop (mkF m 29 #[.val (.long q1), .second, .val (.long ((q1 * ((2 : Int64) - (q1 * q1))) * ((2 : Int64) - (q1 * (q1 * ((2 : Int64) - (q1 * q1))))))), .second] [(.long (q1 * ((q1 * ((2 : Int64) - (q1 * q1))) * ((2 : Int64) - (q1 * (q1 * ((2 : Int64) - (q1 * q1)))))))), (.long (2 : Int64)), (.long ((q1 * ((2 : Int64) - (q1 * q1))) * ((2 : Int64) - (q1 * (q1 * ((2 : Int64) - (q1 * q1)))))))])) _
    refine XS.lsub X0.here hx rfl (hb hby d3_29) rfl ?_
    show Steps p.tables e below (s₁.setTop (mkF m 30 #[.val (.long q1), .second, .val (.long ((q1 * ((2 : Int64) - (q1 * q1))) * ((2 : Int64) - (q1 * (q1 * ((2 : Int64) - (q1 * q1))))))), .second] [(.long ((2 : Int64) - (q1 * ((q1 * ((2 : Int64) - (q1 * q1))) * ((2 : Int64) - (q1 * (q1 * ((2 : Int64) - (q1 * q1))))))))), (.long ((q1 * ((2 : Int64) - (q1 * q1))) * ((2 : Int64) - (q1 * (q1 * ((2 : Int64) - (q1 * q1)))))))])) _
    refine XS.lmul X0.here hx rfl (hb hby d3_30) rfl ?_
    show Steps p.tables e below (s₁.setTop (mkF m 31 #[.val (.long q1), .second, .val (.long ((q1 * ((2 : Int64) - (q1 * q1))) * ((2 : Int64) - (q1 * (q1 * ((2 : Int64) - (q1 * q1))))))), .second] [(.long (((q1 * ((2 : Int64) - (q1 * q1))) * ((2 : Int64) - (q1 * (q1 * ((2 : Int64) - (q1 * q1)))))) * ((2 : Int64) - (q1 * ((q1 * ((2 : Int64) - (q1 * q1))) * ((2 : Int64) - (q1 * (q1 * ((2 : Int64) - (q1 * q1))))))))))])) _
    refine XS.lstoreN X0.here hx rfl (hb hby d3_31) rfl (l' := #[.val (.long q1), .second, .val (.long (((q1 * ((2 : Int64) - (q1 * q1))) * ((2 : Int64) - (q1 * (q1 * ((2 : Int64) - (q1 * q1)))))) * ((2 : Int64) - (q1 * ((q1 * ((2 : Int64) - (q1 * q1))) * ((2 : Int64) - (q1 * (q1 * ((2 : Int64) - (q1 * q1)))))))))), .second]) rfl ?_
    show Steps p.tables e below (s₁.setTop (mkF m 32 #[.val (.long q1), .second, .val (.long (((q1 * ((2 : Int64) - (q1 * q1))) * ((2 : Int64) - (q1 * (q1 * ((2 : Int64) - (q1 * q1)))))) * ((2 : Int64) - (q1 * ((q1 * ((2 : Int64) - (q1 * q1))) * ((2 : Int64) - (q1 * (q1 * ((2 : Int64) - (q1 * q1)))))))))), .second] [])) _
    refine XS.lloadN X0.here hx rfl (hb hby d3_32) rfl ?_
    show Steps p.tables e below (s₁.setTop (mkF m 33 #[.val (.long q1), .second, .val (.long (((q1 * ((2 : Int64) - (q1 * q1))) * ((2 : Int64) - (q1 * (q1 * ((2 : Int64) - (q1 * q1)))))) * ((2 : Int64) - (q1 * ((q1 * ((2 : Int64) - (q1 * q1))) * ((2 : Int64) - (q1 * (q1 * ((2 : Int64) - (q1 * q1)))))))))), .second] [(.long (((q1 * ((2 : Int64) - (q1 * q1))) * ((2 : Int64) - (q1 * (q1 * ((2 : Int64) - (q1 * q1)))))) * ((2 : Int64) - (q1 * ((q1 * ((2 : Int64) - (q1 * q1))) * ((2 : Int64) - (q1 * (q1 * ((2 : Int64) - (q1 * q1))))))))))])) _
    refine X0.ldc2Long hx hown (mvT hZ (hw _ (List.mem_of_getElem? (i := 14) rfl))) (g := (mkF m 33 #[.val (.long q1), .second, .val (.long (((q1 * ((2 : Int64) - (q1 * q1))) * ((2 : Int64) - (q1 * (q1 * ((2 : Int64) - (q1 * q1)))))) * ((2 : Int64) - (q1 * ((q1 * ((2 : Int64) - (q1 * q1))) * ((2 : Int64) - (q1 * (q1 * ((2 : Int64) - (q1 * q1)))))))))), .second] [(.long (((q1 * ((2 : Int64) - (q1 * q1))) * ((2 : Int64) - (q1 * (q1 * ((2 : Int64) - (q1 * q1)))))) * ((2 : Int64) - (q1 * ((q1 * ((2 : Int64) - (q1 * q1))) * ((2 : Int64) - (q1 * (q1 * ((2 : Int64) - (q1 * q1))))))))))])) rfl (hb hby d3_33) _ ?_
    show Steps p.tables e below (s₁.setTop (mkF m 36 #[.val (.long q1), .second, .val (.long (((q1 * ((2 : Int64) - (q1 * q1))) * ((2 : Int64) - (q1 * (q1 * ((2 : Int64) - (q1 * q1)))))) * ((2 : Int64) - (q1 * ((q1 * ((2 : Int64) - (q1 * q1))) * ((2 : Int64) - (q1 * (q1 * ((2 : Int64) - (q1 * q1)))))))))), .second] [(.long (2 : Int64)), (.long (((q1 * ((2 : Int64) - (q1 * q1))) * ((2 : Int64) - (q1 * (q1 * ((2 : Int64) - (q1 * q1)))))) * ((2 : Int64) - (q1 * ((q1 * ((2 : Int64) - (q1 * q1))) * ((2 : Int64) - (q1 * (q1 * ((2 : Int64) - (q1 * q1))))))))))])) _
    refine XS.lloadN X0.here hx rfl (hb hby d3_36) rfl ?_
    show Steps p.tables e below (s₁.setTop (mkF m 37 #[.val (.long q1), .second, .val (.long (((q1 * ((2 : Int64) - (q1 * q1))) * ((2 : Int64) - (q1 * (q1 * ((2 : Int64) - (q1 * q1)))))) * ((2 : Int64) - (q1 * ((q1 * ((2 : Int64) - (q1 * q1))) * ((2 : Int64) - (q1 * (q1 * ((2 : Int64) - (q1 * q1)))))))))), .second] [(.long q1), (.long (2 : Int64)), (.long (((q1 * ((2 : Int64) - (q1 * q1))) * ((2 : Int64) - (q1 * (q1 * ((2 : Int64) - (q1 * q1)))))) * ((2 : Int64) - (q1 * ((q1 * ((2 : Int64) - (q1 * q1))) * ((2 : Int64) - (q1 * (q1 * ((2 : Int64) - (q1 * q1))))))))))])) _
    refine XS.lloadN X0.here hx rfl (hb hby d3_37) rfl ?_
    show Steps p.tables e below (s₁.setTop (mkF m 38 #[.val (.long q1), .second, .val (.long (((q1 * ((2 : Int64) - (q1 * q1))) * ((2 : Int64) - (q1 * (q1 * ((2 : Int64) - (q1 * q1)))))) * ((2 : Int64) - (q1 * ((q1 * ((2 : Int64) - (q1 * q1))) * ((2 : Int64) - (q1 * (q1 * ((2 : Int64) - (q1 * q1)))))))))), .second] [(.long (((q1 * ((2 : Int64) - (q1 * q1))) * ((2 : Int64) - (q1 * (q1 * ((2 : Int64) - (q1 * q1)))))) * ((2 : Int64) - (q1 * ((q1 * ((2 : Int64) - (q1 * q1))) * ((2 : Int64) - (q1 * (q1 * ((2 : Int64) - (q1 * q1)))))))))), (.long q1), (.long (2 : Int64)), (.long (((q1 * ((2 : Int64) - (q1 * q1))) * ((2 : Int64) - (q1 * (q1 * ((2 : Int64) - (q1 * q1)))))) * ((2 : Int64) - (q1 * ((q1 * ((2 : Int64) - (q1 * q1))) * ((2 : Int64) - (q1 * (q1 * ((2 : Int64) - (q1 * q1))))))))))])) _
    refine XS.lmul X0.here hx rfl (hb hby d3_38) rfl ?_
    show Steps p.tables e below (s₁.setTop (mkF m 39 #[.val (.long q1), .second, .val (.long (((q1 * ((2 : Int64) - (q1 * q1))) * ((2 : Int64) - (q1 * (q1 * ((2 : Int64) - (q1 * q1)))))) * ((2 : Int64) - (q1 * ((q1 * ((2 : Int64) - (q1 * q1))) * ((2 : Int64) - (q1 * (q1 * ((2 : Int64) - (q1 * q1)))))))))), .second] [(.long (q1 * (((q1 * ((2 : Int64) - (q1 * q1))) * ((2 : Int64) - (q1 * (q1 * ((2 : Int64) - (q1 * q1)))))) * ((2 : Int64) - (q1 * ((q1 * ((2 : Int64) - (q1 * q1))) * ((2 : Int64) - (q1 * (q1 * ((2 : Int64) - (q1 * q1))))))))))), (.long (2 : Int64)), (.long (((q1 * ((2 : Int64) - (q1 * q1))) * ((2 : Int64) - (q1 * (q1 * ((2 : Int64) - (q1 * q1)))))) * ((2 : Int64) - (q1 * ((q1 * ((2 : Int64) - (q1 * q1))) * ((2 : Int64) - (q1 * (q1 * ((2 : Int64) - (q1 * q1))))))))))])) _
    refine XS.lsub X0.here hx rfl (hb hby d3_39) rfl ?_
    show Steps p.tables e below (s₁.setTop (mkF m 40 #[.val (.long q1), .second, .val (.long (((q1 * ((2 : Int64) - (q1 * q1))) * ((2 : Int64) - (q1 * (q1 * ((2 : Int64) - (q1 * q1)))))) * ((2 : Int64) - (q1 * ((q1 * ((2 : Int64) - (q1 * q1))) * ((2 : Int64) - (q1 * (q1 * ((2 : Int64) - (q1 * q1)))))))))), .second] [(.long ((2 : Int64) - (q1 * (((q1 * ((2 : Int64) - (q1 * q1))) * ((2 : Int64) - (q1 * (q1 * ((2 : Int64) - (q1 * q1)))))) * ((2 : Int64) - (q1 * ((q1 * ((2 : Int64) - (q1 * q1))) * ((2 : Int64) - (q1 * (q1 * ((2 : Int64) - (q1 * q1)))))))))))), (.long (((q1 * ((2 : Int64) - (q1 * q1))) * ((2 : Int64) - (q1 * (q1 * ((2 : Int64) - (q1 * q1)))))) * ((2 : Int64) - (q1 * ((q1 * ((2 : Int64) - (q1 * q1))) * ((2 : Int64) - (q1 * (q1 * ((2 : Int64) - (q1 * q1))))))))))])) _
    refine XS.lmul X0.here hx rfl (hb hby d3_40) rfl ?_
    show Steps p.tables e below (s₁.setTop (mkF m 41 #[.val (.long q1), .second, .val (.long (((q1 * ((2 : Int64) - (q1 * q1))) * ((2 : Int64) - (q1 * (q1 * ((2 : Int64) - (q1 * q1)))))) * ((2 : Int64) - (q1 * ((q1 * ((2 : Int64) - (q1 * q1))) * ((2 : Int64) - (q1 * (q1 * ((2 : Int64) - (q1 * q1)))))))))), .second] [(.long ((((q1 * ((2 : Int64) - (q1 * q1))) * ((2 : Int64) - (q1 * (q1 * ((2 : Int64) - (q1 * q1)))))) * ((2 : Int64) - (q1 * ((q1 * ((2 : Int64) - (q1 * q1))) * ((2 : Int64) - (q1 * (q1 * ((2 : Int64) - (q1 * q1))))))))) * ((2 : Int64) - (q1 * (((q1 * ((2 : Int64) - (q1 * q1))) * ((2 : Int64) - (q1 * (q1 * ((2 : Int64) - (q1 * q1)))))) * ((2 : Int64) - (q1 * ((q1 * ((2 : Int64) - (q1 * q1))) * ((2 : Int64) - (q1 * (q1 * ((2 : Int64) - (q1 * q1)))))))))))))])) _
    refine XS.lstoreN X0.here hx rfl (hb hby d3_41) rfl (l' := #[.val (.long q1), .second, .val (.long ((((q1 * ((2 : Int64) - (q1 * q1))) * ((2 : Int64) - (q1 * (q1 * ((2 : Int64) - (q1 * q1)))))) * ((2 : Int64) - (q1 * ((q1 * ((2 : Int64) - (q1 * q1))) * ((2 : Int64) - (q1 * (q1 * ((2 : Int64) - (q1 * q1))))))))) * ((2 : Int64) - (q1 * (((q1 * ((2 : Int64) - (q1 * q1))) * ((2 : Int64) - (q1 * (q1 * ((2 : Int64) - (q1 * q1)))))) * ((2 : Int64) - (q1 * ((q1 * ((2 : Int64) - (q1 * q1))) * ((2 : Int64) - (q1 * (q1 * ((2 : Int64) - (q1 * q1))))))))))))), .second]) rfl ?_
    show Steps p.tables e below (s₁.setTop (mkF m 42 #[.val (.long q1), .second, .val (.long ((((q1 * ((2 : Int64) - (q1 * q1))) * ((2 : Int64) - (q1 * (q1 * ((2 : Int64) - (q1 * q1)))))) * ((2 : Int64) - (q1 * ((q1 * ((2 : Int64) - (q1 * q1))) * ((2 : Int64) - (q1 * (q1 * ((2 : Int64) - (q1 * q1))))))))) * ((2 : Int64) - (q1 * (((q1 * ((2 : Int64) - (q1 * q1))) * ((2 : Int64) - (q1 * (q1 * ((2 : Int64) - (q1 * q1)))))) * ((2 : Int64) - (q1 * ((q1 * ((2 : Int64) - (q1 * q1))) * ((2 : Int64) - (q1 * (q1 * ((2 : Int64) - (q1 * q1))))))))))))), .second] [])) _
    refine XS.lloadN X0.here hx rfl (hb hby d3_42) rfl ?_
    show Steps p.tables e below (s₁.setTop (mkF m 43 #[.val (.long q1), .second, .val (.long ((((q1 * ((2 : Int64) - (q1 * q1))) * ((2 : Int64) - (q1 * (q1 * ((2 : Int64) - (q1 * q1)))))) * ((2 : Int64) - (q1 * ((q1 * ((2 : Int64) - (q1 * q1))) * ((2 : Int64) - (q1 * (q1 * ((2 : Int64) - (q1 * q1))))))))) * ((2 : Int64) - (q1 * (((q1 * ((2 : Int64) - (q1 * q1))) * ((2 : Int64) - (q1 * (q1 * ((2 : Int64) - (q1 * q1)))))) * ((2 : Int64) - (q1 * ((q1 * ((2 : Int64) - (q1 * q1))) * ((2 : Int64) - (q1 * (q1 * ((2 : Int64) - (q1 * q1))))))))))))), .second] [(.long ((((q1 * ((2 : Int64) - (q1 * q1))) * ((2 : Int64) - (q1 * (q1 * ((2 : Int64) - (q1 * q1)))))) * ((2 : Int64) - (q1 * ((q1 * ((2 : Int64) - (q1 * q1))) * ((2 : Int64) - (q1 * (q1 * ((2 : Int64) - (q1 * q1))))))))) * ((2 : Int64) - (q1 * (((q1 * ((2 : Int64) - (q1 * q1))) * ((2 : Int64) - (q1 * (q1 * ((2 : Int64) - (q1 * q1)))))) * ((2 : Int64) - (q1 * ((q1 * ((2 : Int64) - (q1 * q1))) * ((2 : Int64) - (q1 * (q1 * ((2 : Int64) - (q1 * q1)))))))))))))])) _
    refine X0.ldc2Long hx hown (mvT hZ (hw _ (List.mem_of_getElem? (i := 14) rfl))) (g := (mkF m 43 #[.val (.long q1), .second, .val (.long ((((q1 * ((2 : Int64) - (q1 * q1))) * ((2 : Int64) - (q1 * (q1 * ((2 : Int64) - (q1 * q1)))))) * ((2 : Int64) - (q1 * ((q1 * ((2 : Int64) - (q1 * q1))) * ((2 : Int64) - (q1 * (q1 * ((2 : Int64) - (q1 * q1))))))))) * ((2 : Int64) - (q1 * (((q1 * ((2 : Int64) - (q1 * q1))) * ((2 : Int64) - (q1 * (q1 * ((2 : Int64) - (q1 * q1)))))) * ((2 : Int64) - (q1 * ((q1 * ((2 : Int64) - (q1 * q1))) * ((2 : Int64) - (q1 * (q1 * ((2 : Int64) - (q1 * q1))))))))))))), .second] [(.long ((((q1 * ((2 : Int64) - (q1 * q1))) * ((2 : Int64) - (q1 * (q1 * ((2 : Int64) - (q1 * q1)))))) * ((2 : Int64) - (q1 * ((q1 * ((2 : Int64) - (q1 * q1))) * ((2 : Int64) - (q1 * (q1 * ((2 : Int64) - (q1 * q1))))))))) * ((2 : Int64) - (q1 * (((q1 * ((2 : Int64) - (q1 * q1))) * ((2 : Int64) - (q1 * (q1 * ((2 : Int64) - (q1 * q1)))))) * ((2 : Int64) - (q1 * ((q1 * ((2 : Int64) - (q1 * q1))) * ((2 : Int64) - (q1 * (q1 * ((2 : Int64) - (q1 * q1)))))))))))))])) rfl (hb hby d3_43) _ ?_
    show Steps p.tables e below (s₁.setTop (mkF m 46 #[.val (.long q1), .second, .val (.long ((((q1 * ((2 : Int64) - (q1 * q1))) * ((2 : Int64) - (q1 * (q1 * ((2 : Int64) - (q1 * q1)))))) * ((2 : Int64) - (q1 * ((q1 * ((2 : Int64) - (q1 * q1))) * ((2 : Int64) - (q1 * (q1 * ((2 : Int64) - (q1 * q1))))))))) * ((2 : Int64) - (q1 * (((q1 * ((2 : Int64) - (q1 * q1))) * ((2 : Int64) - (q1 * (q1 * ((2 : Int64) - (q1 * q1)))))) * ((2 : Int64) - (q1 * ((q1 * ((2 : Int64) - (q1 * q1))) * ((2 : Int64) - (q1 * (q1 * ((2 : Int64) - (q1 * q1))))))))))))), .second] [(.long (2 : Int64)), (.long ((((q1 * ((2 : Int64) - (q1 * q1))) * ((2 : Int64) - (q1 * (q1 * ((2 : Int64) - (q1 * q1)))))) * ((2 : Int64) - (q1 * ((q1 * ((2 : Int64) - (q1 * q1))) * ((2 : Int64) - (q1 * (q1 * ((2 : Int64) - (q1 * q1))))))))) * ((2 : Int64) - (q1 * (((q1 * ((2 : Int64) - (q1 * q1))) * ((2 : Int64) - (q1 * (q1 * ((2 : Int64) - (q1 * q1)))))) * ((2 : Int64) - (q1 * ((q1 * ((2 : Int64) - (q1 * q1))) * ((2 : Int64) - (q1 * (q1 * ((2 : Int64) - (q1 * q1)))))))))))))])) _
    refine XS.lloadN X0.here hx rfl (hb hby d3_46) rfl ?_
    show Steps p.tables e below (s₁.setTop (mkF m 47 #[.val (.long q1), .second, .val (.long ((((q1 * ((2 : Int64) - (q1 * q1))) * ((2 : Int64) - (q1 * (q1 * ((2 : Int64) - (q1 * q1)))))) * ((2 : Int64) - (q1 * ((q1 * ((2 : Int64) - (q1 * q1))) * ((2 : Int64) - (q1 * (q1 * ((2 : Int64) - (q1 * q1))))))))) * ((2 : Int64) - (q1 * (((q1 * ((2 : Int64) - (q1 * q1))) * ((2 : Int64) - (q1 * (q1 * ((2 : Int64) - (q1 * q1)))))) * ((2 : Int64) - (q1 * ((q1 * ((2 : Int64) - (q1 * q1))) * ((2 : Int64) - (q1 * (q1 * ((2 : Int64) - (q1 * q1))))))))))))), .second] [(.long q1), (.long (2 : Int64)), (.long ((((q1 * ((2 : Int64) - (q1 * q1))) * ((2 : Int64) - (q1 * (q1 * ((2 : Int64) - (q1 * q1)))))) * ((2 : Int64) - (q1 * ((q1 * ((2 : Int64) - (q1 * q1))) * ((2 : Int64) - (q1 * (q1 * ((2 : Int64) - (q1 * q1))))))))) * ((2 : Int64) - (q1 * (((q1 * ((2 : Int64) - (q1 * q1))) * ((2 : Int64) - (q1 * (q1 * ((2 : Int64) - (q1 * q1)))))) * ((2 : Int64) - (q1 * ((q1 * ((2 : Int64) - (q1 * q1))) * ((2 : Int64) - (q1 * (q1 * ((2 : Int64) - (q1 * q1)))))))))))))])) _
    refine XS.lloadN X0.here hx rfl (hb hby d3_47) rfl ?_
    show Steps p.tables e below (s₁.setTop (mkF m 48 #[.val (.long q1), .second, .val (.long ((((q1 * ((2 : Int64) - (q1 * q1))) * ((2 : Int64) - (q1 * (q1 * ((2 : Int64) - (q1 * q1)))))) * ((2 : Int64) - (q1 * ((q1 * ((2 : Int64) - (q1 * q1))) * ((2 : Int64) - (q1 * (q1 * ((2 : Int64) - (q1 * q1))))))))) * ((2 : Int64) - (q1 * (((q1 * ((2 : Int64) - (q1 * q1))) * ((2 : Int64) - (q1 * (q1 * ((2 : Int64) - (q1 * q1)))))) * ((2 : Int64) - (q1 * ((q1 * ((2 : Int64) - (q1 * q1))) * ((2 : Int64) - (q1 * (q1 * ((2 : Int64) - (q1 * q1))))))))))))), .second] [(.long ((((q1 * ((2 : Int64) - (q1 * q1))) * ((2 : Int64) - (q1 * (q1 * ((2 : Int64) - (q1 * q1)))))) * ((2 : Int64) - (q1 * ((q1 * ((2 : Int64) - (q1 * q1))) * ((2 : Int64) - (q1 * (q1 * ((2 : Int64) - (q1 * q1))))))))) * ((2 : Int64) - (q1 * (((q1 * ((2 : Int64) - (q1 * q1))) * ((2 : Int64) - (q1 * (q1 * ((2 : Int64) - (q1 * q1)))))) * ((2 : Int64) - (q1 * ((q1 * ((2 : Int64) - (q1 * q1))) * ((2 : Int64) - (q1 * (q1 * ((2 : Int64) - (q1 * q1))))))))))))), (.long q1), (.long (2 : Int64)), (.long ((((q1 * ((2 : Int64) - (q1 * q1))) * ((2 : Int64) - (q1 * (q1 * ((2 : Int64) - (q1 * q1)))))) * ((2 : Int64) - (q1 * ((q1 * ((2 : Int64) - (q1 * q1))) * ((2 : Int64) - (q1 * (q1 * ((2 : Int64) - (q1 * q1))))))))) * ((2 : Int64) - (q1 * (((q1 * ((2 : Int64) - (q1 * q1))) * ((2 : Int64) - (q1 * (q1 * ((2 : Int64) - (q1 * q1)))))) * ((2 : Int64) - (q1 * ((q1 * ((2 : Int64) - (q1 * q1))) * ((2 : Int64) - (q1 * (q1 * ((2 : Int64) - (q1 * q1)))))))))))))])) _
    refine XS.lmul X0.here hx rfl (hb hby d3_48) rfl ?_
    show Steps p.tables e below (s₁.setTop (mkF m 49 #[.val (.long q1), .second, .val (.long ((((q1 * ((2 : Int64) - (q1 * q1))) * ((2 : Int64) - (q1 * (q1 * ((2 : Int64) - (q1 * q1)))))) * ((2 : Int64) - (q1 * ((q1 * ((2 : Int64) - (q1 * q1))) * ((2 : Int64) - (q1 * (q1 * ((2 : Int64) - (q1 * q1))))))))) * ((2 : Int64) - (q1 * (((q1 * ((2 : Int64) - (q1 * q1))) * ((2 : Int64) - (q1 * (q1 * ((2 : Int64) - (q1 * q1)))))) * ((2 : Int64) - (q1 * ((q1 * ((2 : Int64) - (q1 * q1))) * ((2 : Int64) - (q1 * (q1 * ((2 : Int64) - (q1 * q1))))))))))))), .second] [(.long (q1 * ((((q1 * ((2 : Int64) - (q1 * q1))) * ((2 : Int64) - (q1 * (q1 * ((2 : Int64) - (q1 * q1)))))) * ((2 : Int64) - (q1 * ((q1 * ((2 : Int64) - (q1 * q1))) * ((2 : Int64) - (q1 * (q1 * ((2 : Int64) - (q1 * q1))))))))) * ((2 : Int64) - (q1 * (((q1 * ((2 : Int64) - (q1 * q1))) * ((2 : Int64) - (q1 * (q1 * ((2 : Int64) - (q1 * q1)))))) * ((2 : Int64) - (q1 * ((q1 * ((2 : Int64) - (q1 * q1))) * ((2 : Int64) - (q1 * (q1 * ((2 : Int64) - (q1 * q1)))))))))))))), (.long (2 : Int64)), (.long ((((q1 * ((2 : Int64) - (q1 * q1))) * ((2 : Int64) - (q1 * (q1 * ((2 : Int64) - (q1 * q1)))))) * ((2 : Int64) - (q1 * ((q1 * ((2 : Int64) - (q1 * q1))) * ((2 : Int64) - (q1 * (q1 * ((2 : Int64) - (q1 * q1))))))))) * ((2 : Int64) - (q1 * (((q1 * ((2 : Int64) - (q1 * q1))) * ((2 : Int64) - (q1 * (q1 * ((2 : Int64) - (q1 * q1)))))) * ((2 : Int64) - (q1 * ((q1 * ((2 : Int64) - (q1 * q1))) * ((2 : Int64) - (q1 * (q1 * ((2 : Int64) - (q1 * q1)))))))))))))])) _
    refine XS.lsub X0.here hx rfl (hb hby d3_49) rfl ?_
    show Steps p.tables e below (s₁.setTop (mkF m 50 #[.val (.long q1), .second, .val (.long ((((q1 * ((2 : Int64) - (q1 * q1))) * ((2 : Int64) - (q1 * (q1 * ((2 : Int64) - (q1 * q1)))))) * ((2 : Int64) - (q1 * ((q1 * ((2 : Int64) - (q1 * q1))) * ((2 : Int64) - (q1 * (q1 * ((2 : Int64) - (q1 * q1))))))))) * ((2 : Int64) - (q1 * (((q1 * ((2 : Int64) - (q1 * q1))) * ((2 : Int64) - (q1 * (q1 * ((2 : Int64) - (q1 * q1)))))) * ((2 : Int64) - (q1 * ((q1 * ((2 : Int64) - (q1 * q1))) * ((2 : Int64) - (q1 * (q1 * ((2 : Int64) - (q1 * q1))))))))))))), .second] [(.long ((2 : Int64) - (q1 * ((((q1 * ((2 : Int64) - (q1 * q1))) * ((2 : Int64) - (q1 * (q1 * ((2 : Int64) - (q1 * q1)))))) * ((2 : Int64) - (q1 * ((q1 * ((2 : Int64) - (q1 * q1))) * ((2 : Int64) - (q1 * (q1 * ((2 : Int64) - (q1 * q1))))))))) * ((2 : Int64) - (q1 * (((q1 * ((2 : Int64) - (q1 * q1))) * ((2 : Int64) - (q1 * (q1 * ((2 : Int64) - (q1 * q1)))))) * ((2 : Int64) - (q1 * ((q1 * ((2 : Int64) - (q1 * q1))) * ((2 : Int64) - (q1 * (q1 * ((2 : Int64) - (q1 * q1))))))))))))))), (.long ((((q1 * ((2 : Int64) - (q1 * q1))) * ((2 : Int64) - (q1 * (q1 * ((2 : Int64) - (q1 * q1)))))) * ((2 : Int64) - (q1 * ((q1 * ((2 : Int64) - (q1 * q1))) * ((2 : Int64) - (q1 * (q1 * ((2 : Int64) - (q1 * q1))))))))) * ((2 : Int64) - (q1 * (((q1 * ((2 : Int64) - (q1 * q1))) * ((2 : Int64) - (q1 * (q1 * ((2 : Int64) - (q1 * q1)))))) * ((2 : Int64) - (q1 * ((q1 * ((2 : Int64) - (q1 * q1))) * ((2 : Int64) - (q1 * (q1 * ((2 : Int64) - (q1 * q1)))))))))))))])) _
    refine XS.lmul X0.here hx rfl (hb hby d3_50) rfl ?_
    show Steps p.tables e below (s₁.setTop (mkF m 51 #[.val (.long q1), .second, .val (.long ((((q1 * ((2 : Int64) - (q1 * q1))) * ((2 : Int64) - (q1 * (q1 * ((2 : Int64) - (q1 * q1)))))) * ((2 : Int64) - (q1 * ((q1 * ((2 : Int64) - (q1 * q1))) * ((2 : Int64) - (q1 * (q1 * ((2 : Int64) - (q1 * q1))))))))) * ((2 : Int64) - (q1 * (((q1 * ((2 : Int64) - (q1 * q1))) * ((2 : Int64) - (q1 * (q1 * ((2 : Int64) - (q1 * q1)))))) * ((2 : Int64) - (q1 * ((q1 * ((2 : Int64) - (q1 * q1))) * ((2 : Int64) - (q1 * (q1 * ((2 : Int64) - (q1 * q1))))))))))))), .second] [(.long (((((q1 * ((2 : Int64) - (q1 * q1))) * ((2 : Int64) - (q1 * (q1 * ((2 : Int64) - (q1 * q1)))))) * ((2 : Int64) - (q1 * ((q1 * ((2 : Int64) - (q1 * q1))) * ((2 : Int64) - (q1 * (q1 * ((2 : Int64) - (q1 * q1))))))))) * ((2 : Int64) - (q1 * (((q1 * ((2 : Int64) - (q1 * q1))) * ((2 : Int64) - (q1 * (q1 * ((2 : Int64) - (q1 * q1)))))) * ((2 : Int64) - (q1 * ((q1 * ((2 : Int64) - (q1 * q1))) * ((2 : Int64) - (q1 * (q1 * ((2 : Int64) - (q1 * q1)))))))))))) * ((2 : Int64) - (q1 * ((((q1 * ((2 : Int64) - (q1 * q1))) * ((2 : Int64) - (q1 * (q1 * ((2 : Int64) - (q1 * q1)))))) * ((2 : Int64) - (q1 * ((q1 * ((2 : Int64) - (q1 * q1))) * ((2 : Int64) - (q1 * (q1 * ((2 : Int64) - (q1 * q1))))))))) * ((2 : Int64) - (q1 * (((q1 * ((2 : Int64) - (q1 * q1))) * ((2 : Int64) - (q1 * (q1 * ((2 : Int64) - (q1 * q1)))))) * ((2 : Int64) - (q1 * ((q1 * ((2 : Int64) - (q1 * q1))) * ((2 : Int64) - (q1 * (q1 * ((2 : Int64) - (q1 * q1))))))))))))))))])) _
    refine XS.lstoreN X0.here hx rfl (hb hby d3_51) rfl (l' := #[.val (.long q1), .second, .val (.long (((((q1 * ((2 : Int64) - (q1 * q1))) * ((2 : Int64) - (q1 * (q1 * ((2 : Int64) - (q1 * q1)))))) * ((2 : Int64) - (q1 * ((q1 * ((2 : Int64) - (q1 * q1))) * ((2 : Int64) - (q1 * (q1 * ((2 : Int64) - (q1 * q1))))))))) * ((2 : Int64) - (q1 * (((q1 * ((2 : Int64) - (q1 * q1))) * ((2 : Int64) - (q1 * (q1 * ((2 : Int64) - (q1 * q1)))))) * ((2 : Int64) - (q1 * ((q1 * ((2 : Int64) - (q1 * q1))) * ((2 : Int64) - (q1 * (q1 * ((2 : Int64) - (q1 * q1)))))))))))) * ((2 : Int64) - (q1 * ((((q1 * ((2 : Int64) - (q1 * q1))) * ((2 : Int64) - (q1 * (q1 * ((2 : Int64) - (q1 * q1)))))) * ((2 : Int64) - (q1 * ((q1 * ((2 : Int64) - (q1 * q1))) * ((2 : Int64) - (q1 * (q1 * ((2 : Int64) - (q1 * q1))))))))) * ((2 : Int64) - (q1 * (((q1 * ((2 : Int64) - (q1 * q1))) * ((2 : Int64) - (q1 * (q1 * ((2 : Int64) - (q1 * q1)))))) * ((2 : Int64) - (q1 * ((q1 * ((2 : Int64) - (q1 * q1))) * ((2 : Int64) - (q1 * (q1 * ((2 : Int64) - (q1 * q1)))))))))))))))), .second]) rfl ?_
    show Steps p.tables e below (s₁.setTop (mkF m 52 #[.val (.long q1), .second, .val (.long (((((q1 * ((2 : Int64) - (q1 * q1))) * ((2 : Int64) - (q1 * (q1 * ((2 : Int64) - (q1 * q1)))))) * ((2 : Int64) - (q1 * ((q1 * ((2 : Int64) - (q1 * q1))) * ((2 : Int64) - (q1 * (q1 * ((2 : Int64) - (q1 * q1))))))))) * ((2 : Int64) - (q1 * (((q1 * ((2 : Int64) - (q1 * q1))) * ((2 : Int64) - (q1 * (q1 * ((2 : Int64) - (q1 * q1)))))) * ((2 : Int64) - (q1 * ((q1 * ((2 : Int64) - (q1 * q1))) * ((2 : Int64) - (q1 * (q1 * ((2 : Int64) - (q1 * q1)))))))))))) * ((2 : Int64) - (q1 * ((((q1 * ((2 : Int64) - (q1 * q1))) * ((2 : Int64) - (q1 * (q1 * ((2 : Int64) - (q1 * q1)))))) * ((2 : Int64) - (q1 * ((q1 * ((2 : Int64) - (q1 * q1))) * ((2 : Int64) - (q1 * (q1 * ((2 : Int64) - (q1 * q1))))))))) * ((2 : Int64) - (q1 * (((q1 * ((2 : Int64) - (q1 * q1))) * ((2 : Int64) - (q1 * (q1 * ((2 : Int64) - (q1 * q1)))))) * ((2 : Int64) - (q1 * ((q1 * ((2 : Int64) - (q1 * q1))) * ((2 : Int64) - (q1 * (q1 * ((2 : Int64) - (q1 * q1)))))))))))))))), .second] [])) _
    refine XS.lloadN X0.here hx rfl (hb hby d3_52) rfl ?_
    show Steps p.tables e below (s₁.setTop (mkF m 53 #[.val (.long q1), .second, .val (.long (((((q1 * ((2 : Int64) - (q1 * q1))) * ((2 : Int64) - (q1 * (q1 * ((2 : Int64) - (q1 * q1)))))) * ((2 : Int64) - (q1 * ((q1 * ((2 : Int64) - (q1 * q1))) * ((2 : Int64) - (q1 * (q1 * ((2 : Int64) - (q1 * q1))))))))) * ((2 : Int64) - (q1 * (((q1 * ((2 : Int64) - (q1 * q1))) * ((2 : Int64) - (q1 * (q1 * ((2 : Int64) - (q1 * q1)))))) * ((2 : Int64) - (q1 * ((q1 * ((2 : Int64) - (q1 * q1))) * ((2 : Int64) - (q1 * (q1 * ((2 : Int64) - (q1 * q1)))))))))))) * ((2 : Int64) - (q1 * ((((q1 * ((2 : Int64) - (q1 * q1))) * ((2 : Int64) - (q1 * (q1 * ((2 : Int64) - (q1 * q1)))))) * ((2 : Int64) - (q1 * ((q1 * ((2 : Int64) - (q1 * q1))) * ((2 : Int64) - (q1 * (q1 * ((2 : Int64) - (q1 * q1))))))))) * ((2 : Int64) - (q1 * (((q1 * ((2 : Int64) - (q1 * q1))) * ((2 : Int64) - (q1 * (q1 * ((2 : Int64) - (q1 * q1)))))) * ((2 : Int64) - (q1 * ((q1 * ((2 : Int64) - (q1 * q1))) * ((2 : Int64) - (q1 * (q1 * ((2 : Int64) - (q1 * q1)))))))))))))))), .second] [(.long (((((q1 * ((2 : Int64) - (q1 * q1))) * ((2 : Int64) - (q1 * (q1 * ((2 : Int64) - (q1 * q1)))))) * ((2 : Int64) - (q1 * ((q1 * ((2 : Int64) - (q1 * q1))) * ((2 : Int64) - (q1 * (q1 * ((2 : Int64) - (q1 * q1))))))))) * ((2 : Int64) - (q1 * (((q1 * ((2 : Int64) - (q1 * q1))) * ((2 : Int64) - (q1 * (q1 * ((2 : Int64) - (q1 * q1)))))) * ((2 : Int64) - (q1 * ((q1 * ((2 : Int64) - (q1 * q1))) * ((2 : Int64) - (q1 * (q1 * ((2 : Int64) - (q1 * q1)))))))))))) * ((2 : Int64) - (q1 * ((((q1 * ((2 : Int64) - (q1 * q1))) * ((2 : Int64) - (q1 * (q1 * ((2 : Int64) - (q1 * q1)))))) * ((2 : Int64) - (q1 * ((q1 * ((2 : Int64) - (q1 * q1))) * ((2 : Int64) - (q1 * (q1 * ((2 : Int64) - (q1 * q1))))))))) * ((2 : Int64) - (q1 * (((q1 * ((2 : Int64) - (q1 * q1))) * ((2 : Int64) - (q1 * (q1 * ((2 : Int64) - (q1 * q1)))))) * ((2 : Int64) - (q1 * ((q1 * ((2 : Int64) - (q1 * q1))) * ((2 : Int64) - (q1 * (q1 * ((2 : Int64) - (q1 * q1))))))))))))))))])) _
    exact own_retJ X0 hx Bd.returns (hb hby d3_53) hr
  · show Q3 Z q1 h0 n0 _ s₁.heap _
    rw [e0]
    exact ⟨rfl, N0, rfl⟩
theorem pn_0 : plainName "com/example/compact_set_filters/compactsetfilters/KeyHashFmixPinLaw" = true := by first | (simp [plainName, overriddenIn]; done) | decide +kernel
theorem pd_0_0 : parseMethodDescriptor "(J)J" = some ⟨[.long], some .long⟩ := by decide +kernel
theorem ef_0 (m : MethodId) (x0 : Int64) : entryFrame m #[(.long x0)] maxLocals = mkF m 0 #[.val (.long x0), .second, .unset, .unset] [] := by first | (simp [entryFrame, mkF, argsToLocals, Value.category, maxLocals]; done) | rfl
def Q0 (Z : State) (q1 : Int64) (h0 : Heap) (n0 : Nat) (v : Option Value) (h : Heap) (L : List Loc) : Prop := v = some (.int (1 : Int32)) ∧ Fr n0 L
set_option maxRecDepth 65536 in
set_option maxHeartbeats 40000000 in
theorem rm0 (l : Launch) (Z : State) (a0 : Array Value) (hw : ∀ d ∈ tables_1, d.before a0 Z = true) (ws : List Jvm.Cond) (q1 : Int64) (h0 : Heap) (n0 : Nat) (Z0 : n0 ≤ h0.size) :
    MetFree l x (head1 (Jvm.Cond.code x code maxLocals ret :: ws) room_1) (fun a U => a = #[(.long q1)] ∧ Z.Warmed39 U.vm ∧ U.heap = h0) (fun _ _ _ _ _ => True) (fun _ U o U' => ∃ v L, o = .returned v ∧ Q0 Z q1 h0 n0 v U'.heap L ∧ FrameEnd U o U' L room_1.cells room_1.slots) := by
  refine MetFree.of_bodySF (plainFor_of_name pn_0) hisR ?_
  intro p e s m args below meth c s₁ Bd hml0 hP hK
  obtain ⟨rfl, hZ, hh⟩ := hP
  have hx := Bd.exec
  have hby := Bd.bytes
  have hml : c.maxLocals = 4 := hml0
  have hown : s.vm.findClass "com/example/compact_set_filters/compactsetfilters/KeyHashFmixPinLaw" = some m.cls := findClass_of_methodNamed Bd.named
  have hnm := (name_of_methodNamed Bd.named Bd.method).1
  have X0 : Stand p l e room_1 s m #[(.long q1)] below meth c s₁ [] 0 0 := Stand.of_body Bd
  have e0 : s₁.heap = h0 := by rw [← hh, Bd.state]; rfl
  have N0 := Fr.nil n0
  have pre0 : ∀ t, Steps p.tables e below (s₁.setTop (mkF m 0 #[.val (.long q1), .second, .unset, .unset] [])) t → Steps p.tables e below (s₁.setTop (entryFrame m #[(.long q1)] maxLocals)) t := fun t k => castTop (ef_0 m q1) k
  -- 3. LAWS
  -- pc 1: com/example/compact_set_filters/compactsetfilters/KeyHash.fmix by its contract rm1
  obtain ⟨_, _, ⟨T2, L2, k2, n2⟩, -, X2, ⟨Lc2, hQ2, l2, y2, z2⟩, st2⟩ := Jvm.LawKit.callS X0 hx (y := (⟨"com/example/compact_set_filters/compactsetfilters/KeyHash", "fmix", "(J)J"⟩ : MethodName)) hown (mvT hZ (hw _ (List.mem_of_getElem? (i := 0) rfl))) (mvT hZ (hw _ (List.mem_of_getElem? (i := 1) rfl))) (mvT hZ (hw _ (List.mem_of_getElem? (i := 2) rfl))) (mvT hZ (hw _ (List.mem_of_getElem? (i := 3) rfl))) (by decide) (backOf (W := 0) (rm1 l Z a0 hw [] q1 h0 n0 Z0) hZ (hw _ (List.mem_of_getElem? (i := 3) rfl)) (hw _ (List.mem_of_getElem? (i := 2) rfl)) (by decide) (by decide)) (g := (mkF m 1 #[.val (.long q1), .second, .unset, .unset] [(.long q1)])) rfl (by rw [hml]; rfl) (argsL := [(.long q1)]) (rest := []) (lenOf pd_0_0 rfl) rfl (by show 2 * 0 + _ ≤ _; exact Nat.le_of_eq rfl) (hb hby at_1) (fun _ _ => ⟨rfl, e0, (by decide : 0 + 0 ≤ _), (by decide : 0 + 0 ≤ _)⟩)
  dsimp only [Pt.U, Pt.locs, Pt.cells, Pt.slots] at X2 l2 y2 z2 st2 hQ2
  subst l2 y2 z2
  obtain ⟨rfl, N2q, E2q⟩ := hQ2
  have K2q : Keep h0 T2.heap [] := by rw [E2q]; exact Keep.refl _ _
  have Z2 : n0 ≤ T2.heap.size := Nat.le_trans Z0 K2q.1
  have N2 := Fr.app N0 N2q
  -- pc 6: com/example/compact_set_filters/compactsetfilters/KeyHashFmixPinLaw.unshift by its contract rm2
  obtain ⟨_, _, ⟨T3, L3, k3, n3⟩, -, X3, ⟨Lc3, hQ3, l3, y3, z3⟩, st3⟩ := Jvm.LawKit.callS X2 hx (y := (⟨"com/example/compact_set_filters/compactsetfilters/KeyHashFmixPinLaw", "unshift", "(J)J"⟩ : MethodName)) hown (mvT hZ (hw _ (List.mem_of_getElem? (i := 6) rfl))) (mvT hZ (hw _ (List.mem_of_getElem? (i := 7) rfl))) (mvT hZ (hw _ (List.mem_of_getElem? (i := 8) rfl))) (mvT hZ (hw _ (List.mem_of_getElem? (i := 9) rfl))) (by decide) (backOf (W := 0) (rm2 l Z a0 hw [] (own_mix q1) T2.heap n0 Z2) hZ (hw _ (List.mem_of_getElem? (i := 9) rfl)) (hw _ (List.mem_of_getElem? (i := 8) rfl)) (by decide) (by decide)) (g := (mkF m 6 #[.val (.long q1), .second, .val (.long (own_mix q1)), .second] [(.long (own_mix q1))])) rfl (by rw [hml]; rfl) (argsL := [(.long (own_mix q1))]) (rest := []) (lenOf pd_0_0 rfl) rfl (by show 2 * 0 + _ ≤ _; exact Nat.le_of_eq rfl) (hb hby at_6) (fun _ _ => ⟨rfl, rfl, (by decide : 0 + 0 ≤ _), (by decide : 0 + 0 ≤ _)⟩)
  dsimp only [Pt.U, Pt.locs, Pt.cells, Pt.slots] at X3 l3 y3 z3 st3 hQ3
  subst l3 y3 z3
  obtain ⟨rfl, N3q, E3q⟩ := hQ3
  have K3q : Keep T2.heap T3.heap [] := by rw [E3q]; exact Keep.refl _ _
  have Z3 : n0 ≤ T3.heap.size := Nat.le_trans Z2 K3q.1
  have N3 := Fr.app N2 N3q
  -- pc 14: com/example/compact_set_filters/compactsetfilters/KeyHashFmixPinLaw.inverse by its contract rm3
  obtain ⟨_, _, ⟨T4, L4, k4, n4⟩, -, X4, ⟨Lc4, hQ4, l4, y4, z4⟩, st4⟩ := Jvm.LawKit.callS X3 hx (y := (⟨"com/example/compact_set_filters/compactsetfilters/KeyHashFmixPinLaw", "inverse", "(J)J"⟩ : MethodName)) hown (mvT hZ (hw _ (List.mem_of_getElem? (i := 11) rfl))) (mvT hZ (hw _ (List.mem_of_getElem? (i := 12) rfl))) (mvT hZ (hw _ (List.mem_of_getElem? (i := 8) rfl))) (mvT hZ (hw _ (List.mem_of_getElem? (i := 13) rfl))) (by decide) (backOf (W := 2) (rm3 l Z a0 hw [] (-4265267296055464877 : Int64) T3.heap n0 Z3) hZ (hw _ (List.mem_of_getElem? (i := 13) rfl)) (hw _ (List.mem_of_getElem? (i := 8) rfl)) (by decide) (by decide)) (g := (mkF m 14 #[.val (.long q1), .second, .val (.long (own_sh (own_mix q1))), .second] [(.long (-4265267296055464877 : Int64)), (.long (own_sh (own_mix q1)))])) rfl (by rw [hml]; rfl) (argsL := [(.long (-4265267296055464877 : Int64))]) (rest := [(.long (own_sh (own_mix q1)))]) (lenOf pd_0_0 rfl) rfl (by show 2 * 0 + _ ≤ _; exact Nat.le_of_eq rfl) (hb hby at_14) (fun _ _ => ⟨rfl, rfl, (by decide : 0 + 0 ≤ _), (by decide : 0 + 0 ≤ _)⟩)
  dsimp only [Pt.U, Pt.locs, Pt.cells, Pt.slots] at X4 l4 y4 z4 st4 hQ4
  subst l4 y4 z4
  obtain ⟨rfl, N4q, E4q⟩ := hQ4
  have K4q : Keep T3.heap T4.heap [] := by rw [E4q]; exact Keep.refl _ _
  have Z4 : n0 ≤ T4.heap.size := Nat.le_trans Z3 K4q.1
  have N4 := Fr.app N3 N4q
  -- pc 20: com/example/compact_set_filters/compactsetfilters/KeyHashFmixPinLaw.unshift by its contract rm2
  obtain ⟨_, _, ⟨T5, L5, k5, n5⟩, -, X5, ⟨Lc5, hQ5, l5, y5, z5⟩, st5⟩ := Jvm.LawKit.callS X4 hx (y := (⟨"com/example/compact_set_filters/compactsetfilters/KeyHashFmixPinLaw", "unshift", "(J)J"⟩ : MethodName)) hown (mvT hZ (hw _ (List.mem_of_getElem? (i := 6) rfl))) (mvT hZ (hw _ (List.mem_of_getElem? (i := 7) rfl))) (mvT hZ (hw _ (List.mem_of_getElem? (i := 8) rfl))) (mvT hZ (hw _ (List.mem_of_getElem? (i := 9) rfl))) (by decide) (backOf (W := 0) (rm2 l Z a0 hw [] ((own_sh (own_mix q1)) * (own_inv (-4265267296055464877 : Int64))) T4.heap n0 Z4) hZ (hw _ (List.mem_of_getElem? (i := 9) rfl)) (hw _ (List.mem_of_getElem? (i := 8) rfl)) (by decide) (by decide)) (g := (mkF m 20 #[.val (.long q1), .second, .val (.long ((own_sh (own_mix q1)) * (own_inv (-4265267296055464877 : Int64)))), .second] [(.long ((own_sh (own_mix q1)) * (own_inv (-4265267296055464877 : Int64))))])) rfl (by rw [hml]; rfl) (argsL := [(.long ((own_sh (own_mix q1)) * (own_inv (-4265267296055464877 : Int64))))]) (rest := []) (lenOf pd_0_0 rfl) rfl (by show 2 * 0 + _ ≤ _; exact Nat.le_of_eq rfl) (hb hby at_20) (fun _ _ => ⟨rfl, rfl, (by decide : 0 + 0 ≤ _), (by decide : 0 + 0 ≤ _)⟩)
  dsimp only [Pt.U, Pt.locs, Pt.cells, Pt.slots] at X5 l5 y5 z5 st5 hQ5
  subst l5 y5 z5
  obtain ⟨rfl, N5q, E5q⟩ := hQ5
  have K5q : Keep T4.heap T5.heap [] := by rw [E5q]; exact Keep.refl _ _
  have Z5 : n0 ≤ T5.heap.size := Nat.le_trans Z4 K5q.1
  have N5 := Fr.app N4 N5q
  -- pc 28: com/example/compact_set_filters/compactsetfilters/KeyHashFmixPinLaw.inverse by its contract rm3
  obtain ⟨_, _, ⟨T6, L6, k6, n6⟩, -, X6, ⟨Lc6, hQ6, l6, y6, z6⟩, st6⟩ := Jvm.LawKit.callS X5 hx (y := (⟨"com/example/compact_set_filters/compactsetfilters/KeyHashFmixPinLaw", "inverse", "(J)J"⟩ : MethodName)) hown (mvT hZ (hw _ (List.mem_of_getElem? (i := 11) rfl))) (mvT hZ (hw _ (List.mem_of_getElem? (i := 12) rfl))) (mvT hZ (hw _ (List.mem_of_getElem? (i := 8) rfl))) (mvT hZ (hw _ (List.mem_of_getElem? (i := 13) rfl))) (by decide) (backOf (W := 2) (rm3 l Z a0 hw [] (-49064778989728563 : Int64) T5.heap n0 Z5) hZ (hw _ (List.mem_of_getElem? (i := 13) rfl)) (hw _ (List.mem_of_getElem? (i := 8) rfl)) (by decide) (by decide)) (g := (mkF m 28 #[.val (.long q1), .second, .val (.long (own_sh ((own_sh (own_mix q1)) * (own_inv (-4265267296055464877 : Int64))))), .second] [(.long (-49064778989728563 : Int64)), (.long (own_sh ((own_sh (own_mix q1)) * (own_inv (-4265267296055464877 : Int64)))))])) rfl (by rw [hml]; rfl) (argsL := [(.long (-49064778989728563 : Int64))]) (rest := [(.long (own_sh ((own_sh (own_mix q1)) * (own_inv (-4265267296055464877 : Int64)))))]) (lenOf pd_0_0 rfl) rfl (by show 2 * 0 + _ ≤ _; exact Nat.le_of_eq rfl) (hb hby at_28) (fun _ _ => ⟨rfl, rfl, (by decide : 0 + 0 ≤ _), (by decide : 0 + 0 ≤ _)⟩)
  dsimp only [Pt.U, Pt.locs, Pt.cells, Pt.slots] at X6 l6 y6 z6 st6 hQ6
  subst l6 y6 z6
  obtain ⟨rfl, N6q, E6q⟩ := hQ6
  have K6q : Keep T5.heap T6.heap [] := by rw [E6q]; exact Keep.refl _ _
  have Z6 : n0 ≤ T6.heap.size := Nat.le_trans Z5 K6q.1
  have N6 := Fr.app N5 N6q
  -- pc 34: com/example/compact_set_filters/compactsetfilters/KeyHashFmixPinLaw.unshift by its contract rm2
  obtain ⟨_, _, ⟨T7, L7, k7, n7⟩, -, X7, ⟨Lc7, hQ7, l7, y7, z7⟩, st7⟩ := Jvm.LawKit.callS X6 hx (y := (⟨"com/example/compact_set_filters/compactsetfilters/KeyHashFmixPinLaw", "unshift", "(J)J"⟩ : MethodName)) hown (mvT hZ (hw _ (List.mem_of_getElem? (i := 6) rfl))) (mvT hZ (hw _ (List.mem_of_getElem? (i := 7) rfl))) (mvT hZ (hw _ (List.mem_of_getElem? (i := 8) rfl))) (mvT hZ (hw _ (List.mem_of_getElem? (i := 9) rfl))) (by decide) (backOf (W := 0) (rm2 l Z a0 hw [] ((own_sh ((own_sh (own_mix q1)) * (own_inv (-4265267296055464877 : Int64)))) * (own_inv (-49064778989728563 : Int64))) T6.heap n0 Z6) hZ (hw _ (List.mem_of_getElem? (i := 9) rfl)) (hw _ (List.mem_of_getElem? (i := 8) rfl)) (by decide) (by decide)) (g := (mkF m 34 #[.val (.long q1), .second, .val (.long ((own_sh ((own_sh (own_mix q1)) * (own_inv (-4265267296055464877 : Int64)))) * (own_inv (-49064778989728563 : Int64)))), .second] [(.long ((own_sh ((own_sh (own_mix q1)) * (own_inv (-4265267296055464877 : Int64)))) * (own_inv (-49064778989728563 : Int64))))])) rfl (by rw [hml]; rfl) (argsL := [(.long ((own_sh ((own_sh (own_mix q1)) * (own_inv (-4265267296055464877 : Int64)))) * (own_inv (-49064778989728563 : Int64))))]) (rest := []) (lenOf pd_0_0 rfl) rfl (by show 2 * 0 + _ ≤ _; exact Nat.le_of_eq rfl) (hb hby at_34) (fun _ _ => ⟨rfl, rfl, (by decide : 0 + 0 ≤ _), (by decide : 0 + 0 ≤ _)⟩)
  dsimp only [Pt.U, Pt.locs, Pt.cells, Pt.slots] at X7 l7 y7 z7 st7 hQ7
  subst l7 y7 z7
  obtain ⟨rfl, N7q, E7q⟩ := hQ7
  have K7q : Keep T6.heap T7.heap [] := by rw [E7q]; exact Keep.refl _ _
  have Z7 : n0 ≤ T7.heap.size := Nat.le_trans Z6 K7q.1
  have N7 := Fr.app N6 N7q
  obtain ⟨fs, hr, hrun, hended, hW, hsame⟩ := X7.leave (v := some (.int (1 : Int32))) (fun h => by rw [Bd.returns] at h; cases h)
  refine ⟨_, _, pre0 _ ?_, hrun, hended, _, _, rfl, ?_, ⟨_, rfl⟩, hW, hsame.mono (by decide) (by decide)⟩
  -- 4. STEPS
  · show Steps p.tables e below (s₁.setTop (mkF m 0 #[.val (.long q1), .second, .unset, .unset] [])) _
    refine XS.lloadN X0.here hx rfl (hb hby at_0) rfl ?_
    show Steps p.tables e below (s₁.setTop (mkF m 1 #[.val (.long q1), .second, .unset, .unset] [(.long q1)])) _
    refine st2 _ ?_
    show Steps p.tables e below (T2.setTop (mkF m 4 #[.val (.long q1), .second, .unset, .unset] [(.long (own_mix q1))])) _
    refine XS.lstoreN X2.here hx rfl (hb hby at_4) rfl (l' := #[.val (.long q1), .second, .val (.long (own_mix q1)), .second]) rfl ?_
    show Steps p.tables e below (T2.setTop (mkF m 5 #[.val (.long q1), .second, .val (.long (own_mix q1)), .second] [])) _
    refine XS.lloadN X2.here hx rfl (hb hby at_5) rfl ?_
    show Steps p.tables e below (T2.setTop (mkF m 6 #[.val (.long q1), .second, .val (.long (own_mix q1)), .second] [(.long (own_mix q1))])) _
    refine st3 _ ?_
    show Steps p.tables e below (T3.setTop (mkF m 9 #[.val (.long q1), .second, .val (.long (own_mix q1)), .second] [(.long (own_sh (own_mix q1)))])) _
    refine XS.lstoreN X3.here hx rfl (hb hby at_9) rfl (l' := #[.val (.long q1), .second, .val (.long (own_sh (own_mix q1))), .second]) rfl ?_
    show Steps p.tables e below (T3.setTop (mkF m 10 #[.val (.long q1), .second, .val (.long (own_sh (own_mix q1))), .second] [])) _
    refine XS.lloadN X3.here hx rfl (hb hby at_10) rfl ?_
    show Steps p.tables e below (T3.setTop (mkF m 11 #[.val (.long q1), .second, .val (.long (own_sh (own_mix q1))), .second] [(.long (own_sh (own_mix q1)))])) _
    refine X3.ldc2Long hx hown (mvT hZ (hw _ (List.mem_of_getElem? (i := 10) rfl))) (g := (mkF m 11 #[.val (.long q1), .second, .val (.long (own_sh (own_mix q1))), .second] [(.long (own_sh (own_mix q1)))])) rfl (hb hby at_11) _ ?_
    show Steps p.tables e below (T3.setTop (mkF m 14 #[.val (.long q1), .second, .val (.long (own_sh (own_mix q1))), .second] [(.long (-4265267296055464877 : Int64)), (.long (own_sh (own_mix q1)))])) _
    refine st4 _ ?_
    show Steps p.tables e below (T4.setTop (mkF m 17 #[.val (.long q1), .second, .val (.long (own_sh (own_mix q1))), .second] [(.long (own_inv (-4265267296055464877 : Int64))), (.long (own_sh (own_mix q1)))])) _
    refine XS.lmul X4.here hx rfl (hb hby at_17) rfl ?_
    show Steps p.tables e below (T4.setTop (mkF m 18 #[.val (.long q1), .second, .val (.long (own_sh (own_mix q1))), .second] [(.long ((own_sh (own_mix q1)) * (own_inv (-4265267296055464877 : Int64))))])) _
    refine XS.lstoreN X4.here hx rfl (hb hby at_18) rfl (l' := #[.val (.long q1), .second, .val (.long ((own_sh (own_mix q1)) * (own_inv (-4265267296055464877 : Int64)))), .second]) rfl ?_
    show Steps p.tables e below (T4.setTop (mkF m 19 #[.val (.long q1), .second, .val (.long ((own_sh (own_mix q1)) * (own_inv (-4265267296055464877 : Int64)))), .second] [])) _
    refine XS.lloadN X4.here hx rfl (hb hby at_19) rfl ?_
    show Steps p.tables e below (T4.setTop (mkF m 20 #[.val (.long q1), .second, .val (.long ((own_sh (own_mix q1)) * (own_inv (-4265267296055464877 : Int64)))), .second] [(.long ((own_sh (own_mix q1)) * (own_inv (-4265267296055464877 : Int64))))])) _
    refine st5 _ ?_
    show Steps p.tables e below (T5.setTop (mkF m 23 #[.val (.long q1), .second, .val (.long ((own_sh (own_mix q1)) * (own_inv (-4265267296055464877 : Int64)))), .second] [(.long (own_sh ((own_sh (own_mix q1)) * (own_inv (-4265267296055464877 : Int64)))))])) _
    refine XS.lstoreN X5.here hx rfl (hb hby at_23) rfl (l' := #[.val (.long q1), .second, .val (.long (own_sh ((own_sh (own_mix q1)) * (own_inv (-4265267296055464877 : Int64))))), .second]) rfl ?_
    show Steps p.tables e below (T5.setTop (mkF m 24 #[.val (.long q1), .second, .val (.long (own_sh ((own_sh (own_mix q1)) * (own_inv (-4265267296055464877 : Int64))))), .second] [])) _
    refine XS.lloadN X5.here hx rfl (hb hby at_24) rfl ?_
    show Steps p.tables e below (T5.setTop (mkF m 25 #[.val (.long q1), .second, .val (.long (own_sh ((own_sh (own_mix q1)) * (own_inv (-4265267296055464877 : Int64))))), .second] [(.long (own_sh ((own_sh (own_mix q1)) * (own_inv (-4265267296055464877 : Int64)))))])) _
    refine X5.ldc2Long hx hown (mvT hZ (hw _ (List.mem_of_getElem? (i := 15) rfl))) (g := (mkF m 25 #[.val (.long q1), .second, .val (.long (own_sh ((own_sh (own_mix q1)) * (own_inv (-4265267296055464877 : Int64))))), .second] [(.long (own_sh ((own_sh (own_mix q1)) * (own_inv (-4265267296055464877 : Int64)))))])) rfl (hb hby at_25) _ ?_
    show Steps p.tables e below (T5.setTop (mkF m 28 #[.val (.long q1), .second, .val (.long (own_sh ((own_sh (own_mix q1)) * (own_inv (-4265267296055464877 : Int64))))), .second] [(.long (-49064778989728563 : Int64)), (.long (own_sh ((own_sh (own_mix q1)) * (own_inv (-4265267296055464877 : Int64)))))])) _
    refine st6 _ ?_
    show Steps p.tables e below (T6.setTop (mkF m 31 #[.val (.long q1), .second, .val (.long (own_sh ((own_sh (own_mix q1)) * (own_inv (-4265267296055464877 : Int64))))), .second] [(.long (own_inv (-49064778989728563 : Int64))), (.long (own_sh ((own_sh (own_mix q1)) * (own_inv (-4265267296055464877 : Int64)))))])) _
    refine XS.lmul X6.here hx rfl (hb hby at_31) rfl ?_
    show Steps p.tables e below (T6.setTop (mkF m 32 #[.val (.long q1), .second, .val (.long (own_sh ((own_sh (own_mix q1)) * (own_inv (-4265267296055464877 : Int64))))), .second] [(.long ((own_sh ((own_sh (own_mix q1)) * (own_inv (-4265267296055464877 : Int64)))) * (own_inv (-49064778989728563 : Int64))))])) _
    refine XS.lstoreN X6.here hx rfl (hb hby at_32) rfl (l' := #[.val (.long q1), .second, .val (.long ((own_sh ((own_sh (own_mix q1)) * (own_inv (-4265267296055464877 : Int64)))) * (own_inv (-49064778989728563 : Int64)))), .second]) rfl ?_
    show Steps p.tables e below (T6.setTop (mkF m 33 #[.val (.long q1), .second, .val (.long ((own_sh ((own_sh (own_mix q1)) * (own_inv (-4265267296055464877 : Int64)))) * (own_inv (-49064778989728563 : Int64)))), .second] [])) _
    refine XS.lloadN X6.here hx rfl (hb hby at_33) rfl ?_
    show Steps p.tables e below (T6.setTop (mkF m 34 #[.val (.long q1), .second, .val (.long ((own_sh ((own_sh (own_mix q1)) * (own_inv (-4265267296055464877 : Int64)))) * (own_inv (-49064778989728563 : Int64)))), .second] [(.long ((own_sh ((own_sh (own_mix q1)) * (own_inv (-4265267296055464877 : Int64)))) * (own_inv (-49064778989728563 : Int64))))])) _
    refine st7 _ ?_
    show Steps p.tables e below (T7.setTop (mkF m 37 #[.val (.long q1), .second, .val (.long ((own_sh ((own_sh (own_mix q1)) * (own_inv (-4265267296055464877 : Int64)))) * (own_inv (-49064778989728563 : Int64)))), .second] [(.long (own_sh ((own_sh ((own_sh (own_mix q1)) * (own_inv (-4265267296055464877 : Int64)))) * (own_inv (-49064778989728563 : Int64)))))])) _
    refine XS.lstoreN X7.here hx rfl (hb hby at_37) rfl (l' := #[.val (.long q1), .second, .val (.long (own_sh ((own_sh ((own_sh (own_mix q1)) * (own_inv (-4265267296055464877 : Int64)))) * (own_inv (-49064778989728563 : Int64))))), .second]) rfl ?_
    show Steps p.tables e below (T7.setTop (mkF m 38 #[.val (.long q1), .second, .val (.long (own_sh ((own_sh ((own_sh (own_mix q1)) * (own_inv (-4265267296055464877 : Int64)))) * (own_inv (-49064778989728563 : Int64))))), .second] [])) _
    refine XS.lloadN X7.here hx rfl (hb hby at_38) rfl ?_
    show Steps p.tables e below (T7.setTop (mkF m 39 #[.val (.long q1), .second, .val (.long (own_sh ((own_sh ((own_sh (own_mix q1)) * (own_inv (-4265267296055464877 : Int64)))) * (own_inv (-49064778989728563 : Int64))))), .second] [(.long (own_sh ((own_sh ((own_sh (own_mix q1)) * (own_inv (-4265267296055464877 : Int64)))) * (own_inv (-49064778989728563 : Int64)))))])) _
    refine XS.lloadN X7.here hx rfl (hb hby at_39) rfl ?_
    show Steps p.tables e below (T7.setTop (mkF m 40 #[.val (.long q1), .second, .val (.long (own_sh ((own_sh ((own_sh (own_mix q1)) * (own_inv (-4265267296055464877 : Int64)))) * (own_inv (-49064778989728563 : Int64))))), .second] [(.long q1), (.long (own_sh ((own_sh ((own_sh (own_mix q1)) * (own_inv (-4265267296055464877 : Int64)))) * (own_inv (-49064778989728563 : Int64)))))])) _
    refine XS.lcmp X7.here hx rfl (hb hby at_40) rfl ?_
    show Steps p.tables e below (T7.setTop (mkF m 41 #[.val (.long q1), .second, .val (.long (own_sh ((own_sh ((own_sh (own_mix q1)) * (own_inv (-4265267296055464877 : Int64)))) * (own_inv (-49064778989728563 : Int64))))), .second] [(.int (lcmpW (own_sh ((own_sh ((own_sh (own_mix q1)) * (own_inv (-4265267296055464877 : Int64)))) * (own_inv (-49064778989728563 : Int64)))) q1))])) _
    refine XS.ifNo X7.here hx rfl (hb hby at_41) rfl ((if0 _ _).trans (teq ((lw_eq _ _).mpr (own_fin q1) : (lcmpW (own_sh ((own_sh ((own_sh (own_mix q1)) * (own_inv (-4265267296055464877 : Int64)))) * (own_inv (-49064778989728563 : Int64)))) q1) = (0 : Int32))).2) ?_
    show Steps p.tables e below (T7.setTop (mkF m 44 #[.val (.long q1), .second, .val (.long (own_sh ((own_sh ((own_sh (own_mix q1)) * (own_inv (-4265267296055464877 : Int64)))) * (own_inv (-49064778989728563 : Int64))))), .second] [])) _
    refine XS.iconst X7.here hx rfl (hb hby at_44) ?_
    show Steps p.tables e below (T7.setTop (mkF m 45 #[.val (.long q1), .second, .val (.long (own_sh ((own_sh ((own_sh (own_mix q1)) * (own_inv (-4265267296055464877 : Int64)))) * (own_inv (-49064778989728563 : Int64))))), .second] [(.int (1 : Int32))])) _
    refine XS.goto X7.here hx rfl (pc0 := 45) (pc' := 49) rfl (hb hby at_45) (by decide) (by decide) ?_
    show Steps p.tables e below (T7.setTop (mkF m 49 #[.val (.long q1), .second, .val (.long (own_sh ((own_sh ((own_sh (own_mix q1)) * (own_inv (-4265267296055464877 : Int64)))) * (own_inv (-49064778989728563 : Int64))))), .second] [(.int (1 : Int32))])) _
    exact retN X7 hx (t := .boolean) Bd.returns (by simp) (hb hby at_49) hr
  · show Q0 Z q1 h0 n0 _ T7.heap _
    exact ⟨rfl, N7⟩
set_option maxRecDepth 65536 in
set_option maxHeartbeats 40000000 in
theorem comes_1 {Post : Tables → Env → Array Value → State → Outcome → State → Prop} (hpost : ∀ tb e args s v u, (limb_1_1.after args s (.returned v) u = true ∧ limb_1_2.after args s (.returned v) u = true ∧ True) → FrameEnd s (.returned v) u (Jvm.fieldLocs frame_1_writes args s ++ Jvm.arrayLocs frame_1_arrays args s ++ Jvm.staticLocs frame_1_statics s) 0 0 → Post tb e args s (.returned v) u) :
    ArmFor flags0 classFile x code maxLocals ret World_1 tables_1 room_1 Calls_1 rest_1 Pre_1 Post := by
  intro l hfl _ _ p e ha hc hk s m args below hf hA hF happ hP
  obtain ⟨hcalls, hrest, hpre⟩ := hP
  obtain ⟨-, -, -, hnamed, -, -, -, hat⟩ := (Spec.applies_iff hf).mp happ
  obtain ⟨hg, hn⟩ := and_e (Cond.before_iff.mp (show (Jvm.Cond.and given_1 narrow_1).before args s = true from hpre))
  obtain ⟨g8, g9⟩ := and_e hg
  obtain ⟨w0, rfl⟩ : ∃ w0 : Value, args = #[w0] := by
    have hs : args.size = 1 := by simpa [Cond.value, given_1] using g8
    obtain ⟨L⟩ := args
    match L, hs with
    | [w0], _ => exact ⟨w0, rfl⟩
  have hw := fun d (hd : d ∈ tables_1) => atoms_spec (ws := Jvm.Cond.code x code maxLocals ret :: tables_1) hat d (List.mem_cons_of_mem _ hd)
  have hfit : Fit s := fun {y c} hc i hi => by
    obtain ⟨ha, rfl⟩ := Array.getElem?_eq_some_iff.mp hc
    have q := List.all_eq_true.mp ((Array.all_eq_true_iff_forall_mem.mp hF) _ (Array.getElem_mem ha)) i (List.mem_range.mpr hi)
    simpa [Array.getElem?_eq_getElem hi] using q
  obtain ⟨i0, ei0⟩ := isL_v g9
  obtain rfl : w0 = (.long i0) := Option.some.inj ei0
  obtain ⟨n, o, h1, h2, h3, _, L, rfl, ⟨rfl, N⟩, hq⟩ := rm0 l s _ hw tables_1 i0 s.heap s.heap.size (Nat.le_refl _) p e ha hc hk s m _ below hf ((Spec.applies_iff_loose hf).mp happ).1 ⟨rfl, State.Warmed39.refl s, rfl⟩ trivial
  refine ⟨n, _, h1, h2, h3, hpost _ _ _ _ _ _ ⟨Cond.after_iff.mpr rfl, Cond.after_iff.mpr (eq_i res_at (Term.int_eval (1)) rfl), trivial⟩ ⟨hq.1, hq.2.1, (hq.2.2.sift fun y hy => Or.inr (N y hy)).mono (by decide) (by decide)⟩⟩
theorem main_1_1 : Claimed_1_1 := comes_1 fun _ _ _ _ _ _ h hF => ⟨h.1, hF⟩
theorem main_1_2 : Claimed_1_2 := comes_1 fun _ _ _ _ _ _ h hF => ⟨h.2.1, hF⟩
end Jvm.Pilot.@@N@@
namespace Jvm.Pilot.@@N@@
open Jvm Jvm.ClassFile Sem Op Lib Jvm.Free Jvm.Stand Jvm.Pilot.@@N@@.Jvm.D
/-! MADE BY PROGRAM (witnessworld.py) out of the Statement's table words and the real class files: 10 classes; the members and pool entries that the words name. The judged class is class 1, her method 3. -/
namespace start1
open Jvm.ClassFile
def u (s : String) : CpInfo := .utf8 (stringToUtf16 s)
/-- a pool by its gaps: so many unusable entries, then the entry; so many at the end -/
def gap : Nat → List CpInfo → List CpInfo
  | 0, r => r
  | n + 1, r => .unusable :: gap n r
def poolList (es : List (Nat × CpInfo)) (last : Nat) : List CpInfo := es.foldr (fun e r => gap e.1 (e.2 :: r)) (gap last [])
def pool (es : List (Nat × CpInfo)) (last : Nat) : Array CpInfo := ⟨poolList es last⟩
def fileOf (pool : Array CpInfo) (this : Nat) (attrs : Array Attribute := #[]) (ms : Array MethodInfo := #[]) (fl : Nat := 33) (sup : Nat := 0) (ifs : Array Nat := #[]) (fds : Array FieldInfo := #[]) : ClassFile where
  minorVersion := 0
  majorVersion := 65
  constantPool := pool
  accessFlags := fl
  thisClass := this
  superClass := sup
  interfaces := ifs
  fields := fds
  methods := ms
  attributes := attrs
def plain (name : String) (sup : Option ClassId) : Class where
  name := name
  kind := .ordinary
  loader := none
  accessFlags := 33
  super := sup
  interfaces := #[]
  cf := none
  fields := #[]
  methods := #[]
  instanceTypes := #[]
  staticTypes := #[]
  resolved := #[]
  callSites := []
  init := .initialized
  statics := none
  mirror := none

def pool0 : Array CpInfo := pool [(5, u "<init>"), (0, u "()V"), (1, .class_ 10), (1, u "java/lang/Object")] 113

def k0m0 : Method := { name := "<init>", desc := "()V", sig := { parameters := [], returnType := none }, accessFlags := 1, code := none }
/-- java/lang/Object -/
def k0 : Class := { plain "java/lang/Object" none with
  accessFlags := 33
  interfaces := #[]
  cf := some (fileOf pool0 8 #[] #[{ accessFlags := 1, nameIndex := 5, descriptorIndex := 6, attributes := #[] }] 33 0 #[] #[])
  fields := #[]
  methods := #[k0m0]
  instanceTypes := #[]
  staticTypes := #[]
  resolved := Array.replicate 124 none
  statics := none }

def pool1 : Array CpInfo := pool [(2, .class_ 4), (1, u "java/lang/Object"), (0, u "<init>"), (0, u "()V"), (0, .long 2), (1, .methodref 10 11), (0, .class_ 12), (0, .nameAndType 13 14), (0, u "com/example/compact_set_filters/compactsetfilters/KeyHash"), (0, u "fmix"), (0, u "(J)J"), (0, .methodref 16 17), (0, .class_ 18), (0, .nameAndType 19 14), (0, u "com/example/compact_set_filters/compactsetfilters/KeyHashFmixPinLaw"), (0, u "unshift"), (0, .long 14181476777654086739), (1, .methodref 16 23), (0, .nameAndType 24 14), (0, u "inverse"), (0, .long 18397679294719823053), (3, u "law"), (0, u "(J)Z")] 3

def k1m0 : Method := { name := "<init>", desc := "()V", sig := { parameters := [], returnType := none }, accessFlags := 2, code := none }
def k1c1 : Code := { maxStack := 5, maxLocals := 2, code := method_2_code, exceptionTable := #[], attributes := #[] }
def k1m1 : Method := { name := "unshift", desc := "(J)J", sig := { parameters := [.long], returnType := some .long }, accessFlags := 10, code := some k1c1 }
def k1c2 : Code := { maxStack := 8, maxLocals := 4, code := method_3_code, exceptionTable := #[], attributes := #[] }
def k1m2 : Method := { name := "inverse", desc := "(J)J", sig := { parameters := [.long], returnType := some .long }, accessFlags := 10, code := some k1c2 }
def k1c3 : Code := { maxStack := 4, maxLocals := 4, code := code, exceptionTable := #[], attributes := #[] }
def k1m3 : Method := { name := "law", desc := "(J)Z", sig := { parameters := [.long], returnType := some .boolean }, accessFlags := 9, code := some k1c3 }
/-- com/example/compact_set_filters/compactsetfilters/KeyHashFmixPinLaw -/
def k1 : Class := { plain "com/example/compact_set_filters/compactsetfilters/KeyHashFmixPinLaw" (some 0) with
  accessFlags := 49
  interfaces := #[]
  cf := some (fileOf pool1 16 #[] #[{ accessFlags := 2, nameIndex := 5, descriptorIndex := 6, attributes := #[] }, { accessFlags := 10, nameIndex := 19, descriptorIndex := 14, attributes := #[] }, { accessFlags := 10, nameIndex := 24, descriptorIndex := 14, attributes := #[] }, { accessFlags := 9, nameIndex := 29, descriptorIndex := 30, attributes := #[] }] 49 2 #[] #[])
  fields := #[]
  methods := #[k1m0, k1m1, k1m2, k1m3]
  instanceTypes := #[]
  staticTypes := #[]
  resolved := Array.replicate 34 none
  statics := none }

def pool2 : Array CpInfo := pool [(2, .class_ 4), (1, u "java/lang/Object"), (0, u "<init>"), (0, u "()V"), (0, .class_ 8), (0, u "java/lang/Record")] 13

def k2m0 : Method := { name := "<init>", desc := "()V", sig := { parameters := [], returnType := none }, accessFlags := 4, code := none }
/-- java/lang/Record -/
def k2 : Class := { plain "java/lang/Record" (some 0) with
  accessFlags := 1057
  interfaces := #[]
  cf := some (fileOf pool2 7 #[] #[{ accessFlags := 4, nameIndex := 5, descriptorIndex := 6, attributes := #[] }] 1057 2 #[] #[])
  fields := #[]
  methods := #[k2m0]
  instanceTypes := #[]
  staticTypes := #[]
  resolved := Array.replicate 22 none
  statics := none }

def pool3 : Array CpInfo := pool [(2, .class_ 4), (1, u "java/lang/Record"), (3, .class_ 10), (1, u "com/example/compact_set_filters/compactsetfilters/KeyHash"), (0, u "h1"), (0, u "J"), (2, u "h2"), (20, u "LITTLE_ENDIAN_LONG"), (0, u "Ljava/lang/invoke/VarHandle;"), (9, u "(J)J"), (48, u "fmix"), (9, .long 18397679294719823053), (1, .long 14181476777654086739), (27, u "C1"), (1, u "C2"), (0, u "HASH_ALL_KEYS"), (0, u "I")] 35

def k3c0 : Code := { maxStack := 5, maxLocals := 2, code := prog_19_method_11_code, exceptionTable := #[], attributes := #[] }
def k3m0 : Method := { name := "fmix", desc := "(J)J", sig := { parameters := [.long], returnType := some .long }, accessFlags := 8, code := some k3c0 }
/-- com/example/compact_set_filters/compactsetfilters/KeyHash -/
def k3 : Class := { plain "com/example/compact_set_filters/compactsetfilters/KeyHash" (some 2) with
  accessFlags := 49
  interfaces := #[]
  cf := some (fileOf pool3 8 #[] #[{ accessFlags := 8, nameIndex := 96, descriptorIndex := 47, attributes := #[] }] 49 2 #[] #[{ accessFlags := 18, nameIndex := 11, descriptorIndex := 12, attributes := #[] }, { accessFlags := 18, nameIndex := 15, descriptorIndex := 12, attributes := #[] }, { accessFlags := 26, nameIndex := 136, descriptorIndex := 12, attributes := #[] }, { accessFlags := 26, nameIndex := 138, descriptorIndex := 12, attributes := #[] }, { accessFlags := 26, nameIndex := 139, descriptorIndex := 140, attributes := #[] }, { accessFlags := 26, nameIndex := 36, descriptorIndex := 37, attributes := #[] }])
  fields := #[{ name := "h1", type := .long, accessFlags := 18, slot := 0, constantValue := 0 }, { name := "h2", type := .long, accessFlags := 18, slot := 1, constantValue := 0 }, { name := "C1", type := .long, accessFlags := 26, slot := 0, constantValue := 0 }, { name := "C2", type := .long, accessFlags := 26, slot := 1, constantValue := 0 }, { name := "HASH_ALL_KEYS", type := .int, accessFlags := 26, slot := 2, constantValue := 0 }, { name := "LITTLE_ENDIAN_LONG", type := (.object "java/lang/invoke/VarHandle"), accessFlags := 26, slot := 3, constantValue := 0 }]
  methods := #[k3m0]
  instanceTypes := #[.long, .long]
  staticTypes := #[.long, .long, .int, (.object "java/lang/invoke/VarHandle")]
  resolved := Array.replicate 176 none
  statics := none }

def pool4 : Array CpInfo := pool [(1, u "java/lang/Cloneable"), (0, .class_ 1), (0, u "java/lang/Object"), (0, .class_ 3)] 3

/-- java/lang/Cloneable -/
def k4 : Class := { plain "java/lang/Cloneable" (some 0) with
  accessFlags := 1537
  interfaces := #[]
  cf := some (fileOf pool4 2 #[] #[] 1537 4 #[] #[])
  fields := #[]
  methods := #[]
  instanceTypes := #[]
  staticTypes := #[]
  resolved := Array.replicate 8 none
  statics := none }

def pool5 : Array CpInfo := pool [(1, u "java/io/Serializable"), (0, .class_ 1), (0, u "java/lang/Object"), (0, .class_ 3)] 3

/-- java/io/Serializable -/
def k5 : Class := { plain "java/io/Serializable" (some 0) with
  accessFlags := 1537
  interfaces := #[]
  cf := some (fileOf pool5 2 #[] #[] 1537 4 #[] #[])
  fields := #[]
  methods := #[]
  instanceTypes := #[]
  staticTypes := #[]
  resolved := Array.replicate 8 none
  statics := none }

/-- the primitive byte -/
def k6 : Class := { plain "byte" none with kind := .primitive 'B', accessFlags := 0x411 }
/-- [B -/
def k7 : Class := { plain "[B" (some 0) with kind := .array 6 .byte, interfaces := #[4, 5], accessFlags := 1041 }

/-- the primitive int -/
def k8 : Class := { plain "int" none with kind := .primitive 'I', accessFlags := 0x411 }
/-- [I -/
def k9 : Class := { plain "[I" (some 0) with kind := .array 8 .int, interfaces := #[4, 5], accessFlags := 1041 }

def heap : Heap := #[]
def classes : Array Class := #[k0, k1, k2, k3, k4, k5, k6, k7, k8, k9]
def interned : List (Array UInt16 × Addr) := []
def slotsUsed : Nat := 0
def theMethod : MethodId := ⟨1, 3⟩
def args0 : Array Value := #[.long 5]
def aboutOver (below : List Frame) : State where
  vm := { classes := classes, interned := interned.toArray }
  heap := heap
  slotsUsed := slotsUsed
  threads := #[{ frames := .invoking theMethod args0 :: below }]
def below0 : List Frame := [.native { method := ⟨0, 0⟩, args := #[] }]
def about1 : State := aboutOver below0
def p0 : Program := .bare "" "" ""
def e0 : Env := launch0.env 0 0 0
theorem w_frames : about1.frames = Frame.invoking theMethod args0 :: below0 := rfl
set_option maxRecDepth 65536 in
theorem w_args : argsFit about1.vm theMethod args0 = true := by decide +kernel
set_option maxRecDepth 65536 in
theorem w_heap : heapFits about1 = true := by decide +kernel
set_option maxRecDepth 65536 in
theorem w_runnable : about1.curStatus? = some .runnable := by decide +kernel
set_option maxRecDepth 65536 in
theorem w_alone : about1.alone = true := by decide +kernel
set_option maxRecDepth 65536 in
theorem w_named : about1.methodNamed? x = some theMethod := by decide +kernel
set_option maxRecDepth 65536 in
theorem w_hears : about1.hears theMethod below0 = true := by decide +kernel
set_option maxRecDepth 65536 in
theorem w_ripe : about1.ripe theMethod args0 below0 = true := by decide +kernel
theorem w_running : about1.status = .running := rfl
set_option maxRecDepth 65536 in
theorem w_room : about1.hasRoom e0.platform room_1 = true :=
  launch0.hasRoom_least _ room_1 (by decide +kernel) (by decide +kernel) (by decide +kernel) (by decide +kernel) (by decide +kernel) (by decide +kernel)
theorem allAtoms_all (ts : List Jvm.Cond) (a : Array Jvm.Value) (st : Jvm.State) : (allAtoms ts).before a st = ts.all (fun c => c.before a st) := by
  induction ts with
  | nil => rfl
  | cons c t ih =>
    show (Jvm.Cond.and c (allAtoms t)).before a st = _
    rw [Jvm.Cond.before_and, ih, List.all_cons]
def words1 : List Jvm.Cond := Jvm.Cond.code x code maxLocals ret :: tables_1
/-- a 'code' word, met by the world's own term for the bytes: nothing is compared byte by byte -/
theorem code_word {y : MethodName} {bytes : ByteArray} {mx : Nat} {rt : Option FieldType} {a : Array Value} {s : State} {m : MethodId} {meth : Method} {c : Code} (h1 : s.methodNamed? y = some m) (h2 : s.vm.method? m = some meth) (h3 : meth.code = some c) (h4 : c.code = bytes)
    (h5 : (c.maxLocals == mx && c.exceptionTable.isEmpty && decide (c.maxStack ≤ mostOperands) && decide (meth.sig.returnType = rt) && !meth.locks && decide (parseMethodDescriptor y.desc = some meth.sig)) = true) : (Jvm.Cond.code y bytes mx rt).before a s = true := by
  simp only [Bool.and_eq_true, beq_iff_eq, Bool.not_eq_true', decide_eq_true_eq] at h5
  obtain ⟨⟨⟨⟨⟨g1, g2⟩, g3⟩, g4⟩, g5⟩, g6⟩ := h5
  simp [Cond.before, Cond.holds, Cond.value, h1, h2, h3, h4, g1, g2, g3, g4, g5, g6]
def isCode : Jvm.Cond → Bool
  | .code _ _ _ _ => true
  | _ => false
theorem all_split {L : List Jvm.Cond} {P : Jvm.Cond → Bool} (h1 : L.all (fun c => isCode c || P c) = true) (h2 : ∀ c ∈ L.filter isCode, P c = true) : L.all P = true := by
  refine List.all_eq_true.mpr fun c hc => ?_
  have h := List.all_eq_true.mp h1 c hc
  rcases Bool.eq_false_or_eq_true (isCode c) with hi | hi
  · exact h2 c (List.mem_filter.mpr ⟨hc, hi⟩)
  · simpa [hi] using h
set_option maxRecDepth 65536 in
theorem w_c0 : (Jvm.Cond.code x code maxLocals ret).before args0 about1 = true := code_word (m := ⟨1, 3⟩) (meth := k1m3) (c := k1c3) (by decide +kernel) rfl rfl rfl (by decide +kernel)
set_option maxRecDepth 65536 in
theorem w_c1 : (Jvm.Cond.code ({ cls := "com/example/compact_set_filters/compactsetfilters/KeyHash", name := "fmix", desc := "(J)J" } : Jvm.MethodName) prog_19_method_11_code (2 : Nat) (Option.some Jvm.ClassFile.FieldType.long)).before args0 about1 = true := code_word (m := ⟨3, 0⟩) (meth := k3m0) (c := k3c0) (by decide +kernel) rfl rfl rfl (by decide +kernel)
set_option maxRecDepth 65536 in
theorem w_c2 : (Jvm.Cond.code ({ cls := "com/example/compact_set_filters/compactsetfilters/KeyHashFmixPinLaw", name := "unshift", desc := "(J)J" } : Jvm.MethodName) method_2_code (2 : Nat) (Option.some Jvm.ClassFile.FieldType.long)).before args0 about1 = true := code_word (m := ⟨1, 1⟩) (meth := k1m1) (c := k1c1) (by decide +kernel) rfl rfl rfl (by decide +kernel)
set_option maxRecDepth 65536 in
theorem w_c3 : (Jvm.Cond.code ({ cls := "com/example/compact_set_filters/compactsetfilters/KeyHashFmixPinLaw", name := "inverse", desc := "(J)J" } : Jvm.MethodName) method_3_code (4 : Nat) (Option.some Jvm.ClassFile.FieldType.long)).before args0 about1 = true := code_word (m := ⟨1, 2⟩) (meth := k1m2) (c := k1c2) (by decide +kernel) rfl rfl rfl (by decide +kernel)
def codes1 : List Jvm.Cond := [Jvm.Cond.code x code maxLocals ret, Jvm.Cond.code ({ cls := "com/example/compact_set_filters/compactsetfilters/KeyHash", name := "fmix", desc := "(J)J" } : Jvm.MethodName) prog_19_method_11_code (2 : Nat) (Option.some Jvm.ClassFile.FieldType.long), Jvm.Cond.code ({ cls := "com/example/compact_set_filters/compactsetfilters/KeyHashFmixPinLaw", name := "unshift", desc := "(J)J" } : Jvm.MethodName) method_2_code (2 : Nat) (Option.some Jvm.ClassFile.FieldType.long), Jvm.Cond.code ({ cls := "com/example/compact_set_filters/compactsetfilters/KeyHashFmixPinLaw", name := "inverse", desc := "(J)J" } : Jvm.MethodName) method_3_code (4 : Nat) (Option.some Jvm.ClassFile.FieldType.long)]
set_option maxRecDepth 65536 in
theorem codes_eq : words1.filter isCode = codes1 := rfl
theorem w_codes : ∀ c ∈ words1.filter isCode, c.before args0 about1 = true := by
  rw [codes_eq]
  intro c hc
  simp only [codes1, List.mem_cons, List.not_mem_nil, or_false] at hc
  rcases hc with rfl | rfl | rfl | rfl
  · exact w_c0
  · exact w_c1
  · exact w_c2
  · exact w_c3
set_option maxRecDepth 65536 in
theorem w_t1 : words1.all (fun c => isCode c || c.before args0 about1) = true := by decide +kernel
theorem w_tables : (allAtoms (Jvm.Cond.code x code maxLocals ret :: tables_1)).before args0 about1 = true := by
  rw [allAtoms_all]
  show words1.all (fun c => c.before args0 about1) = true
  refine all_split ?_ w_codes
  rw [w_t1]
set_option maxRecDepth 65536 in
theorem w_case : (Jvm.Cond.and given_1 narrow_1).before args0 about1 = true := by decide +kernel
theorem w_applies : (headSpec (Jvm.Cond.code x code maxLocals ret :: tables_1) room_1).applies x e0.platform about1 = true :=
  (Spec.applies_iff w_frames).mpr ⟨w_running, w_runnable, w_alone, w_named, w_hears, w_ripe, w_room, w_tables⟩
theorem atStart : AtStart classFile x code maxLocals ret World_1 tables_1 room_1 Calls_1 rest_1 Pre_1 launch0 p0 e0 about1 theMethod args0 below0 :=
  ⟨lists_1, trivial, launch0.admits_env _ _ _, launch0.least_env, fairChoices_fair.cas, fairChoices_fair.clock, w_frames, w_args, w_heap, w_applies, trivial, trivial, w_case⟩
end start1
theorem witness_1 : WitnessClaimed_1 := ⟨start1.p0, start1.e0, start1.about1, start1.theMethod, start1.args0, start1.below0, start1.atStart⟩
end Jvm.Pilot.@@N@@
