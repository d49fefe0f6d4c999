import JvmDerived
import JvmDerived.Pilot.@@N@@Statement
import JvmDerived.Pilot.@@N@@Code
set_option linter.unusedVariables false
set_option linter.unusedSimpArgs false
namespace Jvm.RoadKit
open Sem ClassFile Op Lib Jvm.Stand Jvm.Free Jvm.LawKit
section New
variable {p : Program} {l : Launch} {e : Env} {R : Room} {s : State} {m : MethodId} {args : Array Value} {below : List Frame} {meth : Method} {c : Code} {T : State} {locs : List Loc} {cells slots : Nat}
theorem retI (X : Stand p l e R s m args below meth c T locs cells slots) (hx : p.tables.exec = Jvm.exec) {pc : Nat} {Ls : Array Slot} {z : Int32} {rest : List Value} (hret : meth.sig.returnType = some .int) (hd : decode c.code pc = .ok (.ireturn, 1)) {fs : List Frame}
    (hl : ∀ (f : JFrame) (acts : List Action), f.method = m → f.locked = none → f.entered = [] → (doReturn e (T.setTop f) acts (some (.int z))).1 = T.setFrames fs) : Steps p.tables e below (T.setTop (mkF m pc Ls (.int z :: rest))) (T.setFrames fs) := by
  have hm' : T.vm.method? m = some meth := X.method'
  have hn : narrow .int (.int z) = .int z := rfl
  show Steps p.tables e below (T.setTop { method := m, pc := pc, locals := Ls, stack := _ :: rest, locked := none }) _
  jvm_step X.here [X.here.top, hx, hd, hm', hret, hn]
  first | (intro acts; rw [hl _ acts rfl rfl rfl]) | rw [hl _ _ rfl rfl rfl]
  exact Steps.refl _
end New
end Jvm.RoadKit
namespace Jvm.Pilot.@@N@@
open Jvm Jvm.ClassFile Sem Op Lib Jvm.Free Jvm.Stand Jvm.LawKit Jvm.RoadKit Bundle Jvm.Pilot.@@N@@.Jvm.D
theorem own_retJ {p : Program} {l : Launch} {e : Env} {R : Room} {s : State} {m : MethodId} {args : Array Value} {below : List Frame} {meth : Method} {c : Code} {T : State} {locs : List Loc} {cells slots : Nat} (X : Stand p l e R s m args below meth c T locs cells slots) (hx : p.tables.exec = Jvm.exec) {pc : Nat} {Ls : Array Slot} {z : Int64} {rest : List Value} (hret : meth.sig.returnType = some .long) (hd : decode c.code pc = .ok (.lreturn, 1)) {fs : List Frame}
    (hl : ∀ (f : JFrame) (acts : List Action), f.method = m → f.locked = none → f.entered = [] → (doReturn e (T.setTop f) acts (some (.long z))).1 = T.setFrames fs) : Steps p.tables e below (T.setTop (mkF m pc Ls (.long z :: rest))) (T.setFrames fs) := by
  have hm' : T.vm.method? m = some meth := X.method'
  have hn : narrow .long (.long z) = .long z := rfl
  show Steps p.tables e below (T.setTop { method := m, pc := pc, locals := Ls, stack := _ :: rest, locked := none }) _
  jvm_step X.here [X.here.top, hx, hd, hm', hret, hn]
  first | (intro acts; rw [hl _ acts rfl rfl rfl]) | rw [hl _ _ rfl rfl rfl]
  exact Steps.refl _
def own_mic (q : Int64) : Int64 := (q / (1000 : Int64)) + (if (lcmpW (q - (q / (1000 : Int64)) * (1000 : Int64)) (500 : Int64)) < (0 : Int32) then (0 : Int32).toInt64 else (1 : Int32).toInt64)
theorem own_b (x : Int64) : 0 ≤ (x &&& (9223372036854775807 : Int64)).toInt := by
  rw [c_maskL x (9223372036854775807 : Int64) 63 (by decide) (by decide)]; omega
theorem own_m (n : Int64) (h : 0 ≤ n.toInt) : 0 ≤ (own_mic n).toInt ∧ (own_mic n).toInt ≤ 9223372036854776 ∧ -500 ≤ n.toInt - 1000 * (own_mic n).toInt ∧ n.toInt - 1000 * (own_mic n).toInt < 500 := by
  have r := rng64 n
  have d1 := (c_ldiv n 1000 1000 (by decide) (by decide)).1 h
  have d2 := (c_lrem n 1000 1000 (by decide)).1 h
  have e5 : (500 : Int64).toInt = 500 := by decide
  have z0 : ((0 : Int32).toInt64).toInt = 0 := by decide
  have z1 : ((1 : Int32).toInt64).toInt = 1 := by decide
  unfold own_mic
  by_cases hq : (lcmpW (n - (n / (1000 : Int64)) * (1000 : Int64)) (500 : Int64)) < (0 : Int32)
  · rw [if_pos hq]
    rw [lw_lt, Int64.lt_iff_toInt_lt, d2, e5] at hq
    have a := c_ladd (n / 1000) ((0 : Int32).toInt64)
    have b := rng64 (n / 1000 + (0 : Int32).toInt64)
    rw [z0, d1] at a
    omega
  · rw [if_neg hq]
    rw [lw_lt, Int64.lt_iff_toInt_lt, d2, e5] at hq
    have a := c_ladd (n / 1000) ((1 : Int32).toInt64)
    have b := rng64 (n / 1000 + (1 : Int32).toInt64)
    rw [z1, d1] at a
    omega
theorem own_d (n : Int64) (h : 0 ≤ n.toInt) : -500 ≤ (n - ((1000 : Int64) * (own_mic n))).toInt ∧ (n - ((1000 : Int64) * (own_mic n))).toInt < 500 := by
  obtain ⟨m1, m2, m3, m4⟩ := own_m n h
  have a := c_lmul 1000 (own_mic n)
  have b := c_lsub n (1000 * own_mic n)
  have c := rng64 (n - 1000 * own_mic n)
  have r := rng64 n
  rw [show (1000 : Int64).toInt = 1000 by decide] at a
  omega
theorem own_1 (n : Int64) (h : 0 ≤ n.toInt) : ¬ ((lcmpW (own_mic n) (0 : Int64)) < (0 : Int32)) := by
  rw [lw_lt, Int64.lt_iff_toInt_lt, show (0 : Int64).toInt = 0 by decide]
  have := own_m n h
  omega
theorem own_2 (n : Int64) (h : 0 ≤ n.toInt) : ¬ ((0 : Int32) < (lcmpW (own_mic n) (9223372036854776 : Int64))) := by
  rw [lw_gt, Int64.lt_iff_toInt_lt, show (9223372036854776 : Int64).toInt = 9223372036854776 by decide]
  have := own_m n h
  omega
theorem own_3 (n : Int64) (h : 0 ≤ n.toInt) : ¬ ((lcmpW (n - ((1000 : Int64) * (own_mic n))) (-500 : Int64)) < (0 : Int32)) := by
  rw [lw_lt, Int64.lt_iff_toInt_lt, show (-500 : Int64).toInt = -500 by decide]
  have := own_d n h
  omega
theorem own_4 (n : Int64) (h : 0 ≤ n.toInt) : (lcmpW (n - ((1000 : Int64) * (own_mic n))) (500 : Int64)) < (0 : Int32) := by
  rw [lw_lt, Int64.lt_iff_toInt_lt, show (500 : Int64).toInt = 500 by decide]
  have := own_d n h
  omega
theorem d1_0 : decode prog_78_method_9_code 0 = .ok (.lload_n 0, 1) := by decide +kernel
theorem d1_1 : decode prog_78_method_9_code 1 = .ok (.ldc2_w 32, 3) := by decide +kernel
theorem d1_4 : decode prog_78_method_9_code 4 = .ok (.ldiv, 1) := by decide +kernel
theorem d1_5 : decode prog_78_method_9_code 5 = .ok (.lload_n 0, 1) := by decide +kernel
theorem d1_6 : decode prog_78_method_9_code 6 = .ok (.ldc2_w 32, 3) := by decide +kernel
theorem d1_9 : decode prog_78_method_9_code 9 = .ok (.lrem, 1) := by decide +kernel
theorem d1_10 : decode prog_78_method_9_code 10 = .ok (.ldc2_w 34, 3) := by decide +kernel
theorem d1_13 : decode prog_78_method_9_code 13 = .ok (.lcmp, 1) := by decide +kernel
theorem d1_14 : decode prog_78_method_9_code 14 = .ok (.ifCond .lt 7, 3) := by decide +kernel
theorem d1_21 : decode prog_78_method_9_code 21 = .ok (.iconst 0, 1) := by decide +kernel
theorem d1_22 : decode prog_78_method_9_code 22 = .ok (.i2l, 1) := by decide +kernel
theorem d1_23 : decode prog_78_method_9_code 23 = .ok (.ladd, 1) := by decide +kernel
theorem d1_24 : decode prog_78_method_9_code 24 = .ok (.lreturn, 1) := by decide +kernel
theorem pn_1 : plainName "com/example/tidegate/tidegate/cli/ReplayReport" = true := by first | (simp [plainName, overriddenIn]; done) | decide +kernel
theorem ef_1 (m : MethodId) (x0 : Int64) : entryFrame m #[(.long x0)] 2 = mkF m 0 #[.val (.long x0), .second] [] := by first | (simp [entryFrame, mkF, argsToLocals, Value.category]; done) | rfl
def Q1 (Z : State) (q1 : Int64) (h0 : Heap) (n0 : Nat) (v : Option Value) (h : Heap) (L : List Loc) : Prop := v = some (.long (own_mic q1)) ∧ Fr n0 L ∧ h = h0
set_option maxRecDepth 65536 in
set_option maxHeartbeats 40000000 in
theorem rm1t (l : Launch) (Z : State) (a0 : Array Value) (hw : ∀ d ∈ tables_1, d.before a0 Z = true) (ws : List Jvm.Cond) (q1 : Int64) (h0 : Heap) (n0 : Nat) (Z0 : n0 ≤ h0.size) (hc14 : (lcmpW (q1 - (q1 / (1000 : Int64)) * (1000 : Int64)) (500 : Int64)) < (0 : Int32)) :
    MetFree l (⟨"com/example/tidegate/tidegate/cli/ReplayReport", "micros", "(J)J"⟩ : MethodName) (head1 (Jvm.Cond.code (⟨"com/example/tidegate/tidegate/cli/ReplayReport", "micros", "(J)J"⟩ : MethodName) prog_78_method_9_code 2 (some .long) :: ws) ({ frames := 0, cells := 0, slots := 0, locals := 0 } : Room)) (fun a U => a = #[(.long q1)] ∧ Z.Warmed39 U.vm ∧ U.heap = h0) (fun _ _ _ _ _ => True) (fun _ U o U' => ∃ v L, o = .returned v ∧ Q1 Z q1 h0 n0 v U'.heap L ∧ FrameEnd U o U' L ({ frames := 0, cells := 0, slots := 0, locals := 0 } : Room).cells ({ frames := 0, cells := 0, slots := 0, locals := 0 } : Room).slots) := by
  refine MetFree.of_bodySF (plainFor_of_name pn_1) hisR ?_
  intro p e s m args below meth c s₁ Bd hml0 hP hK
  obtain ⟨rfl, hZ, hh⟩ := hP
  have hx := Bd.exec
  have hby := Bd.bytes
  have hml : c.maxLocals = 2 := hml0
  have hown : s.vm.findClass "com/example/tidegate/tidegate/cli/ReplayReport" = some m.cls := findClass_of_methodNamed Bd.named
  have hnm := (name_of_methodNamed Bd.named Bd.method).1
  have X0 : Stand p l e ({ frames := 0, cells := 0, slots := 0, locals := 0 } : Room) s m #[(.long q1)] below meth c s₁ [] 0 0 := Stand.of_body Bd
  have e0 : s₁.heap = h0 := by rw [← hh, Bd.state]; rfl
  have N0 := Fr.nil n0
  have pre0 : ∀ t, Steps p.tables e below (s₁.setTop (mkF m 0 #[.val (.long q1), .second] [])) t → Steps p.tables e below (s₁.setTop (entryFrame m #[(.long q1)] 2)) t := fun t k => castTop (ef_1 m q1) k
  -- 3. LAWS

  obtain ⟨fs, hr, hrun, hended, hW, hsame⟩ := X0.leave (v := some (.long ((q1 / (1000 : Int64)) + ((0 : Int32).toInt64)))) (fun h => by rw [Bd.returns] at h; cases h)
  refine ⟨_, _, pre0 _ ?_, hrun, hended, _, _, rfl, ?_, ⟨_, rfl⟩, hW, hsame.mono (by decide) (by decide)⟩
  -- 4. STEPS
  · show Steps p.tables e below (s₁.setTop (mkF m 0 #[.val (.long q1), .second] [])) _
    refine XS.lloadN X0.here hx rfl (hb hby d1_0) rfl ?_
    show Steps p.tables e below (s₁.setTop (mkF m 1 #[.val (.long q1), .second] [(.long q1)])) _
    refine X0.ldc2Long hx hown (mvT hZ (hw _ (List.mem_of_getElem? (i := 5) rfl))) (g := (mkF m 1 #[.val (.long q1), .second] [(.long q1)])) rfl (hb hby d1_1) _ ?_
    show Steps p.tables e below (s₁.setTop (mkF m 4 #[.val (.long q1), .second] [(.long (1000 : Int64)), (.long q1)])) _
    refine XS.ldiv X0.here hx rfl (hb hby d1_4) rfl (by decide) ?_
    show Steps p.tables e below (s₁.setTop (mkF m 5 #[.val (.long q1), .second] [(.long (q1 / (1000 : Int64)))])) _
    refine XS.lloadN X0.here hx rfl (hb hby d1_5) rfl ?_
    show Steps p.tables e below (s₁.setTop (mkF m 6 #[.val (.long q1), .second] [(.long q1), (.long (q1 / (1000 : Int64)))])) _
    refine X0.ldc2Long hx hown (mvT hZ (hw _ (List.mem_of_getElem? (i := 5) rfl))) (g := (mkF m 6 #[.val (.long q1), .second] [(.long q1), (.long (q1 / (1000 : Int64)))])) rfl (hb hby d1_6) _ ?_
    show Steps p.tables e below (s₁.setTop (mkF m 9 #[.val (.long q1), .second] [(.long (1000 : Int64)), (.long q1), (.long (q1 / (1000 : Int64)))])) _
    refine XS.lrem X0.here hx rfl (hb hby d1_9) rfl (by decide) ?_
    show Steps p.tables e below (s₁.setTop (mkF m 10 #[.val (.long q1), .second] [(.long (q1 - (q1 / (1000 : Int64)) * (1000 : Int64))), (.long (q1 / (1000 : Int64)))])) _
    refine X0.ldc2Long hx hown (mvT hZ (hw _ (List.mem_of_getElem? (i := 6) rfl))) (g := (mkF m 10 #[.val (.long q1), .second] [(.long (q1 - (q1 / (1000 : Int64)) * (1000 : Int64))), (.long (q1 / (1000 : Int64)))])) rfl (hb hby d1_10) _ ?_
    show Steps p.tables e below (s₁.setTop (mkF m 13 #[.val (.long q1), .second] [(.long (500 : Int64)), (.long (q1 - (q1 / (1000 : Int64)) * (1000 : Int64))), (.long (q1 / (1000 : Int64)))])) _
    refine XS.lcmp X0.here hx rfl (hb hby d1_13) rfl ?_
    show Steps p.tables e below (s₁.setTop (mkF m 14 #[.val (.long q1), .second] [(.int (lcmpW (q1 - (q1 / (1000 : Int64)) * (1000 : Int64)) (500 : Int64))), (.long (q1 / (1000 : Int64)))])) _
    refine XS.ifYes X0.here hx rfl (pc0 := 14) (pc' := 21) rfl (hb hby d1_14) rfl ((if0 _ _).trans (tlt hc14).1) (by decide) (by decide) ?_
    show Steps p.tables e below (s₁.setTop (mkF m 21 #[.val (.long q1), .second] [(.long (q1 / (1000 : Int64)))])) _
    refine XS.iconst X0.here hx rfl (hb hby d1_21) ?_
    show Steps p.tables e below (s₁.setTop (mkF m 22 #[.val (.long q1), .second] [(.int (0 : Int32)), (.long (q1 / (1000 : Int64)))])) _
    refine XS.i2l X0.here hx rfl (hb hby d1_22) rfl ?_
    show Steps p.tables e below (s₁.setTop (mkF m 23 #[.val (.long q1), .second] [(.long ((0 : Int32).toInt64)), (.long (q1 / (1000 : Int64)))])) _
    refine XS.ladd X0.here hx rfl (hb hby d1_23) rfl ?_
    show Steps p.tables e below (s₁.setTop (mkF m 24 #[.val (.long q1), .second] [(.long ((q1 / (1000 : Int64)) + ((0 : Int32).toInt64)))])) _
    exact own_retJ X0 hx Bd.returns (hb hby d1_24) hr
  · show Q1 Z q1 h0 n0 _ s₁.heap _
    rw [e0]
    exact ⟨by unfold own_mic; first | rw [if_pos hc14] | rw [if_neg hc14], N0, rfl⟩
theorem d1_17 : decode prog_78_method_9_code 17 = .ok (.iconst 1, 1) := by decide +kernel
theorem d1_18 : decode prog_78_method_9_code 18 = .ok (.goto 4, 3) := by decide +kernel
set_option maxRecDepth 65536 in
set_option maxHeartbeats 40000000 in
theorem rm1f (l : Launch) (Z : State) (a0 : Array Value) (hw : ∀ d ∈ tables_1, d.before a0 Z = true) (ws : List Jvm.Cond) (q1 : Int64) (h0 : Heap) (n0 : Nat) (Z0 : n0 ≤ h0.size) (hc14 : ¬ ((lcmpW (q1 - (q1 / (1000 : Int64)) * (1000 : Int64)) (500 : Int64)) < (0 : Int32))) :
    MetFree l (⟨"com/example/tidegate/tidegate/cli/ReplayReport", "micros", "(J)J"⟩ : MethodName) (head1 (Jvm.Cond.code (⟨"com/example/tidegate/tidegate/cli/ReplayReport", "micros", "(J)J"⟩ : MethodName) prog_78_method_9_code 2 (some .long) :: ws) ({ frames := 0, cells := 0, slots := 0, locals := 0 } : Room)) (fun a U => a = #[(.long q1)] ∧ Z.Warmed39 U.vm ∧ U.heap = h0) (fun _ _ _ _ _ => True) (fun _ U o U' => ∃ v L, o = .returned v ∧ Q1 Z q1 h0 n0 v U'.heap L ∧ FrameEnd U o U' L ({ frames := 0, cells := 0, slots := 0, locals := 0 } : Room).cells ({ frames := 0, cells := 0, slots := 0, locals := 0 } : Room).slots) := by
  refine MetFree.of_bodySF (plainFor_of_name pn_1) hisR ?_
  intro p e s m args below meth c s₁ Bd hml0 hP hK
  obtain ⟨rfl, hZ, hh⟩ := hP
  have hx := Bd.exec
  have hby := Bd.bytes
  have hml : c.maxLocals = 2 := hml0
  have hown : s.vm.findClass "com/example/tidegate/tidegate/cli/ReplayReport" = some m.cls := findClass_of_methodNamed Bd.named
  have hnm := (name_of_methodNamed Bd.named Bd.method).1
  have X0 : Stand p l e ({ frames := 0, cells := 0, slots := 0, locals := 0 } : Room) s m #[(.long q1)] below meth c s₁ [] 0 0 := Stand.of_body Bd
  have e0 : s₁.heap = h0 := by rw [← hh, Bd.state]; rfl
  have N0 := Fr.nil n0
  have pre0 : ∀ t, Steps p.tables e below (s₁.setTop (mkF m 0 #[.val (.long q1), .second] [])) t → Steps p.tables e below (s₁.setTop (entryFrame m #[(.long q1)] 2)) t := fun t k => castTop (ef_1 m q1) k
  -- 3. LAWS

  obtain ⟨fs, hr, hrun, hended, hW, hsame⟩ := X0.leave (v := some (.long ((q1 / (1000 : Int64)) + ((1 : Int32).toInt64)))) (fun h => by rw [Bd.returns] at h; cases h)
  refine ⟨_, _, pre0 _ ?_, hrun, hended, _, _, rfl, ?_, ⟨_, rfl⟩, hW, hsame.mono (by decide) (by decide)⟩
  -- 4. STEPS
  · show Steps p.tables e below (s₁.setTop (mkF m 0 #[.val (.long q1), .second] [])) _
    refine XS.lloadN X0.here hx rfl (hb hby d1_0) rfl ?_
    show Steps p.tables e below (s₁.setTop (mkF m 1 #[.val (.long q1), .second] [(.long q1)])) _
    refine X0.ldc2Long hx hown (mvT hZ (hw _ (List.mem_of_getElem? (i := 5) rfl))) (g := (mkF m 1 #[.val (.long q1), .second] [(.long q1)])) rfl (hb hby d1_1) _ ?_
    show Steps p.tables e below (s₁.setTop (mkF m 4 #[.val (.long q1), .second] [(.long (1000 : Int64)), (.long q1)])) _
    refine XS.ldiv X0.here hx rfl (hb hby d1_4) rfl (by decide) ?_
    show Steps p.tables e below (s₁.setTop (mkF m 5 #[.val (.long q1), .second] [(.long (q1 / (1000 : Int64)))])) _
    refine XS.lloadN X0.here hx rfl (hb hby d1_5) rfl ?_
    show Steps p.tables e below (s₁.setTop (mkF m 6 #[.val (.long q1), .second] [(.long q1), (.long (q1 / (1000 : Int64)))])) _
    refine X0.ldc2Long hx hown (mvT hZ (hw _ (List.mem_of_getElem? (i := 5) rfl))) (g := (mkF m 6 #[.val (.long q1), .second] [(.long q1), (.long (q1 / (1000 : Int64)))])) rfl (hb hby d1_6) _ ?_
    show Steps p.tables e below (s₁.setTop (mkF m 9 #[.val (.long q1), .second] [(.long (1000 : Int64)), (.long q1), (.long (q1 / (1000 : Int64)))])) _
    refine XS.lrem X0.here hx rfl (hb hby d1_9) rfl (by decide) ?_
    show Steps p.tables e below (s₁.setTop (mkF m 10 #[.val (.long q1), .second] [(.long (q1 - (q1 / (1000 : Int64)) * (1000 : Int64))), (.long (q1 / (1000 : Int64)))])) _
    refine X0.ldc2Long hx hown (mvT hZ (hw _ (List.mem_of_getElem? (i := 6) rfl))) (g := (mkF m 10 #[.val (.long q1), .second] [(.long (q1 - (q1 / (1000 : Int64)) * (1000 : Int64))), (.long (q1 / (1000 : Int64)))])) rfl (hb hby d1_10) _ ?_
    show Steps p.tables e below (s₁.setTop (mkF m 13 #[.val (.long q1), .second] [(.long (500 : Int64)), (.long (q1 - (q1 / (1000 : Int64)) * (1000 : Int64))), (.long (q1 / (1000 : Int64)))])) _
    refine XS.lcmp X0.here hx rfl (hb hby d1_13) rfl ?_
    show Steps p.tables e below (s₁.setTop (mkF m 14 #[.val (.long q1), .second] [(.int (lcmpW (q1 - (q1 / (1000 : Int64)) * (1000 : Int64)) (500 : Int64))), (.long (q1 / (1000 : Int64)))])) _
    refine XS.ifNo X0.here hx rfl (hb hby d1_14) rfl ((if0 _ _).trans (flt hc14).1) ?_
    show Steps p.tables e below (s₁.setTop (mkF m 17 #[.val (.long q1), .second] [(.long (q1 / (1000 : Int64)))])) _
    refine XS.iconst X0.here hx rfl (hb hby d1_17) ?_
    show Steps p.tables e below (s₁.setTop (mkF m 18 #[.val (.long q1), .second] [(.int (1 : Int32)), (.long (q1 / (1000 : Int64)))])) _
    refine XS.goto X0.here hx rfl (pc0 := 18) (pc' := 22) rfl (hb hby d1_18) (by decide) (by decide) ?_
    show Steps p.tables e below (s₁.setTop (mkF m 22 #[.val (.long q1), .second] [(.int (1 : Int32)), (.long (q1 / (1000 : Int64)))])) _
    refine XS.i2l X0.here hx rfl (hb hby d1_22) rfl ?_
    show Steps p.tables e below (s₁.setTop (mkF m 23 #[.val (.long q1), .second] [(.long ((1 : Int32).toInt64)), (.long (q1 / (1000 : Int64)))])) _
    refine XS.ladd X0.here hx rfl (hb hby d1_23) rfl ?_
    show Steps p.tables e below (s₁.setTop (mkF m 24 #[.val (.long q1), .second] [(.long ((q1 / (1000 : Int64)) + ((1 : Int32).toInt64)))])) _
    exact own_retJ X0 hx Bd.returns (hb hby d1_24) hr
  · show Q1 Z q1 h0 n0 _ s₁.heap _
    rw [e0]
    exact ⟨by unfold own_mic; first | rw [if_pos hc14] | rw [if_neg hc14], N0, rfl⟩
theorem rm1 (l : Launch) (Z : State) (a0 : Array Value) (hw : ∀ d ∈ tables_1, d.before a0 Z = true) (ws : List Jvm.Cond) (q1 : Int64) (h0 : Heap) (n0 : Nat) (Z0 : n0 ≤ h0.size) : MetFree l (⟨"com/example/tidegate/tidegate/cli/ReplayReport", "micros", "(J)J"⟩ : MethodName) (head1 (Jvm.Cond.code (⟨"com/example/tidegate/tidegate/cli/ReplayReport", "micros", "(J)J"⟩ : MethodName) prog_78_method_9_code 2 (some .long) :: ws) ({ frames := 0, cells := 0, slots := 0, locals := 0 } : Room)) (fun a U => a = #[(.long q1)] ∧ Z.Warmed39 U.vm ∧ U.heap = h0) (fun _ _ _ _ _ => True) (fun _ U o U' => ∃ v L, o = .returned v ∧ Q1 Z q1 h0 n0 v U'.heap L ∧ FrameEnd U o U' L ({ frames := 0, cells := 0, slots := 0, locals := 0 } : Room).cells ({ frames := 0, cells := 0, slots := 0, locals := 0 } : Room).slots) := by
  by_cases h : (lcmpW (q1 - (q1 / (1000 : Int64)) * (1000 : Int64)) (500 : Int64)) < (0 : Int32)
  · exact rm1t l Z a0 hw ws q1 h0 n0 Z0 h
  · exact rm1f l Z a0 hw ws q1 h0 n0 Z0 h
theorem pn_0 : plainName "com/example/tidegate/tidegate/cli/ReplayReportMicrosPinLaw" = true := by first | (simp [plainName, overriddenIn]; done) | decide +kernel
theorem pd_0_0 : parseMethodDescriptor "(J)J" = some ⟨[.long], some .long⟩ := by decide +kernel
theorem ef_0 (m : MethodId) (x0 : Int64) : entryFrame m #[(.long x0)] maxLocals = mkF m 0 #[.val (.long x0), .second, .unset, .unset, .unset, .unset, .unset, .unset] [] := by first | (simp [entryFrame, mkF, argsToLocals, Value.category, maxLocals]; done) | rfl
def Q0 (Z : State) (q1 : Int64) (h0 : Heap) (n0 : Nat) (v : Option Value) (h : Heap) (L : List Loc) : Prop := v = some (.int (1 : Int32)) ∧ Fr n0 L
set_option maxRecDepth 65536 in
set_option maxHeartbeats 40000000 in
theorem rm0 (l : Launch) (Z : State) (a0 : Array Value) (hw : ∀ d ∈ tables_1, d.before a0 Z = true) (ws : List Jvm.Cond) (q1 : Int64) (h0 : Heap) (n0 : Nat) (Z0 : n0 ≤ h0.size) :
    MetFree l x (head1 (Jvm.Cond.code x code maxLocals ret :: ws) room_1) (fun a U => a = #[(.long q1)] ∧ Z.Warmed39 U.vm ∧ U.heap = h0) (fun _ _ _ _ _ => True) (fun _ U o U' => ∃ v L, o = .returned v ∧ Q0 Z q1 h0 n0 v U'.heap L ∧ FrameEnd U o U' L room_1.cells room_1.slots) := by
  refine MetFree.of_bodySF (plainFor_of_name pn_0) hisR ?_
  intro p e s m args below meth c s₁ Bd hml0 hP hK
  obtain ⟨rfl, hZ, hh⟩ := hP
  have hx := Bd.exec
  have hby := Bd.bytes
  have hml : c.maxLocals = 8 := hml0
  have hown : s.vm.findClass "com/example/tidegate/tidegate/cli/ReplayReportMicrosPinLaw" = some m.cls := findClass_of_methodNamed Bd.named
  have hnm := (name_of_methodNamed Bd.named Bd.method).1
  have X0 : Stand p l e room_1 s m #[(.long q1)] below meth c s₁ [] 0 0 := Stand.of_body Bd
  have e0 : s₁.heap = h0 := by rw [← hh, Bd.state]; rfl
  have N0 := Fr.nil n0
  have pre0 : ∀ t, Steps p.tables e below (s₁.setTop (mkF m 0 #[.val (.long q1), .second, .unset, .unset, .unset, .unset, .unset, .unset] [])) t → Steps p.tables e below (s₁.setTop (entryFrame m #[(.long q1)] maxLocals)) t := fun t k => castTop (ef_0 m q1) k
  -- 3. LAWS
  -- pc 7: com/example/tidegate/tidegate/cli/ReplayReport.micros by its contract rm1
  obtain ⟨_, _, ⟨T2, L2, k2, n2⟩, -, X2, ⟨Lc2, hQ2, l2, y2, z2⟩, st2⟩ := Jvm.LawKit.callS X0 hx (y := (⟨"com/example/tidegate/tidegate/cli/ReplayReport", "micros", "(J)J"⟩ : MethodName)) hown (mvT hZ (hw _ (List.mem_of_getElem? (i := 1) rfl))) (mvT hZ (hw _ (List.mem_of_getElem? (i := 2) rfl))) (mvT hZ (hw _ (List.mem_of_getElem? (i := 3) rfl))) (mvT hZ (hw _ (List.mem_of_getElem? (i := 4) rfl))) (by decide) (backOf (W := 0) (rm1 l Z a0 hw [] (q1 &&& (9223372036854775807 : Int64)) h0 n0 Z0) hZ (hw _ (List.mem_of_getElem? (i := 4) rfl)) (hw _ (List.mem_of_getElem? (i := 3) rfl)) (by decide) (by decide)) (g := (mkF m 7 #[.val (.long q1), .second, .val (.long (q1 &&& (9223372036854775807 : Int64))), .second, .unset, .unset, .unset, .unset] [(.long (q1 &&& (9223372036854775807 : Int64)))])) rfl (by rw [hml]; rfl) (argsL := [(.long (q1 &&& (9223372036854775807 : Int64)))]) (rest := []) (lenOf pd_0_0 rfl) rfl (by show 2 * 0 + _ ≤ _; exact Nat.le_of_eq rfl) (hb hby at_7) (fun _ _ => ⟨rfl, e0, (by decide : 0 + 0 ≤ _), (by decide : 0 + 0 ≤ _)⟩)
  dsimp only [Pt.U, Pt.locs, Pt.cells, Pt.slots] at X2 l2 y2 z2 st2 hQ2
  subst l2 y2 z2
  obtain ⟨rfl, N2q, E2q⟩ := hQ2
  have K2q : Keep h0 T2.heap [] := by rw [E2q]; exact Keep.refl _ _
  have Z2 : n0 ≤ T2.heap.size := Nat.le_trans Z0 K2q.1
  have N2 := Fr.app N0 N2q
  obtain ⟨fs, hr, hrun, hended, hW, hsame⟩ := X2.leave (v := some (.int (1 : Int32))) (fun h => by rw [Bd.returns] at h; cases h)
  refine ⟨_, _, pre0 _ ?_, hrun, hended, _, _, rfl, ?_, ⟨_, rfl⟩, hW, hsame.mono (by decide) (by decide)⟩
  -- 4. STEPS
  · show Steps p.tables e below (s₁.setTop (mkF m 0 #[.val (.long q1), .second, .unset, .unset, .unset, .unset, .unset, .unset] [])) _
    refine XS.lloadN X0.here hx rfl (hb hby at_0) rfl ?_
    show Steps p.tables e below (s₁.setTop (mkF m 1 #[.val (.long q1), .second, .unset, .unset, .unset, .unset, .unset, .unset] [(.long q1)])) _
    refine X0.ldc2Long hx hown (mvT hZ (hw _ (List.mem_of_getElem? (i := 0) rfl))) (g := (mkF m 1 #[.val (.long q1), .second, .unset, .unset, .unset, .unset, .unset, .unset] [(.long q1)])) rfl (hb hby at_1) _ ?_
    show Steps p.tables e below (s₁.setTop (mkF m 4 #[.val (.long q1), .second, .unset, .unset, .unset, .unset, .unset, .unset] [(.long (9223372036854775807 : Int64)), (.long q1)])) _
    refine XS.land X0.here hx rfl (hb hby at_4) rfl ?_
    show Steps p.tables e below (s₁.setTop (mkF m 5 #[.val (.long q1), .second, .unset, .unset, .unset, .unset, .unset, .unset] [(.long (q1 &&& (9223372036854775807 : Int64)))])) _
    refine XS.lstoreN X0.here hx rfl (hb hby at_5) rfl (l' := #[.val (.long q1), .second, .val (.long (q1 &&& (9223372036854775807 : Int64))), .second, .unset, .unset, .unset, .unset]) rfl ?_
    show Steps p.tables e below (s₁.setTop (mkF m 6 #[.val (.long q1), .second, .val (.long (q1 &&& (9223372036854775807 : Int64))), .second, .unset, .unset, .unset, .unset] [])) _
    refine XS.lloadN X0.here hx rfl (hb hby at_6) rfl ?_
    show Steps p.tables e below (s₁.setTop (mkF m 7 #[.val (.long q1), .second, .val (.long (q1 &&& (9223372036854775807 : Int64))), .second, .unset, .unset, .unset, .unset] [(.long (q1 &&& (9223372036854775807 : Int64)))])) _
    refine st2 _ ?_
    show Steps p.tables e below (T2.setTop (mkF m 10 #[.val (.long q1), .second, .val (.long (q1 &&& (9223372036854775807 : Int64))), .second, .unset, .unset, .unset, .unset] [(.long (own_mic (q1 &&& (9223372036854775807 : Int64))))])) _
    refine XS.lstore X2.here hx rfl (hb hby at_10) rfl (l' := #[.val (.long q1), .second, .val (.long (q1 &&& (9223372036854775807 : Int64))), .second, .val (.long (own_mic (q1 &&& (9223372036854775807 : Int64)))), .second, .unset, .unset]) rfl ?_
    show Steps p.tables e below (T2.setTop (mkF m 12 #[.val (.long q1), .second, .val (.long (q1 &&& (9223372036854775807 : Int64))), .second, .val (.long (own_mic (q1 &&& (9223372036854775807 : Int64)))), .second, .unset, .unset] [])) _
    refine XS.lload X2.here hx rfl (hb hby at_12) rfl ?_
    show Steps p.tables e below (T2.setTop (mkF m 14 #[.val (.long q1), .second, .val (.long (q1 &&& (9223372036854775807 : Int64))), .second, .val (.long (own_mic (q1 &&& (9223372036854775807 : Int64)))), .second, .unset, .unset] [(.long (own_mic (q1 &&& (9223372036854775807 : Int64))))])) _
    refine XS.lconst X2.here hx rfl (hb hby at_14) ?_
    show Steps p.tables e below (T2.setTop (mkF m 15 #[.val (.long q1), .second, .val (.long (q1 &&& (9223372036854775807 : Int64))), .second, .val (.long (own_mic (q1 &&& (9223372036854775807 : Int64)))), .second, .unset, .unset] [(.long (0 : Int64)), (.long (own_mic (q1 &&& (9223372036854775807 : Int64))))])) _
    refine XS.lcmp X2.here hx rfl (hb hby at_15) rfl ?_
    show Steps p.tables e below (T2.setTop (mkF m 16 #[.val (.long q1), .second, .val (.long (q1 &&& (9223372036854775807 : Int64))), .second, .val (.long (own_mic (q1 &&& (9223372036854775807 : Int64)))), .second, .unset, .unset] [(.int (lcmpW (own_mic (q1 &&& (9223372036854775807 : Int64))) (0 : Int64)))])) _
    refine XS.ifNo X2.here hx rfl (hb hby at_16) rfl ((if0 _ _).trans (flt (own_1 _ (own_b q1) : ¬ ((lcmpW (own_mic (q1 &&& (9223372036854775807 : Int64))) (0 : Int64)) < (0 : Int32)))).1) ?_
    show Steps p.tables e below (T2.setTop (mkF m 19 #[.val (.long q1), .second, .val (.long (q1 &&& (9223372036854775807 : Int64))), .second, .val (.long (own_mic (q1 &&& (9223372036854775807 : Int64)))), .second, .unset, .unset] [])) _
    refine XS.lload X2.here hx rfl (hb hby at_19) rfl ?_
    show Steps p.tables e below (T2.setTop (mkF m 21 #[.val (.long q1), .second, .val (.long (q1 &&& (9223372036854775807 : Int64))), .second, .val (.long (own_mic (q1 &&& (9223372036854775807 : Int64)))), .second, .unset, .unset] [(.long (own_mic (q1 &&& (9223372036854775807 : Int64))))])) _
    refine X2.ldc2Long hx hown (mvT hZ (hw _ (List.mem_of_getElem? (i := 7) rfl))) (g := (mkF m 21 #[.val (.long q1), .second, .val (.long (q1 &&& (9223372036854775807 : Int64))), .second, .val (.long (own_mic (q1 &&& (9223372036854775807 : Int64)))), .second, .unset, .unset] [(.long (own_mic (q1 &&& (9223372036854775807 : Int64))))])) rfl (hb hby at_21) _ ?_
    show Steps p.tables e below (T2.setTop (mkF m 24 #[.val (.long q1), .second, .val (.long (q1 &&& (9223372036854775807 : Int64))), .second, .val (.long (own_mic (q1 &&& (9223372036854775807 : Int64)))), .second, .unset, .unset] [(.long (9223372036854776 : Int64)), (.long (own_mic (q1 &&& (9223372036854775807 : Int64))))])) _
    refine XS.lcmp X2.here hx rfl (hb hby at_24) rfl ?_
    show Steps p.tables e below (T2.setTop (mkF m 25 #[.val (.long q1), .second, .val (.long (q1 &&& (9223372036854775807 : Int64))), .second, .val (.long (own_mic (q1 &&& (9223372036854775807 : Int64)))), .second, .unset, .unset] [(.int (lcmpW (own_mic (q1 &&& (9223372036854775807 : Int64))) (9223372036854776 : Int64)))])) _
    refine XS.ifYes X2.here hx rfl (pc0 := 25) (pc' := 30) rfl (hb hby at_25) rfl ((if0 _ _).trans (flt (own_2 _ (own_b q1) : ¬ ((0 : Int32) < (lcmpW (own_mic (q1 &&& (9223372036854775807 : Int64))) (9223372036854776 : Int64))))).2.2.2) (by decide) (by decide) ?_
    show Steps p.tables e below (T2.setTop (mkF m 30 #[.val (.long q1), .second, .val (.long (q1 &&& (9223372036854775807 : Int64))), .second, .val (.long (own_mic (q1 &&& (9223372036854775807 : Int64)))), .second, .unset, .unset] [])) _
    refine XS.lloadN X2.here hx rfl (hb hby at_30) rfl ?_
    show Steps p.tables e below (T2.setTop (mkF m 31 #[.val (.long q1), .second, .val (.long (q1 &&& (9223372036854775807 : Int64))), .second, .val (.long (own_mic (q1 &&& (9223372036854775807 : Int64)))), .second, .unset, .unset] [(.long (q1 &&& (9223372036854775807 : Int64)))])) _
    refine X2.ldc2Long hx hown (mvT hZ (hw _ (List.mem_of_getElem? (i := 8) rfl))) (g := (mkF m 31 #[.val (.long q1), .second, .val (.long (q1 &&& (9223372036854775807 : Int64))), .second, .val (.long (own_mic (q1 &&& (9223372036854775807 : Int64)))), .second, .unset, .unset] [(.long (q1 &&& (9223372036854775807 : Int64)))])) rfl (hb hby at_31) _ ?_
    show Steps p.tables e below (T2.setTop (mkF m 34 #[.val (.long q1), .second, .val (.long (q1 &&& (9223372036854775807 : Int64))), .second, .val (.long (own_mic (q1 &&& (9223372036854775807 : Int64)))), .second, .unset, .unset] [(.long (1000 : Int64)), (.long (q1 &&& (9223372036854775807 : Int64)))])) _
    refine XS.lload X2.here hx rfl (hb hby at_34) rfl ?_
    show Steps p.tables e below (T2.setTop (mkF m 36 #[.val (.long q1), .second, .val (.long (q1 &&& (9223372036854775807 : Int64))), .second, .val (.long (own_mic (q1 &&& (9223372036854775807 : Int64)))), .second, .unset, .unset] [(.long (own_mic (q1 &&& (9223372036854775807 : Int64)))), (.long (1000 : Int64)), (.long (q1 &&& (9223372036854775807 : Int64)))])) _
    refine XS.lmul X2.here hx rfl (hb hby at_36) rfl ?_
    show Steps p.tables e below (T2.setTop (mkF m 37 #[.val (.long q1), .second, .val (.long (q1 &&& (9223372036854775807 : Int64))), .second, .val (.long (own_mic (q1 &&& (9223372036854775807 : Int64)))), .second, .unset, .unset] [(.long ((1000 : Int64) * (own_mic (q1 &&& (9223372036854775807 : Int64))))), (.long (q1 &&& (9223372036854775807 : Int64)))])) _
    refine XS.lsub X2.here hx rfl (hb hby at_37) rfl ?_
    show Steps p.tables e below (T2.setTop (mkF m 38 #[.val (.long q1), .second, .val (.long (q1 &&& (9223372036854775807 : Int64))), .second, .val (.long (own_mic (q1 &&& (9223372036854775807 : Int64)))), .second, .unset, .unset] [(.long ((q1 &&& (9223372036854775807 : Int64)) - ((1000 : Int64) * (own_mic (q1 &&& (9223372036854775807 : Int64))))))])) _
    refine XS.lstore X2.here hx rfl (hb hby at_38) rfl (l' := #[.val (.long q1), .second, .val (.long (q1 &&& (9223372036854775807 : Int64))), .second, .val (.long (own_mic (q1 &&& (9223372036854775807 : Int64)))), .second, .val (.long ((q1 &&& (9223372036854775807 : Int64)) - ((1000 : Int64) * (own_mic (q1 &&& (9223372036854775807 : Int64)))))), .second]) rfl ?_
    show Steps p.tables e below (T2.setTop (mkF m 40 #[.val (.long q1), .second, .val (.long (q1 &&& (9223372036854775807 : Int64))), .second, .val (.long (own_mic (q1 &&& (9223372036854775807 : Int64)))), .second, .val (.long ((q1 &&& (9223372036854775807 : Int64)) - ((1000 : Int64) * (own_mic (q1 &&& (9223372036854775807 : Int64)))))), .second] [])) _
    refine XS.lload X2.here hx rfl (hb hby at_40) rfl ?_
    show Steps p.tables e below (T2.setTop (mkF m 42 #[.val (.long q1), .second, .val (.long (q1 &&& (9223372036854775807 : Int64))), .second, .val (.long (own_mic (q1 &&& (9223372036854775807 : Int64)))), .second, .val (.long ((q1 &&& (9223372036854775807 : Int64)) - ((1000 : Int64) * (own_mic (q1 &&& (9223372036854775807 : Int64)))))), .second] [(.long ((q1 &&& (9223372036854775807 : Int64)) - ((1000 : Int64) * (own_mic (q1 &&& (9223372036854775807 : Int64))))))])) _
    refine X2.ldc2Long hx hown (mvT hZ (hw _ (List.mem_of_getElem? (i := 9) rfl))) (g := (mkF m 42 #[.val (.long q1), .second, .val (.long (q1 &&& (9223372036854775807 : Int64))), .second, .val (.long (own_mic (q1 &&& (9223372036854775807 : Int64)))), .second, .val (.long ((q1 &&& (9223372036854775807 : Int64)) - ((1000 : Int64) * (own_mic (q1 &&& (9223372036854775807 : Int64)))))), .second] [(.long ((q1 &&& (9223372036854775807 : Int64)) - ((1000 : Int64) * (own_mic (q1 &&& (9223372036854775807 : Int64))))))])) rfl (hb hby at_42) _ ?_
    show Steps p.tables e below (T2.setTop (mkF m 45 #[.val (.long q1), .second, .val (.long (q1 &&& (9223372036854775807 : Int64))), .second, .val (.long (own_mic (q1 &&& (9223372036854775807 : Int64)))), .second, .val (.long ((q1 &&& (9223372036854775807 : Int64)) - ((1000 : Int64) * (own_mic (q1 &&& (9223372036854775807 : Int64)))))), .second] [(.long (-500 : Int64)), (.long ((q1 &&& (9223372036854775807 : Int64)) - ((1000 : Int64) * (own_mic (q1 &&& (9223372036854775807 : Int64))))))])) _
    refine XS.lcmp X2.here hx rfl (hb hby at_45) rfl ?_
    show Steps p.tables e below (T2.setTop (mkF m 46 #[.val (.long q1), .second, .val (.long (q1 &&& (9223372036854775807 : Int64))), .second, .val (.long (own_mic (q1 &&& (9223372036854775807 : Int64)))), .second, .val (.long ((q1 &&& (9223372036854775807 : Int64)) - ((1000 : Int64) * (own_mic (q1 &&& (9223372036854775807 : Int64)))))), .second] [(.int (lcmpW ((q1 &&& (9223372036854775807 : Int64)) - ((1000 : Int64) * (own_mic (q1 &&& (9223372036854775807 : Int64))))) (-500 : Int64)))])) _
    refine XS.ifNo X2.here hx rfl (hb hby at_46) rfl ((if0 _ _).trans (flt (own_3 _ (own_b q1) : ¬ ((lcmpW ((q1 &&& (9223372036854775807 : Int64)) - ((1000 : Int64) * (own_mic (q1 &&& (9223372036854775807 : Int64))))) (-500 : Int64)) < (0 : Int32)))).1) ?_
    show Steps p.tables e below (T2.setTop (mkF m 49 #[.val (.long q1), .second, .val (.long (q1 &&& (9223372036854775807 : Int64))), .second, .val (.long (own_mic (q1 &&& (9223372036854775807 : Int64)))), .second, .val (.long ((q1 &&& (9223372036854775807 : Int64)) - ((1000 : Int64) * (own_mic (q1 &&& (9223372036854775807 : Int64)))))), .second] [])) _
    refine XS.lload X2.here hx rfl (hb hby at_49) rfl ?_
    show Steps p.tables e below (T2.setTop (mkF m 51 #[.val (.long q1), .second, .val (.long (q1 &&& (9223372036854775807 : Int64))), .second, .val (.long (own_mic (q1 &&& (9223372036854775807 : Int64)))), .second, .val (.long ((q1 &&& (9223372036854775807 : Int64)) - ((1000 : Int64) * (own_mic (q1 &&& (9223372036854775807 : Int64)))))), .second] [(.long ((q1 &&& (9223372036854775807 : Int64)) - ((1000 : Int64) * (own_mic (q1 &&& (9223372036854775807 : Int64))))))])) _
    refine X2.ldc2Long hx hown (mvT hZ (hw _ (List.mem_of_getElem? (i := 10) rfl))) (g := (mkF m 51 #[.val (.long q1), .second, .val (.long (q1 &&& (9223372036854775807 : Int64))), .second, .val (.long (own_mic (q1 &&& (9223372036854775807 : Int64)))), .second, .val (.long ((q1 &&& (9223372036854775807 : Int64)) - ((1000 : Int64) * (own_mic (q1 &&& (9223372036854775807 : Int64)))))), .second] [(.long ((q1 &&& (9223372036854775807 : Int64)) - ((1000 : Int64) * (own_mic (q1 &&& (9223372036854775807 : Int64))))))])) rfl (hb hby at_51) _ ?_
    show Steps p.tables e below (T2.setTop (mkF m 54 #[.val (.long q1), .second, .val (.long (q1 &&& (9223372036854775807 : Int64))), .second, .val (.long (own_mic (q1 &&& (9223372036854775807 : Int64)))), .second, .val (.long ((q1 &&& (9223372036854775807 : Int64)) - ((1000 : Int64) * (own_mic (q1 &&& (9223372036854775807 : Int64)))))), .second] [(.long (500 : Int64)), (.long ((q1 &&& (9223372036854775807 : Int64)) - ((1000 : Int64) * (own_mic (q1 &&& (9223372036854775807 : Int64))))))])) _
    refine XS.lcmp X2.here hx rfl (hb hby at_54) rfl ?_
    show Steps p.tables e below (T2.setTop (mkF m 55 #[.val (.long q1), .second, .val (.long (q1 &&& (9223372036854775807 : Int64))), .second, .val (.long (own_mic (q1 &&& (9223372036854775807 : Int64)))), .second, .val (.long ((q1 &&& (9223372036854775807 : Int64)) - ((1000 : Int64) * (own_mic (q1 &&& (9223372036854775807 : Int64)))))), .second] [(.int (lcmpW ((q1 &&& (9223372036854775807 : Int64)) - ((1000 : Int64) * (own_mic (q1 &&& (9223372036854775807 : Int64))))) (500 : Int64)))])) _
    refine XS.ifNo X2.here hx rfl (hb hby at_55) rfl ((if0 _ _).trans (tlt (own_4 _ (own_b q1) : (lcmpW ((q1 &&& (9223372036854775807 : Int64)) - ((1000 : Int64) * (own_mic (q1 &&& (9223372036854775807 : Int64))))) (500 : Int64)) < (0 : Int32))).2.1) ?_
    show Steps p.tables e below (T2.setTop (mkF m 58 #[.val (.long q1), .second, .val (.long (q1 &&& (9223372036854775807 : Int64))), .second, .val (.long (own_mic (q1 &&& (9223372036854775807 : Int64)))), .second, .val (.long ((q1 &&& (9223372036854775807 : Int64)) - ((1000 : Int64) * (own_mic (q1 &&& (9223372036854775807 : Int64)))))), .second] [])) _
    refine XS.iconst X2.here hx rfl (hb hby at_58) ?_
    show Steps p.tables e below (T2.setTop (mkF m 59 #[.val (.long q1), .second, .val (.long (q1 &&& (9223372036854775807 : Int64))), .second, .val (.long (own_mic (q1 &&& (9223372036854775807 : Int64)))), .second, .val (.long ((q1 &&& (9223372036854775807 : Int64)) - ((1000 : Int64) * (own_mic (q1 &&& (9223372036854775807 : Int64)))))), .second] [(.int (1 : Int32))])) _
    refine XS.goto X2.here hx rfl (pc0 := 59) (pc' := 63) rfl (hb hby at_59) (by decide) (by decide) ?_
    show Steps p.tables e below (T2.setTop (mkF m 63 #[.val (.long q1), .second, .val (.long (q1 &&& (9223372036854775807 : Int64))), .second, .val (.long (own_mic (q1 &&& (9223372036854775807 : Int64)))), .second, .val (.long ((q1 &&& (9223372036854775807 : Int64)) - ((1000 : Int64) * (own_mic (q1 &&& (9223372036854775807 : Int64)))))), .second] [(.int (1 : Int32))])) _
    exact retN X2 hx (t := .boolean) Bd.returns (by simp) (hb hby at_63) hr
  · show Q0 Z q1 h0 n0 _ T2.heap _
    exact ⟨rfl, N2⟩
set_option maxRecDepth 65536 in
set_option maxHeartbeats 40000000 in
theorem comes_1 {Post : Tables → Env → Array Value → State → Outcome → State → Prop} (hpost : ∀ tb e args s v u, (limb_1_1.after args s (.returned v) u = true ∧ limb_1_2.after args s (.returned v) u = true ∧ True) → FrameEnd s (.returned v) u (Jvm.fieldLocs frame_1_writes args s ++ Jvm.arrayLocs frame_1_arrays args s ++ Jvm.staticLocs frame_1_statics s) 0 0 → Post tb e args s (.returned v) u) :
    ArmFor flags0 classFile x code maxLocals ret World_1 tables_1 room_1 Calls_1 rest_1 Pre_1 Post := by
  intro l hfl _ _ p e ha hc hk s m args below hf hA hF happ hP
  obtain ⟨hcalls, hrest, hpre⟩ := hP
  obtain ⟨-, -, -, hnamed, -, -, -, hat⟩ := (Spec.applies_iff hf).mp happ
  obtain ⟨hg, hn⟩ := and_e (Cond.before_iff.mp (show (Jvm.Cond.and given_1 narrow_1).before args s = true from hpre))
  obtain ⟨g3, g4⟩ := and_e hg
  obtain ⟨w0, rfl⟩ : ∃ w0 : Value, args = #[w0] := by
    have hs : args.size = 1 := by simpa [Cond.value, given_1] using g3
    obtain ⟨L⟩ := args
    match L, hs with
    | [w0], _ => exact ⟨w0, rfl⟩
  have hw := fun d (hd : d ∈ tables_1) => atoms_spec (ws := Jvm.Cond.code x code maxLocals ret :: tables_1) hat d (List.mem_cons_of_mem _ hd)
  have hfit : Fit s := fun {y c} hc i hi => by
    obtain ⟨ha, rfl⟩ := Array.getElem?_eq_some_iff.mp hc
    have q := List.all_eq_true.mp ((Array.all_eq_true_iff_forall_mem.mp hF) _ (Array.getElem_mem ha)) i (List.mem_range.mpr hi)
    simpa [Array.getElem?_eq_getElem hi] using q
  obtain ⟨i0, ei0⟩ := isL_v g4
  obtain rfl : w0 = (.long i0) := Option.some.inj ei0
  obtain ⟨n, o, h1, h2, h3, _, L, rfl, ⟨rfl, N⟩, hq⟩ := rm0 l s _ hw tables_1 i0 s.heap s.heap.size (Nat.le_refl _) p e ha hc hk s m _ below hf ((Spec.applies_iff_loose hf).mp happ).1 ⟨rfl, State.Warmed39.refl s, rfl⟩ trivial
  refine ⟨n, _, h1, h2, h3, hpost _ _ _ _ _ _ ⟨Cond.after_iff.mpr rfl, Cond.after_iff.mpr (eq_i res_at (Term.int_eval (1)) rfl), trivial⟩ ⟨hq.1, hq.2.1, (hq.2.2.sift fun y hy => Or.inr (N y hy)).mono (by decide) (by decide)⟩⟩
theorem main_1_1 : Claimed_1_1 := comes_1 fun _ _ _ _ _ _ h hF => ⟨h.1, hF⟩
theorem main_1_2 : Claimed_1_2 := comes_1 fun _ _ _ _ _ _ h hF => ⟨h.2.1, hF⟩
end Jvm.Pilot.@@N@@
namespace Jvm.Pilot.@@N@@
open Jvm Jvm.ClassFile Sem Op Lib Jvm.Free Jvm.Stand Jvm.Pilot.@@N@@.Jvm.D
/-! MADE BY PROGRAM (witnessworld.py) out of the Statement's table words and the real class files: 9 classes; the members and pool entries that the words name. The judged class is class 1, her method 1. -/
namespace start1
open Jvm.ClassFile
def u (s : String) : CpInfo := .utf8 (stringToUtf16 s)
/-- a pool by its gaps: so many unusable entries, then the entry; so many at the end -/
def gap : Nat → List CpInfo → List CpInfo
  | 0, r => r
  | n + 1, r => .unusable :: gap n r
def poolList (es : List (Nat × CpInfo)) (last : Nat) : List CpInfo := es.foldr (fun e r => gap e.1 (e.2 :: r)) (gap last [])
def pool (es : List (Nat × CpInfo)) (last : Nat) : Array CpInfo := ⟨poolList es last⟩
def fileOf (pool : Array CpInfo) (this : Nat) (attrs : Array Attribute := #[]) (ms : Array MethodInfo := #[]) (fl : Nat := 33) (sup : Nat := 0) (ifs : Array Nat := #[]) (fds : Array FieldInfo := #[]) : ClassFile where
  minorVersion := 0
  majorVersion := 65
  constantPool := pool
  accessFlags := fl
  thisClass := this
  superClass := sup
  interfaces := ifs
  fields := fds
  methods := ms
  attributes := attrs
def plain (name : String) (sup : Option ClassId) : Class where
  name := name
  kind := .ordinary
  loader := none
  accessFlags := 33
  super := sup
  interfaces := #[]
  cf := none
  fields := #[]
  methods := #[]
  instanceTypes := #[]
  staticTypes := #[]
  resolved := #[]
  callSites := []
  init := .initialized
  statics := none
  mirror := none

def pool0 : Array CpInfo := pool [(5, u "<init>"), (0, u "()V"), (1, .class_ 10), (1, u "java/lang/Object")] 113

def k0m0 : Method := { name := "<init>", desc := "()V", sig := { parameters := [], returnType := none }, accessFlags := 1, code := none }
/-- java/lang/Object -/
def k0 : Class := { plain "java/lang/Object" none with
  accessFlags := 33
  interfaces := #[]
  cf := some (fileOf pool0 8 #[] #[{ accessFlags := 1, nameIndex := 5, descriptorIndex := 6, attributes := #[] }] 33 0 #[] #[])
  fields := #[]
  methods := #[k0m0]
  instanceTypes := #[]
  staticTypes := #[]
  resolved := Array.replicate 124 none
  statics := none }

def pool1 : Array CpInfo := pool [(2, .class_ 4), (1, u "java/lang/Object"), (0, u "<init>"), (0, u "()V"), (2, .long 9223372036854775807), (1, .methodref 12 13), (0, .class_ 14), (0, .nameAndType 15 16), (0, u "com/example/tidegate/tidegate/cli/ReplayReport"), (0, u "micros"), (0, u "(J)J"), (0, .long 9223372036854776), (1, .long 1000), (1, .long 18446744073709551116), (1, .long 500), (1, .class_ 26), (0, u "com/example/tidegate/tidegate/cli/ReplayReportMicrosPinLaw"), (2, u "law"), (0, u "(J)Z")] 3

def k1m0 : Method := { name := "<init>", desc := "()V", sig := { parameters := [], returnType := none }, accessFlags := 2, code := none }
def k1c1 : Code := { maxStack := 6, maxLocals := 8, code := code, exceptionTable := #[], attributes := #[] }
def k1m1 : Method := { name := "law", desc := "(J)Z", sig := { parameters := [.long], returnType := some .boolean }, accessFlags := 9, code := some k1c1 }
/-- com/example/tidegate/tidegate/cli/ReplayReportMicrosPinLaw -/
def k1 : Class := { plain "com/example/tidegate/tidegate/cli/ReplayReportMicrosPinLaw" (some 0) with
  accessFlags := 49
  interfaces := #[]
  cf := some (fileOf pool1 25 #[] #[{ accessFlags := 2, nameIndex := 5, descriptorIndex := 6, attributes := #[] }, { accessFlags := 9, nameIndex := 29, descriptorIndex := 30, attributes := #[] }] 49 2 #[] #[])
  fields := #[]
  methods := #[k1m0, k1m1]
  instanceTypes := #[]
  staticTypes := #[]
  resolved := Array.replicate 34 none
  statics := none }

def pool2 : Array CpInfo := pool [(2, .class_ 4), (1, u "java/lang/Object"), (3, .class_ 10), (1, u "com/example/tidegate/tidegate/cli/ReplayReport"), (0, u "requests"), (0, u "J"), (2, u "skipped"), (2, u "passed"), (2, u "blocked"), (2, u "queued"), (2, u "maxWaitMicros"), (2, u "seconds"), (0, u "Ljava/lang/Iterable;"), (0, .long 1000), (1, .long 500), (51, .class_ 87), (0, u "com/example/tidegate/tidegate/cli/ReplayReport$Second"), (64, u "micros"), (0, u "(J)J")] 59

def k2c0 : Code := { maxStack := 6, maxLocals := 2, code := prog_78_method_9_code, exceptionTable := #[], attributes := #[] }
def k2m0 : Method := { name := "micros", desc := "(J)J", sig := { parameters := [.long], returnType := some .long }, accessFlags := 8, code := some k2c0 }
/-- com/example/tidegate/tidegate/cli/ReplayReport -/
def k2 : Class := { plain "com/example/tidegate/tidegate/cli/ReplayReport" (some 0) with
  accessFlags := 48
  interfaces := #[]
  cf := some (fileOf pool2 8 #[.nestMembers #[86]] #[{ accessFlags := 8, nameIndex := 152, descriptorIndex := 153, attributes := #[] }] 48 2 #[] #[{ accessFlags := 18, nameIndex := 11, descriptorIndex := 12, attributes := #[] }, { accessFlags := 18, nameIndex := 15, descriptorIndex := 12, attributes := #[] }, { accessFlags := 18, nameIndex := 18, descriptorIndex := 12, attributes := #[] }, { accessFlags := 18, nameIndex := 21, descriptorIndex := 12, attributes := #[] }, { accessFlags := 18, nameIndex := 24, descriptorIndex := 12, attributes := #[] }, { accessFlags := 18, nameIndex := 27, descriptorIndex := 12, attributes := #[] }, { accessFlags := 18, nameIndex := 30, descriptorIndex := 31, attributes := #[] }])
  fields := #[{ name := "requests", type := .long, accessFlags := 18, slot := 0, constantValue := 0 }, { name := "skipped", type := .long, accessFlags := 18, slot := 1, constantValue := 0 }, { name := "passed", type := .long, accessFlags := 18, slot := 2, constantValue := 0 }, { name := "blocked", type := .long, accessFlags := 18, slot := 3, constantValue := 0 }, { name := "queued", type := .long, accessFlags := 18, slot := 4, constantValue := 0 }, { name := "maxWaitMicros", type := .long, accessFlags := 18, slot := 5, constantValue := 0 }, { name := "seconds", type := (.object "java/lang/Iterable"), accessFlags := 18, slot := 6, constantValue := 0 }]
  methods := #[k2m0]
  instanceTypes := #[.long, .long, .long, .long, .long, .long, (.object "java/lang/Iterable")]
  staticTypes := #[]
  resolved := Array.replicate 213 none
  statics := none }

def pool3 : Array CpInfo := pool [(1, u "java/lang/Cloneable"), (0, .class_ 1), (0, u "java/lang/Object"), (0, .class_ 3)] 3

/-- java/lang/Cloneable -/
def k3 : Class := { plain "java/lang/Cloneable" (some 0) with
  accessFlags := 1537
  interfaces := #[]
  cf := some (fileOf pool3 2 #[] #[] 1537 4 #[] #[])
  fields := #[]
  methods := #[]
  instanceTypes := #[]
  staticTypes := #[]
  resolved := Array.replicate 8 none
  statics := none }

def pool4 : Array CpInfo := pool [(1, u "java/io/Serializable"), (0, .class_ 1), (0, u "java/lang/Object"), (0, .class_ 3)] 3

/-- java/io/Serializable -/
def k4 : Class := { plain "java/io/Serializable" (some 0) with
  accessFlags := 1537
  interfaces := #[]
  cf := some (fileOf pool4 2 #[] #[] 1537 4 #[] #[])
  fields := #[]
  methods := #[]
  instanceTypes := #[]
  staticTypes := #[]
  resolved := Array.replicate 8 none
  statics := none }

/-- the primitive byte -/
def k5 : Class := { plain "byte" none with kind := .primitive 'B', accessFlags := 0x411 }
/-- [B -/
def k6 : Class := { plain "[B" (some 0) with kind := .array 5 .byte, interfaces := #[3, 4], accessFlags := 1041 }

/-- the primitive int -/
def k7 : Class := { plain "int" none with kind := .primitive 'I', accessFlags := 0x411 }
/-- [I -/
def k8 : Class := { plain "[I" (some 0) with kind := .array 7 .int, interfaces := #[3, 4], accessFlags := 1041 }

def heap : Heap := #[]
def classes : Array Class := #[k0, k1, k2, k3, k4, k5, k6, k7, k8]
def interned : List (Array UInt16 × Addr) := []
def slotsUsed : Nat := 0
def theMethod : MethodId := ⟨1, 1⟩
def args0 : Array Value := #[.long 5]
def aboutOver (below : List Frame) : State where
  vm := { classes := classes, interned := interned.toArray }
  heap := heap
  slotsUsed := slotsUsed
  threads := #[{ frames := .invoking theMethod args0 :: below }]
def below0 : List Frame := [.native { method := ⟨0, 0⟩, args := #[] }]
def about1 : State := aboutOver below0
def p0 : Program := .bare "" "" ""
def e0 : Env := launch0.env 0 0 0
theorem w_frames : about1.frames = Frame.invoking theMethod args0 :: below0 := rfl
set_option maxRecDepth 65536 in
theorem w_args : argsFit about1.vm theMethod args0 = true := by decide +kernel
set_option maxRecDepth 65536 in
theorem w_heap : heapFits about1 = true := by decide +kernel
set_option maxRecDepth 65536 in
theorem w_runnable : about1.curStatus? = some .runnable := by decide +kernel
set_option maxRecDepth 65536 in
theorem w_alone : about1.alone = true := by decide +kernel
set_option maxRecDepth 65536 in
theorem w_named : about1.methodNamed? x = some theMethod := by decide +kernel
set_option maxRecDepth 65536 in
theorem w_hears : about1.hears theMethod below0 = true := by decide +kernel
set_option maxRecDepth 65536 in
theorem w_ripe : about1.ripe theMethod args0 below0 = true := by decide +kernel
theorem w_running : about1.status = .running := rfl
set_option maxRecDepth 65536 in
theorem w_room : about1.hasRoom e0.platform room_1 = true :=
  launch0.hasRoom_least _ room_1 (by decide +kernel) (by decide +kernel) (by decide +kernel) (by decide +kernel) (by decide +kernel) (by decide +kernel)
theorem allAtoms_all (ts : List Jvm.Cond) (a : Array Jvm.Value) (st : Jvm.State) : (allAtoms ts).before a st = ts.all (fun c => c.before a st) := by
  induction ts with
  | nil => rfl
  | cons c t ih =>
    show (Jvm.Cond.and c (allAtoms t)).before a st = _
    rw [Jvm.Cond.before_and, ih, List.all_cons]
def words1 : List Jvm.Cond := Jvm.Cond.code x code maxLocals ret :: tables_1
/-- a 'code' word, met by the world's own term for the bytes: nothing is compared byte by byte -/
theorem code_word {y : MethodName} {bytes : ByteArray} {mx : Nat} {rt : Option FieldType} {a : Array Value} {s : State} {m : MethodId} {meth : Method} {c : Code} (h1 : s.methodNamed? y = some m) (h2 : s.vm.method? m = some meth) (h3 : meth.code = some c) (h4 : c.code = bytes)
    (h5 : (c.maxLocals == mx && c.exceptionTable.isEmpty && decide (c.maxStack ≤ mostOperands) && decide (meth.sig.returnType = rt) && !meth.locks && decide (parseMethodDescriptor y.desc = some meth.sig)) = true) : (Jvm.Cond.code y bytes mx rt).before a s = true := by
  simp only [Bool.and_eq_true, beq_iff_eq, Bool.not_eq_true', decide_eq_true_eq] at h5
  obtain ⟨⟨⟨⟨⟨g1, g2⟩, g3⟩, g4⟩, g5⟩, g6⟩ := h5
  simp [Cond.before, Cond.holds, Cond.value, h1, h2, h3, h4, g1, g2, g3, g4, g5, g6]
def isCode : Jvm.Cond → Bool
  | .code _ _ _ _ => true
  | _ => false
theorem all_split {L : List Jvm.Cond} {P : Jvm.Cond → Bool} (h1 : L.all (fun c => isCode c || P c) = true) (h2 : ∀ c ∈ L.filter isCode, P c = true) : L.all P = true := by
  refine List.all_eq_true.mpr fun c hc => ?_
  have h := List.all_eq_true.mp h1 c hc
  rcases Bool.eq_false_or_eq_true (isCode c) with hi | hi
  · exact h2 c (List.mem_filter.mpr ⟨hc, hi⟩)
  · simpa [hi] using h
set_option maxRecDepth 65536 in
theorem w_c0 : (Jvm.Cond.code x code maxLocals ret).before args0 about1 = true := code_word (m := ⟨1, 1⟩) (meth := k1m1) (c := k1c1) (by decide +kernel) rfl rfl rfl (by decide +kernel)
set_option maxRecDepth 65536 in
theorem w_c1 : (Jvm.Cond.code ({ cls := "com/example/tidegate/tidegate/cli/ReplayReport", name := "micros", desc := "(J)J" } : Jvm.MethodName) prog_78_method_9_code (2 : Nat) (Option.some Jvm.ClassFile.FieldType.long)).before args0 about1 = true := code_word (m := ⟨2, 0⟩) (meth := k2m0) (c := k2c0) (by decide +kernel) rfl rfl rfl (by decide +kernel)
def codes1 : List Jvm.Cond := [Jvm.Cond.code x code maxLocals ret, Jvm.Cond.code ({ cls := "com/example/tidegate/tidegate/cli/ReplayReport", name := "micros", desc := "(J)J" } : Jvm.MethodName) prog_78_method_9_code (2 : Nat) (Option.some Jvm.ClassFile.FieldType.long)]
set_option maxRecDepth 65536 in
theorem codes_eq : words1.filter isCode = codes1 := rfl
theorem w_codes : ∀ c ∈ words1.filter isCode, c.before args0 about1 = true := by
  rw [codes_eq]
  intro c hc
  simp only [codes1, List.mem_cons, List.not_mem_nil, or_false] at hc
  rcases hc with rfl | rfl
  · exact w_c0
  · exact w_c1
set_option maxRecDepth 65536 in
theorem w_t1 : words1.all (fun c => isCode c || c.before args0 about1) = true := by decide +kernel
theorem w_tables : (allAtoms (Jvm.Cond.code x code maxLocals ret :: tables_1)).before args0 about1 = true := by
  rw [allAtoms_all]
  show words1.all (fun c => c.before args0 about1) = true
  refine all_split ?_ w_codes
  rw [w_t1]
set_option maxRecDepth 65536 in
theorem w_case : (Jvm.Cond.and given_1 narrow_1).before args0 about1 = true := by decide +kernel
theorem w_applies : (headSpec (Jvm.Cond.code x code maxLocals ret :: tables_1) room_1).applies x e0.platform about1 = true :=
  (Spec.applies_iff w_frames).mpr ⟨w_running, w_runnable, w_alone, w_named, w_hears, w_ripe, w_room, w_tables⟩
theorem atStart : AtStart classFile x code maxLocals ret World_1 tables_1 room_1 Calls_1 rest_1 Pre_1 launch0 p0 e0 about1 theMethod args0 below0 :=
  ⟨lists_1, trivial, launch0.admits_env _ _ _, launch0.least_env, fairChoices_fair.cas, fairChoices_fair.clock, w_frames, w_args, w_heap, w_applies, trivial, trivial, w_case⟩
end start1
theorem witness_1 : WitnessClaimed_1 := ⟨start1.p0, start1.e0, start1.about1, start1.theMethod, start1.args0, start1.below0, start1.atStart⟩
end Jvm.Pilot.@@N@@
