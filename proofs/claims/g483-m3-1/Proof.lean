import JvmDerived
import JvmDerived.Pilot.@@N@@Statement
import JvmDerived.Pilot.@@N@@Code
set_option linter.unusedVariables false
set_option linter.unusedSimpArgs false
namespace Jvm.RoadKit
open Sem ClassFile Op Lib Jvm.Stand Jvm.Free Jvm.LawKit
section New
variable {p : Program} {l : Launch} {e : Env} {R : Room} {s : State} {m : MethodId} {args : Array Value} {below : List Frame} {meth : Method} {c : Code} {T : State} {locs : List Loc} {cells slots : Nat}
theorem retI (X : Stand p l e R s m args below meth c T locs cells slots) (hx : p.tables.exec = Jvm.exec) {pc : Nat} {Ls : Array Slot} {z : Int32} {rest : List Value} (hret : meth.sig.returnType = some .int) (hd : decode c.code pc = .ok (.ireturn, 1)) {fs : List Frame}
    (hl : ∀ (f : JFrame) (acts : List Action), f.method = m → f.locked = none → f.entered = [] → (doReturn e (T.setTop f) acts (some (.int z))).1 = T.setFrames fs) : Steps p.tables e below (T.setTop (mkF m pc Ls (.int z :: rest))) (T.setFrames fs) := by
  have hm' : T.vm.method? m = some meth := X.method'
  have hn : narrow .int (.int z) = .int z := rfl
  show Steps p.tables e below (T.setTop { method := m, pc := pc, locals := Ls, stack := _ :: rest, locked := none }) _
  jvm_step X.here [X.here.top, hx, hd, hm', hret, hn]
  first | (intro acts; rw [hl _ acts rfl rfl rfl]) | rw [hl _ _ rfl rfl rfl]
  exact Steps.refl _
end New
end Jvm.RoadKit
namespace Jvm.Pilot.@@N@@
open Jvm Jvm.ClassFile Sem Op Lib Jvm.Free Jvm.Stand Jvm.LawKit Jvm.RoadKit Bundle Jvm.Pilot.@@N@@.Jvm.D
theorem own_retJ {p : Program} {l : Launch} {e : Env} {R : Room} {s : State} {m : MethodId} {args : Array Value} {below : List Frame} {meth : Method} {c : Code} {T : State} {locs : List Loc} {cells slots : Nat} (X : Stand p l e R s m args below meth c T locs cells slots) (hx : p.tables.exec = Jvm.exec) {pc : Nat} {Ls : Array Slot} {z : Int64} {rest : List Value} (hret : meth.sig.returnType = some .long) (hd : decode c.code pc = .ok (.lreturn, 1)) {fs : List Frame}
    (hl : ∀ (f : JFrame) (acts : List Action), f.method = m → f.locked = none → f.entered = [] → (doReturn e (T.setTop f) acts (some (.long z))).1 = T.setFrames fs) : Steps p.tables e below (T.setTop (mkF m pc Ls (.long z :: rest))) (T.setFrames fs) := by
  have hm' : T.vm.method? m = some meth := X.method'
  have hn : narrow .long (.long z) = .long z := rfl
  show Steps p.tables e below (T.setTop { method := m, pc := pc, locals := Ls, stack := _ :: rest, locked := none }) _
  jvm_step X.here [X.here.top, hx, hd, hm', hret, hn]
  first | (intro acts; rw [hl _ acts rfl rfl rfl]) | rw [hl _ _ rfl rfl rfl]
  exact Steps.refl _
def own_ce (b : Int32) (x mc : Int64) : Int64 := if b = 0 then ((x &&& (9223372036854775807 : Int64)) - ((x &&& (9223372036854775807 : Int64)) / (mc + (1 : Int64))) * (mc + (1 : Int64))) else (mc - ((x &&& (9223372036854775807 : Int64)) - ((x &&& (9223372036854775807 : Int64)) / (256 : Int64)) * (256 : Int64)))
def own_ex (ce pw : Int64) : Int64 := if (ce - (ce / pw) * pw) = 0 then ce / pw else ce / pw + 1
def own_wd (ce : Int64) (cb : Int32) : Int32 := (((((ce * (cb.toInt64)) + (64 : Int64)) - (1 : Int64)) / (64 : Int64)).toInt32)
theorem own_cb (p : Int32) : ∃ k : Nat, k < 7 ∧ ((1 : Int32) <<< (((p &&& (2147483647 : Int32)) % (7 : Int32)) &&& 31)) = Int32.ofNat (2 ^ k) := by
  have h1 := (c_and p 2147483647) (by decide)
  have h2 := (c_irem (p &&& 2147483647) 7 7 (by decide)).1 h1.1
  have h3 : ∀ k : Int32, ((p &&& 2147483647) % 7).toInt = k.toInt → (p &&& 2147483647) % 7 = k := fun k h => Int32.toInt_inj.mp h
  have h4 : ((p &&& 2147483647) % 7).toInt = 0 ∨ ((p &&& 2147483647) % 7).toInt = 1 ∨ ((p &&& 2147483647) % 7).toInt = 2 ∨ ((p &&& 2147483647) % 7).toInt = 3 ∨ ((p &&& 2147483647) % 7).toInt = 4 ∨ ((p &&& 2147483647) % 7).toInt = 5 ∨ ((p &&& 2147483647) % 7).toInt = 6 := by rw [h2]; omega
  rcases h4 with h | h | h | h | h | h | h
  · exact ⟨0, by decide, by rw [h3 0 h]; decide⟩
  · exact ⟨1, by decide, by rw [h3 1 h]; decide⟩
  · exact ⟨2, by decide, by rw [h3 2 h]; decide⟩
  · exact ⟨3, by decide, by rw [h3 3 h]; decide⟩
  · exact ⟨4, by decide, by rw [h3 4 h]; decide⟩
  · exact ⟨5, by decide, by rw [h3 5 h]; decide⟩
  · exact ⟨6, by decide, by rw [h3 6 h]; decide⟩
theorem own_cells (b : Int32) (x mc : Int64) (M : Int) (hM : mc.toInt = M) (h1 : 256 ≤ M) (h2 : M < 1000000000000) : 0 ≤ (own_ce b x mc).toInt ∧ (own_ce b x mc).toInt ≤ M := by
  have e0 := c_maskL x (9223372036854775807 : Int64) 63 (by decide) (by decide)
  have e1 : 0 ≤ (x &&& (9223372036854775807 : Int64)).toInt := by rw [e0]; omega
  unfold own_ce
  generalize (x &&& (9223372036854775807 : Int64)) = y at *
  split
  · have a1 : (mc + 1).toInt = M + 1 := by
      have q := c_ladd mc 1
      have q1 : (1 : Int64).toInt = 1 := by decide
      have q2 := rng64 (mc + 1)
      omega
    have a2 := (c_lrem y (mc + 1) (M + 1) a1).1 e1
    rw [a2]
    have a3 := Int.emod_nonneg y.toInt (show (M + 1) ≠ 0 by omega)
    have a4 := Int.emod_lt_of_pos y.toInt (show 0 < M + 1 by omega)
    omega
  · have a2 := (c_lrem y 256 256 (by decide)).1 e1
    have a3 := c_lsub mc (y - y / 256 * 256)
    have a4 := rng64 (mc - (y - y / 256 * 256))
    omega
theorem own_fin (cb : Int32) (pw ce : Int64) (B P : Int) (hB : cb.toInt = B) (hP : pw.toInt = P) (hBP : (B = 1 ∧ P = 64) ∨ (B = 2 ∧ P = 32) ∨ (B = 4 ∧ P = 16) ∨ (B = 8 ∧ P = 8) ∨ (B = 16 ∧ P = 4) ∨ (B = 32 ∧ P = 2) ∨ (B = 64 ∧ P = 1)) (h0 : 0 ≤ ce.toInt) (h1 : ce.toInt ≤ 2147483639 * P) : (own_wd ce cb).toInt64 = own_ex ce pw := by
  apply Int64.toInt_inj.mp
  have b0 := c_i2l cb
  have b1 := c_lmul ce cb.toInt64
  have b2 := c_ladd (ce * cb.toInt64) 64
  have b3 := c_lsub (ce * cb.toInt64 + 64) 1
  have b4 : (64 : Int64).toInt = 64 := by decide
  have b5 : (1 : Int64).toInt = 1 := by decide
  have b6 := rng64 (ce * cb.toInt64)
  have b7 := rng64 (ce * cb.toInt64 + 64)
  have b8 := rng64 (ce * cb.toInt64 + 64 - 1)
  have b9 := (c_ldiv (ce * cb.toInt64 + 64 - 1) 64 64 (by decide) (by decide)).1
  have b10 := c_l2i ((ce * cb.toInt64 + 64 - 1) / 64)
  have b11 := rng32 ((ce * cb.toInt64 + 64 - 1) / 64).toInt32
  have b12 := c_i2l ((ce * cb.toInt64 + 64 - 1) / 64).toInt32
  have d1 : pw ≠ -1 := fun q => by
    have := congrArg Int64.toInt q
    rw [hP, show (-1 : Int64).toInt = -1 by decide] at this
    omega
  have d2 := (c_ldiv ce pw P hP d1).1 h0
  have d3 := (c_lrem ce pw P hP).1 h0
  have d4 := c_ladd (ce / pw) 1
  have d5 := rng64 (ce / pw + 1)
  have d6 : ∀ z : Int64, z = 0 ↔ z.toInt = 0 := fun z => ⟨fun q => by rw [q]; decide, fun q => Int64.toInt_inj.mp (by rw [q]; decide)⟩
  unfold own_wd own_ex
  rw [b12]
  rw [b0, hB] at b1
  rw [hP] at *
  rcases hBP with ⟨rfl, rfl⟩ | ⟨rfl, rfl⟩ | ⟨rfl, rfl⟩ | ⟨rfl, rfl⟩ | ⟨rfl, rfl⟩ | ⟨rfl, rfl⟩ | ⟨rfl, rfl⟩ <;> (split <;> rename_i hz <;> rw [d6] at hz <;> omega)
theorem d2_0 : decode jdk_30_method_1_code 0 = .ok (.aload_n 0, 1) := by decide +kernel
theorem d2_1 : decode jdk_30_method_1_code 1 = .ok (.invokespecial 1, 3) := by decide +kernel
theorem d2_4 : decode jdk_30_method_1_code 4 = .ok (.return_, 1) := by decide +kernel
theorem pn_2 : plainName "java/lang/Record" = true := by first | (simp [plainName, overriddenIn]; done) | decide +kernel
theorem ef_2 (m : MethodId) (x0 : Addr) : entryFrame m #[(.ref x0)] 1 = mkF m 0 #[.val (.ref x0)] [] := by first | (simp [entryFrame, mkF, argsToLocals, Value.category]; done) | rfl
def Q2 (Z : State) (a1 : Addr) (h0 : Heap) (n0 : Nat) (v : Option Value) (h : Heap) (L : List Loc) : Prop := v = none ∧ Fr n0 L ∧ h = h0
set_option maxRecDepth 65536 in
set_option maxHeartbeats 40000000 in
theorem rm2 (l : Launch) (Z : State) (a0 : Array Value) (hw : ∀ d ∈ tables_1, d.before a0 Z = true) (ws : List Jvm.Cond) (a1 : Addr) (h0 : Heap) (n0 : Nat) (Z0 : n0 ≤ h0.size) :
    MetFree l (⟨"java/lang/Record", "<init>", "()V"⟩ : MethodName) (head1 (Jvm.Cond.code (⟨"java/lang/Record", "<init>", "()V"⟩ : MethodName) jdk_30_method_1_code 1 none :: ws) ({ frames := 1, cells := 0, slots := 0, locals := 12 } : Room)) (fun a U => a = #[(.ref a1)] ∧ Z.Warmed39 U.vm ∧ U.heap = h0) (fun _ _ _ _ _ => True) (fun _ U o U' => ∃ v L, o = .returned v ∧ Q2 Z a1 h0 n0 v U'.heap L ∧ FrameEnd U o U' L ({ frames := 1, cells := 0, slots := 0, locals := 12 } : Room).cells ({ frames := 1, cells := 0, slots := 0, locals := 12 } : Room).slots) := by
  refine MetFree.of_bodySF (plainFor_of_name pn_2) hisR ?_
  intro p e s m args below meth c s₁ Bd hml0 hP hK
  obtain ⟨rfl, hZ, hh⟩ := hP
  have hx := Bd.exec
  have hby := Bd.bytes
  have hml : c.maxLocals = 1 := hml0
  have hown : s.vm.findClass "java/lang/Record" = some m.cls := findClass_of_methodNamed Bd.named
  have hnm := (name_of_methodNamed Bd.named Bd.method).1
  have X0 : Stand p l e ({ frames := 1, cells := 0, slots := 0, locals := 12 } : Room) s m #[(.ref a1)] below meth c s₁ [] 0 0 := Stand.of_body Bd
  have e0 : s₁.heap = h0 := by rw [← hh, Bd.state]; rfl
  have N0 := Fr.nil n0
  have pre0 : ∀ t, Steps p.tables e below (s₁.setTop (mkF m 0 #[.val (.ref a1)] [])) t → Steps p.tables e below (s₁.setTop (entryFrame m #[(.ref a1)] 1)) t := fun t k => castTop (ef_2 m a1) k
  -- 3. LAWS
  obtain ⟨T2, X2, e2, st2⟩ := initO X0 hx hZ hown (hw _ (List.mem_of_getElem? (i := 26) rfl)) (hw _ (List.mem_of_getElem? (i := 27) rfl)) (hw _ (List.mem_of_getElem? (i := 28) rfl)) e0 (g := (mkF m 1 #[.val (.ref a1)] [(.ref a1)])) rfl (by rw [hml]; rfl) rfl (hb hby d2_1) (by decide) (W := 0) (by show 2 * 0 + _ ≤ _; exact Nat.le_of_eq rfl) (by decide)
  obtain ⟨fs, hr, hrun, hended, hW, hsame⟩ := X2.leave (v := none) (fun _ => rfl)
  refine ⟨_, _, pre0 _ ?_, hrun, hended, _, _, rfl, ?_, ⟨_, rfl⟩, hW, hsame.mono (by decide) (by decide)⟩
  -- 4. STEPS
  · show Steps p.tables e below (s₁.setTop (mkF m 0 #[.val (.ref a1)] [])) _
    refine XS.aloadN X0.here hx rfl (hb hby d2_0) rfl rfl ?_
    show Steps p.tables e below (s₁.setTop (mkF m 1 #[.val (.ref a1)] [(.ref a1)])) _
    refine st2 _ ?_
    show Steps p.tables e below (T2.setTop (mkF m 4 #[.val (.ref a1)] [])) _
    exact X2.returnOut hx Bd.returns (hb hby d2_4) hr
  · show Q2 Z a1 h0 n0 _ T2.heap _
    rw [e2]
    exact ⟨rfl, N0, rfl⟩
theorem d1_0 : decode prog_2_method_1_code 0 = .ok (.aload_n 0, 1) := by decide +kernel
theorem d1_1 : decode prog_2_method_1_code 1 = .ok (.invokespecial 1, 3) := by decide +kernel
theorem d1_4 : decode prog_2_method_1_code 4 = .ok (.aload_n 0, 1) := by decide +kernel
theorem d1_5 : decode prog_2_method_1_code 5 = .ok (.aload_n 1, 1) := by decide +kernel
theorem d1_6 : decode prog_2_method_1_code 6 = .ok (.putfield 7, 3) := by decide +kernel
theorem d1_9 : decode prog_2_method_1_code 9 = .ok (.aload_n 0, 1) := by decide +kernel
theorem d1_10 : decode prog_2_method_1_code 10 = .ok (.iload_n 2, 1) := by decide +kernel
theorem d1_11 : decode prog_2_method_1_code 11 = .ok (.putfield 13, 3) := by decide +kernel
theorem d1_14 : decode prog_2_method_1_code 14 = .ok (.aload_n 0, 1) := by decide +kernel
theorem d1_15 : decode prog_2_method_1_code 15 = .ok (.aload_n 3, 1) := by decide +kernel
theorem d1_16 : decode prog_2_method_1_code 16 = .ok (.putfield 17, 3) := by decide +kernel
theorem d1_19 : decode prog_2_method_1_code 19 = .ok (.return_, 1) := by decide +kernel
theorem pn_1 : plainName "com/example/compact_set_filters/compactsetfilters/AbstractBloomFilter$Layout" = true := by first | (simp [plainName, overriddenIn]; done) | decide +kernel
theorem pd_1_1 : parseMethodDescriptor "()V" = some ⟨[], none⟩ := by decide +kernel
theorem ef_1 (m : MethodId) (x0 : Addr) (x1 : Addr) (x2 : Int32) (x3 : Addr) : entryFrame m #[(.ref x0), (.ref x1), (.int x2), (.ref x3)] 4 = mkF m 0 #[.val (.ref x0), .val (.ref x1), .val (.int x2), .val (.ref x3)] [] := by first | (simp [entryFrame, mkF, argsToLocals, Value.category]; done) | rfl
def Q1 (Z : State) (a1 : Addr) (a2 : Addr) (p3 : Int32) (a4 : Addr) (u_kind_a1 : Value) (u_cellBits_a1 : Value) (u_cellName_a1 : Value) (h0 : Heap) (n0 : Nat) (v : Option Value) (h : Heap) (L : List Loc) : Prop := v = none ∧ Fr n0 L ∧ Keep h0 h [a1] ∧ Exa Z h a1 "com/example/compact_set_filters/compactsetfilters/AbstractBloomFilter$Layout" ∧ Fld Z h a1 "com/example/compact_set_filters/compactsetfilters/AbstractBloomFilter$Layout" "cellBits" "I" (.int p3)
set_option maxRecDepth 65536 in
set_option maxHeartbeats 40000000 in
theorem rm1 (l : Launch) (Z : State) (a0 : Array Value) (hw : ∀ d ∈ tables_1, d.before a0 Z = true) (ws : List Jvm.Cond) (a1 : Addr) (a2 : Addr) (p3 : Int32) (a4 : Addr) (u_kind_a1 : Value) (u_cellBits_a1 : Value) (u_cellName_a1 : Value) (h0 : Heap) (n0 : Nat) (Z0 : n0 ≤ h0.size) (E_a1 : Exa Z h0 a1 "com/example/compact_set_filters/compactsetfilters/AbstractBloomFilter$Layout") (F_kind_a1 : Fld Z h0 a1 "com/example/compact_set_filters/compactsetfilters/AbstractBloomFilter$Layout" "kind" "Lcom/example/compact_set_filters/compactsetfilters/FilterKind;" u_kind_a1) (g_a1 : n0 ≤ a1) (F_cellBits_a1 : Fld Z h0 a1 "com/example/compact_set_filters/compactsetfilters/AbstractBloomFilter$Layout" "cellBits" "I" u_cellBits_a1) (F_cellName_a1 : Fld Z h0 a1 "com/example/compact_set_filters/compactsetfilters/AbstractBloomFilter$Layout" "cellName" "Ljava/lang/String;" u_cellName_a1) :
    MetFree l (⟨"com/example/compact_set_filters/compactsetfilters/AbstractBloomFilter$Layout", "<init>", "(Lcom/example/compact_set_filters/compactsetfilters/FilterKind;ILjava/lang/String;)V"⟩ : MethodName) (head1 (Jvm.Cond.code (⟨"com/example/compact_set_filters/compactsetfilters/AbstractBloomFilter$Layout", "<init>", "(Lcom/example/compact_set_filters/compactsetfilters/FilterKind;ILjava/lang/String;)V"⟩ : MethodName) prog_2_method_1_code 4 none :: ws) ({ frames := 2, cells := 0, slots := 0, locals := 24 } : Room)) (fun a U => a = #[(.ref a1), (.ref a2), (.int p3), (.ref a4)] ∧ Z.Warmed39 U.vm ∧ U.heap = h0) (fun _ _ _ _ _ => True) (fun _ U o U' => ∃ v L, o = .returned v ∧ Q1 Z a1 a2 p3 a4 u_kind_a1 u_cellBits_a1 u_cellName_a1 h0 n0 v U'.heap L ∧ FrameEnd U o U' L ({ frames := 2, cells := 0, slots := 0, locals := 24 } : Room).cells ({ frames := 2, cells := 0, slots := 0, locals := 24 } : Room).slots) := by
  refine MetFree.of_bodySF (plainFor_of_name pn_1) hisR ?_
  intro p e s m args below meth c s₁ Bd hml0 hP hK
  obtain ⟨rfl, hZ, hh⟩ := hP
  have hx := Bd.exec
  have hby := Bd.bytes
  have hml : c.maxLocals = 4 := hml0
  have hown : s.vm.findClass "com/example/compact_set_filters/compactsetfilters/AbstractBloomFilter$Layout" = some m.cls := findClass_of_methodNamed Bd.named
  have hnm := (name_of_methodNamed Bd.named Bd.method).1
  have X0 : Stand p l e ({ frames := 2, cells := 0, slots := 0, locals := 24 } : Room) s m #[(.ref a1), (.ref a2), (.int p3), (.ref a4)] below meth c s₁ [] 0 0 := Stand.of_body Bd
  have e0 : s₁.heap = h0 := by rw [← hh, Bd.state]; rfl
  have N0 := Fr.nil n0
  have pre0 : ∀ t, Steps p.tables e below (s₁.setTop (mkF m 0 #[.val (.ref a1), .val (.ref a2), .val (.int p3), .val (.ref a4)] [])) t → Steps p.tables e below (s₁.setTop (entryFrame m #[(.ref a1), (.ref a2), (.int p3), (.ref a4)] 4)) t := fun t k => castTop (ef_1 m a1 a2 p3 a4) k
  -- 3. LAWS
  -- pc 1: the constructor of java/lang/Record by its contract rm2
  obtain ⟨_, _, ⟨T5, L5, k5, n5⟩, -, X5, ⟨Lc5, hQ5, l5, y5, z5⟩, st5⟩ := X0.specialBack hx (y := (⟨"java/lang/Record", "<init>", "()V"⟩ : MethodName)) rfl hown (mvT hZ (hw _ (List.mem_of_getElem? (i := 21) rfl))) (mvT hZ (hw _ (List.mem_of_getElem? (i := 22) rfl))) (mvT hZ (hw _ (List.mem_of_getElem? (i := 25) rfl))) (by decide) (backOf (W := 0) (rm2 l Z a0 hw [] a1 h0 n0 Z0) hZ (hw _ (List.mem_of_getElem? (i := 25) rfl)) (hw _ (List.mem_of_getElem? (i := 24) rfl)) (by decide) (by decide)) (g := (mkF m 1 #[.val (.ref a1), .val (.ref a2), .val (.int p3), .val (.ref a4)] [(.ref a1)])) rfl (by rw [hml]; rfl) (Steps.refl _) (a := a1) (argsL := []) (rest := []) (lenOf pd_1_1 rfl) rfl (by show 2 * 0 + _ ≤ _; exact Nat.le_of_eq rfl) (hb hby d1_1) (fun _ _ => ⟨rfl, e0, (by decide : 0 + 0 ≤ _), (by decide : 0 + 0 ≤ _)⟩)
  dsimp only [Pt.U, Pt.locs, Pt.cells, Pt.slots] at X5 l5 y5 z5 st5 hQ5
  subst l5 y5 z5
  obtain ⟨rfl, N5q, E5q⟩ := hQ5
  have K5q : Keep h0 T5.heap [] := by rw [E5q]; exact Keep.refl _ _
  have KK5 : Keep h0 T5.heap [a1] := (Keep.refl _ _).trans K5q all0
  have Z5 : n0 ≤ T5.heap.size := Nat.le_trans Z0 K5q.1
  have N5 := Fr.app N0 N5q
  obtain ⟨T6, h6, X6, e6, W6, st6⟩ := putF X5 hx hZ hown (host := "") (Or.inl (hw _ (List.mem_of_getElem? (i := 29) rfl))) Via.refl rfl (F_kind_a1.keep K5q nin0) (E_a1.keep K5q) (Or.inr ⟨(hw _ (List.mem_of_getElem? (i := 30) rfl)), rfl, hnm⟩) (hw _ (List.mem_of_getElem? (i := 5) rfl)) (ty := (.object "com/example/compact_set_filters/compactsetfilters/FilterKind")) (by decide) rfl rfl (g := (mkF m 6 #[.val (.ref a1), .val (.ref a2), .val (.int p3), .val (.ref a4)] [(.ref a2), (.ref a1)])) rfl rfl (hb hby d1_6)
  have Z6 : n0 ≤ h6.size := Nat.le_trans Z5 (Keep.of_wr W6).1
  have Fw6 := (F_kind_a1.keep K5q nin0).same W6      -- the field now holds (.ref a2)
  have K6 : Keep h0 h6 [a1] := (KK5).wr W6 (Or.inl (List.mem_of_getElem? (i := 0) rfl))
  have N6 := Fr.snoc X6 N5 g_a1
  obtain ⟨T7, h7, X7, e7, W7, st7⟩ := putF X6 hx hZ hown (host := "") (Or.inl (hw _ (List.mem_of_getElem? (i := 31) rfl))) Via.refl e6 ((F_cellBits_a1.keep K5q nin0).other W6 (Or.inr (slot_ne (Or.inr (hw _ (List.mem_of_getElem? (i := 32) rfl))) (Or.inr (hw _ (List.mem_of_getElem? (i := 30) rfl))) (by decide) (t := .int) (t' := (.object "com/example/compact_set_filters/compactsetfilters/FilterKind")) (by decide) (by decide)))) ((E_a1.keep K5q).wr W6) (Or.inr ⟨(hw _ (List.mem_of_getElem? (i := 32) rfl)), rfl, hnm⟩) (hw _ (List.mem_of_getElem? (i := 5) rfl)) (ty := .int) (by decide) rfl rfl (g := (mkF m 11 #[.val (.ref a1), .val (.ref a2), .val (.int p3), .val (.ref a4)] [(.int p3), (.ref a1)])) rfl rfl (hb hby d1_11)
  have Z7 : n0 ≤ h7.size := Nat.le_trans Z6 (Keep.of_wr W7).1
  have Fw7 := ((F_cellBits_a1.keep K5q nin0).other W6 (Or.inr (slot_ne (Or.inr (hw _ (List.mem_of_getElem? (i := 32) rfl))) (Or.inr (hw _ (List.mem_of_getElem? (i := 30) rfl))) (by decide) (t := .int) (t' := (.object "com/example/compact_set_filters/compactsetfilters/FilterKind")) (by decide) (by decide)))).same W7      -- the field now holds (.int p3)
  have K7 : Keep h0 h7 [a1] := K6.wr W7 (Or.inl (List.mem_of_getElem? (i := 0) rfl))
  have N7 := Fr.snoc X7 N6 g_a1
  obtain ⟨T8, h8, X8, e8, W8, st8⟩ := putF X7 hx hZ hown (host := "") (Or.inl (hw _ (List.mem_of_getElem? (i := 33) rfl))) Via.refl e7 (((F_cellName_a1.keep K5q nin0).other W6 (Or.inr (slot_ne (Or.inr (hw _ (List.mem_of_getElem? (i := 34) rfl))) (Or.inr (hw _ (List.mem_of_getElem? (i := 30) rfl))) (by decide) (t := (.object "java/lang/String")) (t' := (.object "com/example/compact_set_filters/compactsetfilters/FilterKind")) (by decide) (by decide)))).other W7 (Or.inr (slot_ne (Or.inr (hw _ (List.mem_of_getElem? (i := 34) rfl))) (Or.inr (hw _ (List.mem_of_getElem? (i := 32) rfl))) (by decide) (t := (.object "java/lang/String")) (t' := .int) (by decide) (by decide)))) (((E_a1.keep K5q).wr W6).wr W7) (Or.inr ⟨(hw _ (List.mem_of_getElem? (i := 34) rfl)), rfl, hnm⟩) (hw _ (List.mem_of_getElem? (i := 5) rfl)) (ty := (.object "java/lang/String")) (by decide) rfl rfl (g := (mkF m 16 #[.val (.ref a1), .val (.ref a2), .val (.int p3), .val (.ref a4)] [(.ref a4), (.ref a1)])) rfl rfl (hb hby d1_16)
  have Z8 : n0 ≤ h8.size := Nat.le_trans Z7 (Keep.of_wr W8).1
  have Fw8 := (((F_cellName_a1.keep K5q nin0).other W6 (Or.inr (slot_ne (Or.inr (hw _ (List.mem_of_getElem? (i := 34) rfl))) (Or.inr (hw _ (List.mem_of_getElem? (i := 30) rfl))) (by decide) (t := (.object "java/lang/String")) (t' := (.object "com/example/compact_set_filters/compactsetfilters/FilterKind")) (by decide) (by decide)))).other W7 (Or.inr (slot_ne (Or.inr (hw _ (List.mem_of_getElem? (i := 34) rfl))) (Or.inr (hw _ (List.mem_of_getElem? (i := 32) rfl))) (by decide) (t := (.object "java/lang/String")) (t' := .int) (by decide) (by decide)))).same W8      -- the field now holds (.ref a4)
  have K8 : Keep h0 h8 [a1] := K7.wr W8 (Or.inl (List.mem_of_getElem? (i := 0) rfl))
  have N8 := Fr.snoc X8 N7 g_a1
  obtain ⟨fs, hr, hrun, hended, hW, hsame⟩ := X8.leave (v := none) (fun _ => rfl)
  refine ⟨_, _, pre0 _ ?_, hrun, hended, _, _, rfl, ?_, ⟨_, rfl⟩, hW, hsame.mono (by decide) (by decide)⟩
  -- 4. STEPS
  · show Steps p.tables e below (s₁.setTop (mkF m 0 #[.val (.ref a1), .val (.ref a2), .val (.int p3), .val (.ref a4)] [])) _
    refine XS.aloadN X0.here hx rfl (hb hby d1_0) rfl rfl ?_
    show Steps p.tables e below (s₁.setTop (mkF m 1 #[.val (.ref a1), .val (.ref a2), .val (.int p3), .val (.ref a4)] [(.ref a1)])) _
    refine st5.trans ?_
    show Steps p.tables e below (T5.setTop (mkF m 4 #[.val (.ref a1), .val (.ref a2), .val (.int p3), .val (.ref a4)] [])) _
    refine XS.aloadN X5.here hx rfl (hb hby d1_4) rfl rfl ?_
    show Steps p.tables e below (T5.setTop (mkF m 5 #[.val (.ref a1), .val (.ref a2), .val (.int p3), .val (.ref a4)] [(.ref a1)])) _
    refine XS.aloadN X5.here hx rfl (hb hby d1_5) rfl rfl ?_
    show Steps p.tables e below (T5.setTop (mkF m 6 #[.val (.ref a1), .val (.ref a2), .val (.int p3), .val (.ref a4)] [(.ref a2), (.ref a1)])) _
    refine st6 _ ?_
    show Steps p.tables e below (T6.setTop (mkF m 9 #[.val (.ref a1), .val (.ref a2), .val (.int p3), .val (.ref a4)] [])) _
    refine XS.aloadN X6.here hx rfl (hb hby d1_9) rfl rfl ?_
    show Steps p.tables e below (T6.setTop (mkF m 10 #[.val (.ref a1), .val (.ref a2), .val (.int p3), .val (.ref a4)] [(.ref a1)])) _
    refine XS.iloadN X6.here hx rfl (hb hby d1_10) rfl ?_
    show Steps p.tables e below (T6.setTop (mkF m 11 #[.val (.ref a1), .val (.ref a2), .val (.int p3), .val (.ref a4)] [(.int p3), (.ref a1)])) _
    refine st7 _ ?_
    show Steps p.tables e below (T7.setTop (mkF m 14 #[.val (.ref a1), .val (.ref a2), .val (.int p3), .val (.ref a4)] [])) _
    refine XS.aloadN X7.here hx rfl (hb hby d1_14) rfl rfl ?_
    show Steps p.tables e below (T7.setTop (mkF m 15 #[.val (.ref a1), .val (.ref a2), .val (.int p3), .val (.ref a4)] [(.ref a1)])) _
    refine XS.aloadN X7.here hx rfl (hb hby d1_15) rfl rfl ?_
    show Steps p.tables e below (T7.setTop (mkF m 16 #[.val (.ref a1), .val (.ref a2), .val (.int p3), .val (.ref a4)] [(.ref a4), (.ref a1)])) _
    refine st8 _ ?_
    show Steps p.tables e below (T8.setTop (mkF m 19 #[.val (.ref a1), .val (.ref a2), .val (.int p3), .val (.ref a4)] [])) _
    exact X8.returnOut hx Bd.returns (hb hby d1_19) hr
  · show Q1 Z a1 a2 p3 a4 u_kind_a1 u_cellBits_a1 u_cellName_a1 h0 n0 _ T8.heap _
    rw [e8]
    exact ⟨rfl, N8, K8, ((((E_a1.keep K5q).wr W6).wr W7).wr W8), (Fw7.other W8 (Or.inr (slot_ne (Or.inr (hw _ (List.mem_of_getElem? (i := 32) rfl))) (Or.inr (hw _ (List.mem_of_getElem? (i := 34) rfl))) (by decide) (t := .int) (t' := (.object "java/lang/String")) (by decide) (by decide))))⟩
theorem d4_0 : decode prog_2_method_3_code 0 = .ok (.lload_n 1, 1) := by decide +kernel
theorem d4_1 : decode prog_2_method_3_code 1 = .ok (.aload_n 0, 1) := by decide +kernel
theorem d4_2 : decode prog_2_method_3_code 2 = .ok (.getfield 13, 3) := by decide +kernel
theorem d4_5 : decode prog_2_method_3_code 5 = .ok (.i2l, 1) := by decide +kernel
theorem d4_6 : decode prog_2_method_3_code 6 = .ok (.lmul, 1) := by decide +kernel
theorem d4_7 : decode prog_2_method_3_code 7 = .ok (.ldc2_w 27, 3) := by decide +kernel
theorem d4_10 : decode prog_2_method_3_code 10 = .ok (.ladd, 1) := by decide +kernel
theorem d4_11 : decode prog_2_method_3_code 11 = .ok (.lconst 1, 1) := by decide +kernel
theorem d4_12 : decode prog_2_method_3_code 12 = .ok (.lsub, 1) := by decide +kernel
theorem d4_13 : decode prog_2_method_3_code 13 = .ok (.ldc2_w 27, 3) := by decide +kernel
theorem d4_16 : decode prog_2_method_3_code 16 = .ok (.ldiv, 1) := by decide +kernel
theorem d4_17 : decode prog_2_method_3_code 17 = .ok (.l2i, 1) := by decide +kernel
theorem d4_18 : decode prog_2_method_3_code 18 = .ok (.ireturn, 1) := by decide +kernel
theorem pn_4 : plainName "com/example/compact_set_filters/compactsetfilters/AbstractBloomFilter$Layout" = true := by first | (simp [plainName, overriddenIn]; done) | decide +kernel
theorem ef_4 (m : MethodId) (x0 : Addr) (x1 : Int64) : entryFrame m #[(.ref x0), (.long x1)] 3 = mkF m 0 #[.val (.ref x0), .val (.long x1), .second] [] := by first | (simp [entryFrame, mkF, argsToLocals, Value.category]; done) | rfl
def Q4 (Z : State) (a1 : Addr) (q2 : Int64) (w3 : Int32) (h0 : Heap) (n0 : Nat) (v : Option Value) (h : Heap) (L : List Loc) : Prop := v = some (.int (((((q2 * (w3.toInt64)) + (64 : Int64)) - (1 : Int64)) / (64 : Int64)).toInt32)) ∧ Fr n0 L ∧ h = h0
set_option maxRecDepth 65536 in
set_option maxHeartbeats 40000000 in
theorem rm4 (l : Launch) (Z : State) (a0 : Array Value) (hw : ∀ d ∈ tables_1, d.before a0 Z = true) (ws : List Jvm.Cond) (a1 : Addr) (q2 : Int64) (w3 : Int32) (h0 : Heap) (n0 : Nat) (Z0 : n0 ≤ h0.size) (F_cellBits_a1 : Fld Z h0 a1 "com/example/compact_set_filters/compactsetfilters/AbstractBloomFilter$Layout" "cellBits" "I" (.int w3)) :
    MetFree l (⟨"com/example/compact_set_filters/compactsetfilters/AbstractBloomFilter$Layout", "wordsFor", "(J)I"⟩ : MethodName) (head1 (Jvm.Cond.code (⟨"com/example/compact_set_filters/compactsetfilters/AbstractBloomFilter$Layout", "wordsFor", "(J)I"⟩ : MethodName) prog_2_method_3_code 3 (some .int) :: ws) ({ frames := 0, cells := 0, slots := 0, locals := 0 } : Room)) (fun a U => a = #[(.ref a1), (.long q2)] ∧ Z.Warmed39 U.vm ∧ U.heap = h0) (fun _ _ _ _ _ => True) (fun _ U o U' => ∃ v L, o = .returned v ∧ Q4 Z a1 q2 w3 h0 n0 v U'.heap L ∧ FrameEnd U o U' L ({ frames := 0, cells := 0, slots := 0, locals := 0 } : Room).cells ({ frames := 0, cells := 0, slots := 0, locals := 0 } : Room).slots) := by
  refine MetFree.of_bodySF (plainFor_of_name pn_4) hisR ?_
  intro p e s m args below meth c s₁ Bd hml0 hP hK
  obtain ⟨rfl, hZ, hh⟩ := hP
  have hx := Bd.exec
  have hby := Bd.bytes
  have hml : c.maxLocals = 3 := hml0
  have hown : s.vm.findClass "com/example/compact_set_filters/compactsetfilters/AbstractBloomFilter$Layout" = some m.cls := findClass_of_methodNamed Bd.named
  have hnm := (name_of_methodNamed Bd.named Bd.method).1
  have X0 : Stand p l e ({ frames := 0, cells := 0, slots := 0, locals := 0 } : Room) s m #[(.ref a1), (.long q2)] below meth c s₁ [] 0 0 := Stand.of_body Bd
  have e0 : s₁.heap = h0 := by rw [← hh, Bd.state]; rfl
  have N0 := Fr.nil n0
  have pre0 : ∀ t, Steps p.tables e below (s₁.setTop (mkF m 0 #[.val (.ref a1), .val (.long q2), .second] [])) t → Steps p.tables e below (s₁.setTop (entryFrame m #[(.ref a1), (.long q2)] 3)) t := fun t k => castTop (ef_4 m a1 q2) k
  -- 3. LAWS
  obtain ⟨T4, X4, e4, st4⟩ := getF X0 hx hZ hown (host := "") (Or.inl (hw _ (List.mem_of_getElem? (i := 31) rfl))) Via.refl e0 F_cellBits_a1 (g := (mkF m 2 #[.val (.ref a1), .val (.long q2), .second] [(.ref a1), (.long q2)])) rfl rfl (hb hby d4_2)
  obtain ⟨fs, hr, hrun, hended, hW, hsame⟩ := X4.leave (v := some (.int (((((q2 * (w3.toInt64)) + (64 : Int64)) - (1 : Int64)) / (64 : Int64)).toInt32))) (fun h => by rw [Bd.returns] at h; cases h)
  refine ⟨_, _, pre0 _ ?_, hrun, hended, _, _, rfl, ?_, ⟨_, rfl⟩, hW, hsame.mono (by decide) (by decide)⟩
  -- 4. STEPS
  · show Steps p.tables e below (s₁.setTop (mkF m 0 #[.val (.ref a1), .val (.long q2), .second] [])) _
    refine XS.lloadN X0.here hx rfl (hb hby d4_0) rfl ?_
    show Steps p.tables e below (s₁.setTop (mkF m 1 #[.val (.ref a1), .val (.long q2), .second] [(.long q2)])) _
    refine XS.aloadN X0.here hx rfl (hb hby d4_1) rfl rfl ?_
    show Steps p.tables e below (s₁.setTop (mkF m 2 #[.val (.ref a1), .val (.long q2), .second] [(.ref a1), (.long q2)])) _
    refine st4 _ ?_
    show Steps p.tables e below (T4.setTop (mkF m 5 #[.val (.ref a1), .val (.long q2), .second] [(.int w3), (.long q2)])) _
    refine XS.i2l X4.here hx rfl (hb hby d4_5) rfl ?_
    show Steps p.tables e below (T4.setTop (mkF m 6 #[.val (.ref a1), .val (.long q2), .second] [(.long (w3.toInt64)), (.long q2)])) _
    refine XS.lmul X4.here hx rfl (hb hby d4_6) rfl ?_
    show Steps p.tables e below (T4.setTop (mkF m 7 #[.val (.ref a1), .val (.long q2), .second] [(.long (q2 * (w3.toInt64)))])) _
    refine X4.ldc2Long hx hown (mvT hZ (hw _ (List.mem_of_getElem? (i := 40) rfl))) (g := (mkF m 7 #[.val (.ref a1), .val (.long q2), .second] [(.long (q2 * (w3.toInt64)))])) rfl (hb hby d4_7) _ ?_
    show Steps p.tables e below (T4.setTop (mkF m 10 #[.val (.ref a1), .val (.long q2), .second] [(.long (64 : Int64)), (.long (q2 * (w3.toInt64)))])) _
    refine XS.ladd X4.here hx rfl (hb hby d4_10) rfl ?_
    show Steps p.tables e below (T4.setTop (mkF m 11 #[.val (.ref a1), .val (.long q2), .second] [(.long ((q2 * (w3.toInt64)) + (64 : Int64)))])) _
    refine XS.lconst X4.here hx rfl (hb hby d4_11) ?_
    show Steps p.tables e below (T4.setTop (mkF m 12 #[.val (.ref a1), .val (.long q2), .second] [(.long (1 : Int64)), (.long ((q2 * (w3.toInt64)) + (64 : Int64)))])) _
    refine XS.lsub X4.here hx rfl (hb hby d4_12) rfl ?_
    show Steps p.tables e below (T4.setTop (mkF m 13 #[.val (.ref a1), .val (.long q2), .second] [(.long (((q2 * (w3.toInt64)) + (64 : Int64)) - (1 : Int64)))])) _
    refine X4.ldc2Long hx hown (mvT hZ (hw _ (List.mem_of_getElem? (i := 40) rfl))) (g := (mkF m 13 #[.val (.ref a1), .val (.long q2), .second] [(.long (((q2 * (w3.toInt64)) + (64 : Int64)) - (1 : Int64)))])) rfl (hb hby d4_13) _ ?_
    show Steps p.tables e below (T4.setTop (mkF m 16 #[.val (.ref a1), .val (.long q2), .second] [(.long (64 : Int64)), (.long (((q2 * (w3.toInt64)) + (64 : Int64)) - (1 : Int64)))])) _
    refine XS.ldiv X4.here hx rfl (hb hby d4_16) rfl (by decide) ?_
    show Steps p.tables e below (T4.setTop (mkF m 17 #[.val (.ref a1), .val (.long q2), .second] [(.long ((((q2 * (w3.toInt64)) + (64 : Int64)) - (1 : Int64)) / (64 : Int64)))])) _
    refine XS.l2i X4.here hx rfl (hb hby d4_17) rfl ?_
    show Steps p.tables e below (T4.setTop (mkF m 18 #[.val (.ref a1), .val (.long q2), .second] [(.int (((((q2 * (w3.toInt64)) + (64 : Int64)) - (1 : Int64)) / (64 : Int64)).toInt32))])) _
    exact retI X4 hx Bd.returns (hb hby d4_18) hr      -- retI stands in the head ('lawwalk <made dir>' prints it)
  · show Q4 Z a1 q2 w3 h0 n0 _ T4.heap _
    rw [e4]
    exact ⟨rfl, N0, rfl⟩
theorem pn_0 : plainName "com/example/compact_set_filters/compactsetfilters/LayoutWordsForPinLaw" = true := by first | (simp [plainName, overriddenIn]; done) | decide +kernel
theorem pd_0_0 : parseMethodDescriptor "(Lcom/example/compact_set_filters/compactsetfilters/FilterKind;ILjava/lang/String;)V" = some ⟨[(.object "com/example/compact_set_filters/compactsetfilters/FilterKind"), .int, (.object "java/lang/String")], none⟩ := by decide +kernel
theorem pd_0_2 : parseMethodDescriptor "(J)I" = some ⟨[.long], some .int⟩ := by decide +kernel
theorem ef_0 (m : MethodId) (x0 : Int32) (x1 : Int64) : entryFrame m #[(.int x0), (.long x1)] maxLocals = mkF m 0 #[.val (.int x0), .val (.long x1), .second, .unset, .unset, .unset, .unset, .unset, .unset, .unset, .unset, .unset, .unset, .unset, .unset, .unset, .unset, .unset] [] := by first | (simp [entryFrame, mkF, argsToLocals, Value.category, maxLocals]; done) | rfl
def Q0 (Z : State) (p1 : Int32) (q2 : Int64) (w4 : Addr) (h0 : Heap) (n0 : Nat) (v : Option Value) (h : Heap) (L : List Loc) : Prop := v = some (.int (1 : Int32)) ∧ Fr n0 L
set_option maxRecDepth 65536 in
set_option maxHeartbeats 40000000 in
theorem rm0x (l : Launch) (Z : State) (a0 : Array Value) (hw : ∀ d ∈ tables_1, d.before a0 Z = true) (ws : List Jvm.Cond) (p1 : Int32) (q2 : Int64) (w4 : Addr) (h0 : Heap) (n0 : Nat) (Z0 : n0 ≤ h0.size) (S_BLOOM : Sta Z h0 "com/example/compact_set_filters/compactsetfilters/FilterKind" "BLOOM" "Lcom/example/compact_set_filters/compactsetfilters/FilterKind;" (.ref w4)) (cb : Int32) (pw mc : Int64) (hcb : ((1 : Int32) <<< (((p1 &&& (2147483647 : Int32)) % (7 : Int32)) &&& 31)) = cb) (hpw : (64 : Int64) / (cb.toInt64) = pw) (hmc : (2147483639 : Int64) * pw = mc) (hnz1 : ¬ (cb.toInt64 = (0 : Int64))) (hnz2 : ¬ (pw = (0 : Int64))) (hnz3 : ¬ ((mc + (1 : Int64)) = (0 : Int64))) (hfin : (own_wd (own_ce (p1 &&& (8 : Int32)) q2 mc) cb).toInt64 = own_ex (own_ce (p1 &&& (8 : Int32)) q2 mc) pw) :
    MetFree l x (head1 (Jvm.Cond.code x code maxLocals ret :: ws) room_1) (fun a U => a = #[(.int p1), (.long q2)] ∧ Z.Warmed39 U.vm ∧ U.heap = h0) (fun _ _ _ _ _ => True) (fun _ U o U' => ∃ v L, o = .returned v ∧ Q0 Z p1 q2 w4 h0 n0 v U'.heap L ∧ ReturnedEndW U o U' L room_1.cells room_1.slots) := by
  refine MetFree.of_bodySF (plainFor_of_name pn_0) hisR ?_
  intro p e s m args below meth c s₁ Bd hml0 hP hK
  obtain ⟨rfl, hZ, hh⟩ := hP
  have hx := Bd.exec
  have hby := Bd.bytes
  have hml : c.maxLocals = 18 := hml0
  have hown : s.vm.findClass "com/example/compact_set_filters/compactsetfilters/LayoutWordsForPinLaw" = some m.cls := findClass_of_methodNamed Bd.named
  have hnm := (name_of_methodNamed Bd.named Bd.method).1
  have X0 : Stand p l e room_1 (s.setVm s.vm) m #[(.int p1), (.long q2)] below meth c s₁ [] 0 0 := Stand.of_body Bd
  have e0 : s₁.heap = h0 := by rw [← hh, Bd.state]; rfl
  have N0 := Fr.nil n0
  have hS : s.Since s.vm h0.size := (State.WarmedH.refl s).since h0.size
  have hwS : ∀ a ∈ Bundle.stringAtoms, a.before a0 Z = true := fun d hd => hw d ((by decide +kernel : ∀ d ∈ Bundle.stringAtoms, d ∈ tables_1) d hd)
  have pre0 : ∀ t, Steps p.tables e below (s₁.setTop (mkF m 0 #[.val (.int p1), .val (.long q2), .second, .unset, .unset, .unset, .unset, .unset, .unset, .unset, .unset, .unset, .unset, .unset, .unset, .unset, .unset, .unset] [])) t → Steps p.tables e below (s₁.setTop (entryFrame m #[(.int p1), (.long q2)] maxLocals)) t := fun t k => castTop (ef_0 m p1 q2) k
  -- 3. LAWS
  have jmp_0 : ∀ target, Steps p.tables e below (s₁.setTop (mkF m 26 #[.val (.int p1), .val (.long q2), .second, .val (.int cb), .val (.long pw), .second, .val (.long mc), .second, .unset, .unset, .unset, .unset, .unset, .unset, .unset, .unset, .unset, .unset] [])) target → Steps p.tables e below (s₁.setTop (mkF m 0 #[.val (.int p1), .val (.long q2), .second, .unset, .unset, .unset, .unset, .unset, .unset, .unset, .unset, .unset, .unset, .unset, .unset, .unset, .unset, .unset] [])) target := by
    intro target kt
    · subst hmc; subst hpw; subst hcb
      show Steps p.tables e below (s₁.setTop (mkF m 0 #[.val (.int p1), .val (.long q2), .second, .unset, .unset, .unset, .unset, .unset, .unset, .unset, .unset, .unset, .unset, .unset, .unset, .unset, .unset, .unset] [])) _
      refine XS.iconst X0.here hx rfl (hb hby at_0) ?_
      show Steps p.tables e below (s₁.setTop (mkF m 1 #[.val (.int p1), .val (.long q2), .second, .unset, .unset, .unset, .unset, .unset, .unset, .unset, .unset, .unset, .unset, .unset, .unset, .unset, .unset, .unset] [(.int (1 : Int32))])) _
      refine XS.iloadN X0.here hx rfl (hb hby at_1) rfl ?_
      show Steps p.tables e below (s₁.setTop (mkF m 2 #[.val (.int p1), .val (.long q2), .second, .unset, .unset, .unset, .unset, .unset, .unset, .unset, .unset, .unset, .unset, .unset, .unset, .unset, .unset, .unset] [(.int p1), (.int (1 : Int32))])) _
      refine X0.ldcInt hx hown (mvT hZ (hw _ (List.mem_of_getElem? (i := 0) rfl))) (g := (mkF m 2 #[.val (.int p1), .val (.long q2), .second, .unset, .unset, .unset, .unset, .unset, .unset, .unset, .unset, .unset, .unset, .unset, .unset, .unset, .unset, .unset] [(.int p1), (.int (1 : Int32))])) rfl (hb hby at_2) _ ?_
      show Steps p.tables e below (s₁.setTop (mkF m 4 #[.val (.int p1), .val (.long q2), .second, .unset, .unset, .unset, .unset, .unset, .unset, .unset, .unset, .unset, .unset, .unset, .unset, .unset, .unset, .unset] [(.int (2147483647 : Int32)), (.int p1), (.int (1 : Int32))])) _
      refine XS.iand X0.here hx rfl (hb hby at_4) rfl ?_
      show Steps p.tables e below (s₁.setTop (mkF m 5 #[.val (.int p1), .val (.long q2), .second, .unset, .unset, .unset, .unset, .unset, .unset, .unset, .unset, .unset, .unset, .unset, .unset, .unset, .unset, .unset] [(.int (p1 &&& (2147483647 : Int32))), (.int (1 : Int32))])) _
      refine XS.bipush X0.here hx rfl (hb hby at_5) ?_
      show Steps p.tables e below (s₁.setTop (mkF m 7 #[.val (.int p1), .val (.long q2), .second, .unset, .unset, .unset, .unset, .unset, .unset, .unset, .unset, .unset, .unset, .unset, .unset, .unset, .unset, .unset] [(.int (7 : Int32)), (.int (p1 &&& (2147483647 : Int32))), (.int (1 : Int32))])) _
      refine iremM X0 hx rfl (hb hby at_7) rfl (by decide) ?_
      show Steps p.tables e below (s₁.setTop (mkF m 8 #[.val (.int p1), .val (.long q2), .second, .unset, .unset, .unset, .unset, .unset, .unset, .unset, .unset, .unset, .unset, .unset, .unset, .unset, .unset, .unset] [(.int ((p1 &&& (2147483647 : Int32)) % (7 : Int32))), (.int (1 : Int32))])) _
      refine XS.ishl X0.here hx rfl (hb hby at_8) rfl ?_
      show Steps p.tables e below (s₁.setTop (mkF m 9 #[.val (.int p1), .val (.long q2), .second, .unset, .unset, .unset, .unset, .unset, .unset, .unset, .unset, .unset, .unset, .unset, .unset, .unset, .unset, .unset] [(.int ((1 : Int32) <<< (((p1 &&& (2147483647 : Int32)) % (7 : Int32)) &&& 31)))])) _
      refine XS.istoreN X0.here hx rfl (hb hby at_9) rfl (l' := #[.val (.int p1), .val (.long q2), .second, .val (.int ((1 : Int32) <<< (((p1 &&& (2147483647 : Int32)) % (7 : Int32)) &&& 31))), .unset, .unset, .unset, .unset, .unset, .unset, .unset, .unset, .unset, .unset, .unset, .unset, .unset, .unset]) rfl ?_
      show Steps p.tables e below (s₁.setTop (mkF m 10 #[.val (.int p1), .val (.long q2), .second, .val (.int ((1 : Int32) <<< (((p1 &&& (2147483647 : Int32)) % (7 : Int32)) &&& 31))), .unset, .unset, .unset, .unset, .unset, .unset, .unset, .unset, .unset, .unset, .unset, .unset, .unset, .unset] [])) _
      refine X0.ldc2Long hx hown (mvT hZ (hw _ (List.mem_of_getElem? (i := 1) rfl))) (g := (mkF m 10 #[.val (.int p1), .val (.long q2), .second, .val (.int ((1 : Int32) <<< (((p1 &&& (2147483647 : Int32)) % (7 : Int32)) &&& 31))), .unset, .unset, .unset, .unset, .unset, .unset, .unset, .unset, .unset, .unset, .unset, .unset, .unset, .unset] [])) rfl (hb hby at_10) _ ?_
      show Steps p.tables e below (s₁.setTop (mkF m 13 #[.val (.int p1), .val (.long q2), .second, .val (.int ((1 : Int32) <<< (((p1 &&& (2147483647 : Int32)) % (7 : Int32)) &&& 31))), .unset, .unset, .unset, .unset, .unset, .unset, .unset, .unset, .unset, .unset, .unset, .unset, .unset, .unset] [(.long (64 : Int64))])) _
      refine XS.iloadN X0.here hx rfl (hb hby at_13) rfl ?_
      show Steps p.tables e below (s₁.setTop (mkF m 14 #[.val (.int p1), .val (.long q2), .second, .val (.int ((1 : Int32) <<< (((p1 &&& (2147483647 : Int32)) % (7 : Int32)) &&& 31))), .unset, .unset, .unset, .unset, .unset, .unset, .unset, .unset, .unset, .unset, .unset, .unset, .unset, .unset] [(.int ((1 : Int32) <<< (((p1 &&& (2147483647 : Int32)) % (7 : Int32)) &&& 31))), (.long (64 : Int64))])) _
      refine XS.i2l X0.here hx rfl (hb hby at_14) rfl ?_
      show Steps p.tables e below (s₁.setTop (mkF m 15 #[.val (.int p1), .val (.long q2), .second, .val (.int ((1 : Int32) <<< (((p1 &&& (2147483647 : Int32)) % (7 : Int32)) &&& 31))), .unset, .unset, .unset, .unset, .unset, .unset, .unset, .unset, .unset, .unset, .unset, .unset, .unset, .unset] [(.long (((1 : Int32) <<< (((p1 &&& (2147483647 : Int32)) % (7 : Int32)) &&& 31)).toInt64)), (.long (64 : Int64))])) _
      refine XS.ldiv X0.here hx rfl (hb hby at_15) rfl hnz1 ?_
      show Steps p.tables e below (s₁.setTop (mkF m 16 #[.val (.int p1), .val (.long q2), .second, .val (.int ((1 : Int32) <<< (((p1 &&& (2147483647 : Int32)) % (7 : Int32)) &&& 31))), .unset, .unset, .unset, .unset, .unset, .unset, .unset, .unset, .unset, .unset, .unset, .unset, .unset, .unset] [(.long ((64 : Int64) / (((1 : Int32) <<< (((p1 &&& (2147483647 : Int32)) % (7 : Int32)) &&& 31)).toInt64)))])) _
      refine XS.lstore X0.here hx rfl (hb hby at_16) rfl (l' := #[.val (.int p1), .val (.long q2), .second, .val (.int ((1 : Int32) <<< (((p1 &&& (2147483647 : Int32)) % (7 : Int32)) &&& 31))), .val (.long ((64 : Int64) / (((1 : Int32) <<< (((p1 &&& (2147483647 : Int32)) % (7 : Int32)) &&& 31)).toInt64))), .second, .unset, .unset, .unset, .unset, .unset, .unset, .unset, .unset, .unset, .unset, .unset, .unset]) rfl ?_
      show Steps p.tables e below (s₁.setTop (mkF m 18 #[.val (.int p1), .val (.long q2), .second, .val (.int ((1 : Int32) <<< (((p1 &&& (2147483647 : Int32)) % (7 : Int32)) &&& 31))), .val (.long ((64 : Int64) / (((1 : Int32) <<< (((p1 &&& (2147483647 : Int32)) % (7 : Int32)) &&& 31)).toInt64))), .second, .unset, .unset, .unset, .unset, .unset, .unset, .unset, .unset, .unset, .unset, .unset, .unset] [])) _
      refine X0.ldc2Long hx hown (mvT hZ (hw _ (List.mem_of_getElem? (i := 2) rfl))) (g := (mkF m 18 #[.val (.int p1), .val (.long q2), .second, .val (.int ((1 : Int32) <<< (((p1 &&& (2147483647 : Int32)) % (7 : Int32)) &&& 31))), .val (.long ((64 : Int64) / (((1 : Int32) <<< (((p1 &&& (2147483647 : Int32)) % (7 : Int32)) &&& 31)).toInt64))), .second, .unset, .unset, .unset, .unset, .unset, .unset, .unset, .unset, .unset, .unset, .unset, .unset] [])) rfl (hb hby at_18) _ ?_
      show Steps p.tables e below (s₁.setTop (mkF m 21 #[.val (.int p1), .val (.long q2), .second, .val (.int ((1 : Int32) <<< (((p1 &&& (2147483647 : Int32)) % (7 : Int32)) &&& 31))), .val (.long ((64 : Int64) / (((1 : Int32) <<< (((p1 &&& (2147483647 : Int32)) % (7 : Int32)) &&& 31)).toInt64))), .second, .unset, .unset, .unset, .unset, .unset, .unset, .unset, .unset, .unset, .unset, .unset, .unset] [(.long (2147483639 : Int64))])) _
      refine XS.lload X0.here hx rfl (hb hby at_21) rfl ?_
      show Steps p.tables e below (s₁.setTop (mkF m 23 #[.val (.int p1), .val (.long q2), .second, .val (.int ((1 : Int32) <<< (((p1 &&& (2147483647 : Int32)) % (7 : Int32)) &&& 31))), .val (.long ((64 : Int64) / (((1 : Int32) <<< (((p1 &&& (2147483647 : Int32)) % (7 : Int32)) &&& 31)).toInt64))), .second, .unset, .unset, .unset, .unset, .unset, .unset, .unset, .unset, .unset, .unset, .unset, .unset] [(.long ((64 : Int64) / (((1 : Int32) <<< (((p1 &&& (2147483647 : Int32)) % (7 : Int32)) &&& 31)).toInt64))), (.long (2147483639 : Int64))])) _
      refine XS.lmul X0.here hx rfl (hb hby at_23) rfl ?_
      show Steps p.tables e below (s₁.setTop (mkF m 24 #[.val (.int p1), .val (.long q2), .second, .val (.int ((1 : Int32) <<< (((p1 &&& (2147483647 : Int32)) % (7 : Int32)) &&& 31))), .val (.long ((64 : Int64) / (((1 : Int32) <<< (((p1 &&& (2147483647 : Int32)) % (7 : Int32)) &&& 31)).toInt64))), .second, .unset, .unset, .unset, .unset, .unset, .unset, .unset, .unset, .unset, .unset, .unset, .unset] [(.long ((2147483639 : Int64) * ((64 : Int64) / (((1 : Int32) <<< (((p1 &&& (2147483647 : Int32)) % (7 : Int32)) &&& 31)).toInt64))))])) _
      refine XS.lstore X0.here hx rfl (hb hby at_24) rfl (l' := #[.val (.int p1), .val (.long q2), .second, .val (.int ((1 : Int32) <<< (((p1 &&& (2147483647 : Int32)) % (7 : Int32)) &&& 31))), .val (.long ((64 : Int64) / (((1 : Int32) <<< (((p1 &&& (2147483647 : Int32)) % (7 : Int32)) &&& 31)).toInt64))), .second, .val (.long ((2147483639 : Int64) * ((64 : Int64) / (((1 : Int32) <<< (((p1 &&& (2147483647 : Int32)) % (7 : Int32)) &&& 31)).toInt64)))), .second, .unset, .unset, .unset, .unset, .unset, .unset, .unset, .unset, .unset, .unset]) rfl ?_
      exact kt
  have jmp_26 : ∀ target, Steps p.tables e below (s₁.setTop (mkF m 62 #[.val (.int p1), .val (.long q2), .second, .val (.int cb), .val (.long pw), .second, .val (.long mc), .second, .val (.long (own_ce (p1 &&& (8 : Int32)) q2 mc)), .second, .unset, .unset, .unset, .unset, .unset, .unset, .unset, .unset] [])) target → Steps p.tables e below (s₁.setTop (mkF m 26 #[.val (.int p1), .val (.long q2), .second, .val (.int cb), .val (.long pw), .second, .val (.long mc), .second, .unset, .unset, .unset, .unset, .unset, .unset, .unset, .unset, .unset, .unset] [])) target := by
    intro target kt
    by_cases hc30 : (p1 &&& (8 : Int32)) = (0 : Int32)
    · rw [show (own_ce (p1 &&& (8 : Int32)) q2 mc) = ((q2 &&& (9223372036854775807 : Int64)) - ((q2 &&& (9223372036854775807 : Int64)) / (mc + (1 : Int64))) * (mc + (1 : Int64))) from if_pos hc30] at kt
      show Steps p.tables e below (s₁.setTop (mkF m 26 #[.val (.int p1), .val (.long q2), .second, .val (.int cb), .val (.long pw), .second, .val (.long mc), .second, .unset, .unset, .unset, .unset, .unset, .unset, .unset, .unset, .unset, .unset] [])) _
      refine XS.iloadN X0.here hx rfl (hb hby at_26) rfl ?_
      show Steps p.tables e below (s₁.setTop (mkF m 27 #[.val (.int p1), .val (.long q2), .second, .val (.int cb), .val (.long pw), .second, .val (.long mc), .second, .unset, .unset, .unset, .unset, .unset, .unset, .unset, .unset, .unset, .unset] [(.int p1)])) _
      refine XS.bipush X0.here hx rfl (hb hby at_27) ?_
      show Steps p.tables e below (s₁.setTop (mkF m 29 #[.val (.int p1), .val (.long q2), .second, .val (.int cb), .val (.long pw), .second, .val (.long mc), .second, .unset, .unset, .unset, .unset, .unset, .unset, .unset, .unset, .unset, .unset] [(.int (8 : Int32)), (.int p1)])) _
      refine XS.iand X0.here hx rfl (hb hby at_29) rfl ?_
      show Steps p.tables e below (s₁.setTop (mkF m 30 #[.val (.int p1), .val (.long q2), .second, .val (.int cb), .val (.long pw), .second, .val (.long mc), .second, .unset, .unset, .unset, .unset, .unset, .unset, .unset, .unset, .unset, .unset] [(.int (p1 &&& (8 : Int32)))])) _
      refine XS.ifYes X0.here hx rfl (pc0 := 30) (pc' := 50) rfl (hb hby at_30) rfl ((if0 _ _).trans (teq hc30).1) (by decide) (by decide) ?_
      show Steps p.tables e below (s₁.setTop (mkF m 50 #[.val (.int p1), .val (.long q2), .second, .val (.int cb), .val (.long pw), .second, .val (.long mc), .second, .unset, .unset, .unset, .unset, .unset, .unset, .unset, .unset, .unset, .unset] [])) _
      refine XS.lloadN X0.here hx rfl (hb hby at_50) rfl ?_
      show Steps p.tables e below (s₁.setTop (mkF m 51 #[.val (.int p1), .val (.long q2), .second, .val (.int cb), .val (.long pw), .second, .val (.long mc), .second, .unset, .unset, .unset, .unset, .unset, .unset, .unset, .unset, .unset, .unset] [(.long q2)])) _
      refine X0.ldc2Long hx hown (mvT hZ (hw _ (List.mem_of_getElem? (i := 3) rfl))) (g := (mkF m 51 #[.val (.int p1), .val (.long q2), .second, .val (.int cb), .val (.long pw), .second, .val (.long mc), .second, .unset, .unset, .unset, .unset, .unset, .unset, .unset, .unset, .unset, .unset] [(.long q2)])) rfl (hb hby at_51) _ ?_
      show Steps p.tables e below (s₁.setTop (mkF m 54 #[.val (.int p1), .val (.long q2), .second, .val (.int cb), .val (.long pw), .second, .val (.long mc), .second, .unset, .unset, .unset, .unset, .unset, .unset, .unset, .unset, .unset, .unset] [(.long (9223372036854775807 : Int64)), (.long q2)])) _
      refine XS.land X0.here hx rfl (hb hby at_54) rfl ?_
      show Steps p.tables e below (s₁.setTop (mkF m 55 #[.val (.int p1), .val (.long q2), .second, .val (.int cb), .val (.long pw), .second, .val (.long mc), .second, .unset, .unset, .unset, .unset, .unset, .unset, .unset, .unset, .unset, .unset] [(.long (q2 &&& (9223372036854775807 : Int64)))])) _
      refine XS.lload X0.here hx rfl (hb hby at_55) rfl ?_
      show Steps p.tables e below (s₁.setTop (mkF m 57 #[.val (.int p1), .val (.long q2), .second, .val (.int cb), .val (.long pw), .second, .val (.long mc), .second, .unset, .unset, .unset, .unset, .unset, .unset, .unset, .unset, .unset, .unset] [(.long mc), (.long (q2 &&& (9223372036854775807 : Int64)))])) _
      refine XS.lconst X0.here hx rfl (hb hby at_57) ?_
      show Steps p.tables e below (s₁.setTop (mkF m 58 #[.val (.int p1), .val (.long q2), .second, .val (.int cb), .val (.long pw), .second, .val (.long mc), .second, .unset, .unset, .unset, .unset, .unset, .unset, .unset, .unset, .unset, .unset] [(.long (1 : Int64)), (.long mc), (.long (q2 &&& (9223372036854775807 : Int64)))])) _
      refine XS.ladd X0.here hx rfl (hb hby at_58) rfl ?_
      show Steps p.tables e below (s₁.setTop (mkF m 59 #[.val (.int p1), .val (.long q2), .second, .val (.int cb), .val (.long pw), .second, .val (.long mc), .second, .unset, .unset, .unset, .unset, .unset, .unset, .unset, .unset, .unset, .unset] [(.long (mc + (1 : Int64))), (.long (q2 &&& (9223372036854775807 : Int64)))])) _
      refine XS.lrem X0.here hx rfl (hb hby at_59) rfl hnz3 ?_
      show Steps p.tables e below (s₁.setTop (mkF m 60 #[.val (.int p1), .val (.long q2), .second, .val (.int cb), .val (.long pw), .second, .val (.long mc), .second, .unset, .unset, .unset, .unset, .unset, .unset, .unset, .unset, .unset, .unset] [(.long ((q2 &&& (9223372036854775807 : Int64)) - ((q2 &&& (9223372036854775807 : Int64)) / (mc + (1 : Int64))) * (mc + (1 : Int64))))])) _
      refine XS.lstore X0.here hx rfl (hb hby at_60) rfl (l' := #[.val (.int p1), .val (.long q2), .second, .val (.int cb), .val (.long pw), .second, .val (.long mc), .second, .val (.long ((q2 &&& (9223372036854775807 : Int64)) - ((q2 &&& (9223372036854775807 : Int64)) / (mc + (1 : Int64))) * (mc + (1 : Int64)))), .second, .unset, .unset, .unset, .unset, .unset, .unset, .unset, .unset]) rfl ?_
      exact kt
    · rw [show (own_ce (p1 &&& (8 : Int32)) q2 mc) = (mc - ((q2 &&& (9223372036854775807 : Int64)) - ((q2 &&& (9223372036854775807 : Int64)) / (256 : Int64)) * (256 : Int64))) from if_neg hc30] at kt
      show Steps p.tables e below (s₁.setTop (mkF m 26 #[.val (.int p1), .val (.long q2), .second, .val (.int cb), .val (.long pw), .second, .val (.long mc), .second, .unset, .unset, .unset, .unset, .unset, .unset, .unset, .unset, .unset, .unset] [])) _
      refine XS.iloadN X0.here hx rfl (hb hby at_26) rfl ?_
      show Steps p.tables e below (s₁.setTop (mkF m 27 #[.val (.int p1), .val (.long q2), .second, .val (.int cb), .val (.long pw), .second, .val (.long mc), .second, .unset, .unset, .unset, .unset, .unset, .unset, .unset, .unset, .unset, .unset] [(.int p1)])) _
      refine XS.bipush X0.here hx rfl (hb hby at_27) ?_
      show Steps p.tables e below (s₁.setTop (mkF m 29 #[.val (.int p1), .val (.long q2), .second, .val (.int cb), .val (.long pw), .second, .val (.long mc), .second, .unset, .unset, .unset, .unset, .unset, .unset, .unset, .unset, .unset, .unset] [(.int (8 : Int32)), (.int p1)])) _
      refine XS.iand X0.here hx rfl (hb hby at_29) rfl ?_
      show Steps p.tables e below (s₁.setTop (mkF m 30 #[.val (.int p1), .val (.long q2), .second, .val (.int cb), .val (.long pw), .second, .val (.long mc), .second, .unset, .unset, .unset, .unset, .unset, .unset, .unset, .unset, .unset, .unset] [(.int (p1 &&& (8 : Int32)))])) _
      refine XS.ifNo X0.here hx rfl (hb hby at_30) rfl ((if0 _ _).trans (feq hc30).1) ?_
      show Steps p.tables e below (s₁.setTop (mkF m 33 #[.val (.int p1), .val (.long q2), .second, .val (.int cb), .val (.long pw), .second, .val (.long mc), .second, .unset, .unset, .unset, .unset, .unset, .unset, .unset, .unset, .unset, .unset] [])) _
      refine XS.lload X0.here hx rfl (hb hby at_33) rfl ?_
      show Steps p.tables e below (s₁.setTop (mkF m 35 #[.val (.int p1), .val (.long q2), .second, .val (.int cb), .val (.long pw), .second, .val (.long mc), .second, .unset, .unset, .unset, .unset, .unset, .unset, .unset, .unset, .unset, .unset] [(.long mc)])) _
      refine XS.lloadN X0.here hx rfl (hb hby at_35) rfl ?_
      show Steps p.tables e below (s₁.setTop (mkF m 36 #[.val (.int p1), .val (.long q2), .second, .val (.int cb), .val (.long pw), .second, .val (.long mc), .second, .unset, .unset, .unset, .unset, .unset, .unset, .unset, .unset, .unset, .unset] [(.long q2), (.long mc)])) _
      refine X0.ldc2Long hx hown (mvT hZ (hw _ (List.mem_of_getElem? (i := 3) rfl))) (g := (mkF m 36 #[.val (.int p1), .val (.long q2), .second, .val (.int cb), .val (.long pw), .second, .val (.long mc), .second, .unset, .unset, .unset, .unset, .unset, .unset, .unset, .unset, .unset, .unset] [(.long q2), (.long mc)])) rfl (hb hby at_36) _ ?_
      show Steps p.tables e below (s₁.setTop (mkF m 39 #[.val (.int p1), .val (.long q2), .second, .val (.int cb), .val (.long pw), .second, .val (.long mc), .second, .unset, .unset, .unset, .unset, .unset, .unset, .unset, .unset, .unset, .unset] [(.long (9223372036854775807 : Int64)), (.long q2), (.long mc)])) _
      refine XS.land X0.here hx rfl (hb hby at_39) rfl ?_
      show Steps p.tables e below (s₁.setTop (mkF m 40 #[.val (.int p1), .val (.long q2), .second, .val (.int cb), .val (.long pw), .second, .val (.long mc), .second, .unset, .unset, .unset, .unset, .unset, .unset, .unset, .unset, .unset, .unset] [(.long (q2 &&& (9223372036854775807 : Int64))), (.long mc)])) _
      refine X0.ldc2Long hx hown (mvT hZ (hw _ (List.mem_of_getElem? (i := 41) rfl))) (g := (mkF m 40 #[.val (.int p1), .val (.long q2), .second, .val (.int cb), .val (.long pw), .second, .val (.long mc), .second, .unset, .unset, .unset, .unset, .unset, .unset, .unset, .unset, .unset, .unset] [(.long (q2 &&& (9223372036854775807 : Int64))), (.long mc)])) rfl (hb hby at_40) _ ?_
      show Steps p.tables e below (s₁.setTop (mkF m 43 #[.val (.int p1), .val (.long q2), .second, .val (.int cb), .val (.long pw), .second, .val (.long mc), .second, .unset, .unset, .unset, .unset, .unset, .unset, .unset, .unset, .unset, .unset] [(.long (256 : Int64)), (.long (q2 &&& (9223372036854775807 : Int64))), (.long mc)])) _
      refine XS.lrem X0.here hx rfl (hb hby at_43) rfl (by decide) ?_
      show Steps p.tables e below (s₁.setTop (mkF m 44 #[.val (.int p1), .val (.long q2), .second, .val (.int cb), .val (.long pw), .second, .val (.long mc), .second, .unset, .unset, .unset, .unset, .unset, .unset, .unset, .unset, .unset, .unset] [(.long ((q2 &&& (9223372036854775807 : Int64)) - ((q2 &&& (9223372036854775807 : Int64)) / (256 : Int64)) * (256 : Int64))), (.long mc)])) _
      refine XS.lsub X0.here hx rfl (hb hby at_44) rfl ?_
      show Steps p.tables e below (s₁.setTop (mkF m 45 #[.val (.int p1), .val (.long q2), .second, .val (.int cb), .val (.long pw), .second, .val (.long mc), .second, .unset, .unset, .unset, .unset, .unset, .unset, .unset, .unset, .unset, .unset] [(.long (mc - ((q2 &&& (9223372036854775807 : Int64)) - ((q2 &&& (9223372036854775807 : Int64)) / (256 : Int64)) * (256 : Int64))))])) _
      refine XS.lstore X0.here hx rfl (hb hby at_45) rfl (l' := #[.val (.int p1), .val (.long q2), .second, .val (.int cb), .val (.long pw), .second, .val (.long mc), .second, .val (.long (mc - ((q2 &&& (9223372036854775807 : Int64)) - ((q2 &&& (9223372036854775807 : Int64)) / (256 : Int64)) * (256 : Int64)))), .second, .unset, .unset, .unset, .unset, .unset, .unset, .unset, .unset]) rfl ?_
      show Steps p.tables e below (s₁.setTop (mkF m 47 #[.val (.int p1), .val (.long q2), .second, .val (.int cb), .val (.long pw), .second, .val (.long mc), .second, .val (.long (mc - ((q2 &&& (9223372036854775807 : Int64)) - ((q2 &&& (9223372036854775807 : Int64)) / (256 : Int64)) * (256 : Int64)))), .second, .unset, .unset, .unset, .unset, .unset, .unset, .unset, .unset] [])) _
      refine XS.goto X0.here hx rfl (pc0 := 47) (pc' := 62) rfl (hb hby at_47) (by decide) (by decide) ?_
      exact kt
  obtain ⟨T3, h3, X3, e3, E3, A3, D3, -, st3⟩ := newO X0 hx hZ hown (hw _ (List.mem_of_getElem? (i := 4) rfl)) (hw _ (List.mem_of_getElem? (i := 5) rfl)) (hw _ (List.mem_of_getElem? (i := 6) rfl)) e0 (g := (mkF m 62 #[.val (.int p1), .val (.long q2), .second, .val (.int cb), .val (.long pw), .second, .val (.long mc), .second, .val (.long (own_ce (p1 &&& (8 : Int32)) q2 mc)), .second, .unset, .unset, .unset, .unset, .unset, .unset, .unset, .unset] [])) rfl (hb hby at_62) (by decide) (by decide)
  obtain ⟨b3, g3⟩ : ∃ z, z = h0.size := ⟨_, rfl⟩      -- the fresh object's address
  have Z3 : n0 ≤ h3.size := Nat.le_trans Z0 E3.1
  rw [← g3] at A3 D3 st3      -- A3 : Exa Z h3 b3 "com/example/compact_set_filters/compactsetfilters/AbstractBloomFilter$Layout"; E3 : Ext h0 h3 (carries every older fact: .ext E3)
  have F_kind_b3 : Fld Z h3 b3 "com/example/compact_set_filters/compactsetfilters/AbstractBloomFilter$Layout" "kind" "Lcom/example/compact_set_filters/compactsetfilters/FilterKind;" .null := D3 (Or.inr (hw _ (List.mem_of_getElem? (i := 30) rfl))) (ty := (.object "com/example/compact_set_filters/compactsetfilters/FilterKind")) (by decide)
  have F_cellBits_b3 : Fld Z h3 b3 "com/example/compact_set_filters/compactsetfilters/AbstractBloomFilter$Layout" "cellBits" "I" (.int (0 : Int32)) := D3 (Or.inr (hw _ (List.mem_of_getElem? (i := 32) rfl))) (ty := .int) (by decide)
  have F_cellName_b3 : Fld Z h3 b3 "com/example/compact_set_filters/compactsetfilters/AbstractBloomFilter$Layout" "cellName" "Ljava/lang/String;" .null := D3 (Or.inr (hw _ (List.mem_of_getElem? (i := 34) rfl))) (ty := (.object "java/lang/String")) (by decide)
  have E_b3 := A3
  have g_b3 : n0 ≤ b3 := Nat.le_trans Z0 (Nat.le_of_eq g3.symm)
  have sz_b3 : h0.size ≤ b3 := (Nat.le_trans (Keep.refl h0 []).1 (Nat.le_of_eq g3.symm))
  have K3 : Keep h0 h3 [] := (Keep.refl h0 []).ext E3
  -- ✋ yours: S_BLOOM must speak of h3 here (carried as the other facts are)
  obtain ⟨T5, X5, e5, st5⟩ := getS2 X3 hx hZ hown (host := "") (Or.inl (hw _ (List.mem_of_getElem? (i := 7) rfl))) Via.refl e3 (S_BLOOM.ext E3) (g := (mkF m 66 #[.val (.int p1), .val (.long q2), .second, .val (.int cb), .val (.long pw), .second, .val (.long mc), .second, .val (.long (own_ce (p1 &&& (8 : Int32)) q2 mc)), .second, .unset, .unset, .unset, .unset, .unset, .unset, .unset, .unset] [(.ref b3), (.ref b3)])) rfl (hb hby at_66)
  obtain ⟨b6, T6, h6, kk6, X6, e6, E6, hS, hk6, hZ, hown, st6⟩ := ldcS X5 hx hZ hown (hw _ (List.mem_of_getElem? (i := 10) rfl)) hwS e5 hS K3.1 (g := (mkF m 70 #[.val (.int p1), .val (.long q2), .second, .val (.int cb), .val (.long pw), .second, .val (.long mc), .second, .val (.long (own_ce (p1 &&& (8 : Int32)) q2 mc)), .second, .unset, .unset, .unset, .unset, .unset, .unset, .unset, .unset] [(.int cb), (.ref w4), (.ref b3), (.ref b3)])) rfl (hb hby at_70) (n := 4) (by decide) (by decide) (by decide) (by decide)
  have Z6 : n0 ≤ h6.size := Nat.le_trans Z3 E6.1
  have K6 : Keep h0 h6 [] := K3.ext E6
  have CE1_b3 := (E_b3.ext E6)
  -- pc 72: the constructor of com/example/compact_set_filters/compactsetfilters/AbstractBloomFilter$Layout by its contract rm1
  obtain ⟨_, _, ⟨T7, L7, k7, n7⟩, -, X7, ⟨Lc7, hQ7, l7, y7, z7⟩, st7⟩ := X6.specialBack hx (y := (⟨"com/example/compact_set_filters/compactsetfilters/AbstractBloomFilter$Layout", "<init>", "(Lcom/example/compact_set_filters/compactsetfilters/FilterKind;ILjava/lang/String;)V"⟩ : MethodName)) rfl hown (mvT hZ (hw _ (List.mem_of_getElem? (i := 18) rfl))) (mvT hZ (hw _ (List.mem_of_getElem? (i := 19) rfl))) (mvT hZ (hw _ (List.mem_of_getElem? (i := 20) rfl))) (by decide) (backOf (W := 1) (rm1 l Z a0 hw [] b3 w4 cb b6 .null (.int (0 : Int32)) .null h6 n0 Z6 (E_b3.ext E6) (F_kind_b3.ext E6) g_b3 (F_cellBits_b3.ext E6) (F_cellName_b3.ext E6)) hZ (hw _ (List.mem_of_getElem? (i := 20) rfl)) (hw _ (List.mem_of_getElem? (i := 6) rfl)) (by decide) (by decide)) (g := (mkF m 72 #[.val (.int p1), .val (.long q2), .second, .val (.int cb), .val (.long pw), .second, .val (.long mc), .second, .val (.long (own_ce (p1 &&& (8 : Int32)) q2 mc)), .second, .unset, .unset, .unset, .unset, .unset, .unset, .unset, .unset] [(.ref b6), (.int cb), (.ref w4), (.ref b3), (.ref b3)])) rfl (by rw [hml]; rfl) (Steps.refl _) (a := b3) (argsL := [(.ref w4), (.int cb), (.ref b6)]) (rest := [(.ref b3)]) (lenOf pd_0_0 rfl) rfl (by show 2 * 0 + _ ≤ _; exact Nat.le_of_eq rfl) (hb hby at_72) (fun _ _ => ⟨rfl, e6, (by decide : 3 + 0 ≤ _), (by decide : 11 + 0 ≤ _)⟩)
  dsimp only [Pt.U, Pt.locs, Pt.cells, Pt.slots] at X7 l7 y7 z7 st7 hQ7
  subst l7 y7 z7
  obtain ⟨rfl, N7q, K7q, E7x, F7a⟩ := hQ7
  have Z7 : n0 ≤ T7.heap.size := Nat.le_trans Z6 K7q.1
  have N7 := Fr.app N0 N7q
  have CE2_b3 := ((E_b3.ext E6).keep K7q)
  -- pc 81: com/example/compact_set_filters/compactsetfilters/AbstractBloomFilter$Layout.wordsFor by the contract of the body that the receiver's class selects, rm4
  obtain ⟨cq8, kq8, q8a, q8b, q8c⟩ := isOf hZ rfl ((E_b3.ext E6).keep K7q)
  obtain ⟨_, _, ⟨T8, L8, k8, n8⟩, -, X8, ⟨Lc8, hQ8, l8, y8, z8⟩, st8⟩ := X7.virtualBack hx (y := (⟨"com/example/compact_set_filters/compactsetfilters/AbstractBloomFilter$Layout", "wordsFor", "(J)I"⟩ : MethodName)) (z := (⟨"com/example/compact_set_filters/compactsetfilters/AbstractBloomFilter$Layout", "wordsFor", "(J)I"⟩ : MethodName)) hown (mvT hZ (hw _ (List.mem_of_getElem? (i := 35) rfl))) (mvT hZ (hw _ (List.mem_of_getElem? (i := 36) rfl))) (notFace_of_selects (args := #[]) (mvT hZ (hw _ (List.mem_of_getElem? (i := 38) rfl)))) (mvT hZ (hw _ (List.mem_of_getElem? (i := 38) rfl))) (mvT hZ (hw _ (List.mem_of_getElem? (i := 37) rfl))) (by decide) (backOf (W := 0) (rm4 l Z a0 hw [] b3 (own_ce (p1 &&& (8 : Int32)) q2 mc) cb T7.heap n0 Z7 F7a) hZ (hw _ (List.mem_of_getElem? (i := 39) rfl)) (hw _ (List.mem_of_getElem? (i := 6) rfl)) (by decide) (by decide)) q8a q8c (g := (mkF m 81 #[.val (.int p1), .val (.long q2), .second, .val (.int cb), .val (.long pw), .second, .val (.long mc), .second, .val (.long (own_ce (p1 &&& (8 : Int32)) q2 mc)), .second, .val (.ref b3), .unset, .unset, .unset, .unset, .unset, .unset, .unset] [(.long (own_ce (p1 &&& (8 : Int32)) q2 mc)), (.ref b3)])) rfl (by rw [hml]; rfl) (Steps.refl _) (argsL := [(.long (own_ce (p1 &&& (8 : Int32)) q2 mc))]) (rest := []) (lenOf pd_0_2 rfl) rfl (by show 2 * 0 + _ ≤ _; exact Nat.le_of_eq rfl) (hb hby at_81) (fun _ _ => ⟨rfl, rfl, (by decide : 3 + 0 ≤ _), (by decide : 11 + 0 ≤ _)⟩)
  dsimp only [Pt.U, Pt.locs, Pt.cells, Pt.slots] at X8 l8 y8 z8 st8 hQ8
  subst l8 y8 z8
  obtain ⟨rfl, N8q, E8q⟩ := hQ8
  have K8q : Keep T7.heap T8.heap [] := by rw [E8q]; exact Keep.refl _ _
  have Z8 : n0 ≤ T8.heap.size := Nat.le_trans Z7 K8q.1
  have N8 := Fr.app N7 N8q
  have jmp_86 : ∀ target, Steps p.tables e below (T8.setTop (mkF m 118 #[.val (.int p1), .val (.long q2), .second, .val (.int cb), .val (.long pw), .second, .val (.long mc), .second, .val (.long (own_ce (p1 &&& (8 : Int32)) q2 mc)), .second, .val (.ref b3), .val (.int (own_wd (own_ce (p1 &&& (8 : Int32)) q2 mc) cb)), .val (.long ((own_ce (p1 &&& (8 : Int32)) q2 mc) / pw)), .second, .val (.long ((own_ce (p1 &&& (8 : Int32)) q2 mc) - ((own_ce (p1 &&& (8 : Int32)) q2 mc) / pw) * pw)), .second, .val (.long (own_ex (own_ce (p1 &&& (8 : Int32)) q2 mc) pw)), .second] [])) target → Steps p.tables e below (T8.setTop (mkF m 86 #[.val (.int p1), .val (.long q2), .second, .val (.int cb), .val (.long pw), .second, .val (.long mc), .second, .val (.long (own_ce (p1 &&& (8 : Int32)) q2 mc)), .second, .val (.ref b3), .val (.int (own_wd (own_ce (p1 &&& (8 : Int32)) q2 mc) cb)), .unset, .unset, .unset, .unset, .unset, .unset] [])) target := by
    intro target kt
    by_cases hc104 : (lcmpW ((own_ce (p1 &&& (8 : Int32)) q2 mc) - ((own_ce (p1 &&& (8 : Int32)) q2 mc) / pw) * pw) (0 : Int64)) = (0 : Int32)
    · rw [show (own_ex (own_ce (p1 &&& (8 : Int32)) q2 mc) pw) = ((own_ce (p1 &&& (8 : Int32)) q2 mc) / pw) from if_pos ((lw_eq _ _).mp hc104)] at kt
      show Steps p.tables e below (T8.setTop (mkF m 86 #[.val (.int p1), .val (.long q2), .second, .val (.int cb), .val (.long pw), .second, .val (.long mc), .second, .val (.long (own_ce (p1 &&& (8 : Int32)) q2 mc)), .second, .val (.ref b3), .val (.int (own_wd (own_ce (p1 &&& (8 : Int32)) q2 mc) cb)), .unset, .unset, .unset, .unset, .unset, .unset] [])) _
      refine XS.lload X8.here hx rfl (hb hby at_86) rfl ?_
      show Steps p.tables e below (T8.setTop (mkF m 88 #[.val (.int p1), .val (.long q2), .second, .val (.int cb), .val (.long pw), .second, .val (.long mc), .second, .val (.long (own_ce (p1 &&& (8 : Int32)) q2 mc)), .second, .val (.ref b3), .val (.int (own_wd (own_ce (p1 &&& (8 : Int32)) q2 mc) cb)), .unset, .unset, .unset, .unset, .unset, .unset] [(.long (own_ce (p1 &&& (8 : Int32)) q2 mc))])) _
      refine XS.lload X8.here hx rfl (hb hby at_88) rfl ?_
      show Steps p.tables e below (T8.setTop (mkF m 90 #[.val (.int p1), .val (.long q2), .second, .val (.int cb), .val (.long pw), .second, .val (.long mc), .second, .val (.long (own_ce (p1 &&& (8 : Int32)) q2 mc)), .second, .val (.ref b3), .val (.int (own_wd (own_ce (p1 &&& (8 : Int32)) q2 mc) cb)), .unset, .unset, .unset, .unset, .unset, .unset] [(.long pw), (.long (own_ce (p1 &&& (8 : Int32)) q2 mc))])) _
      refine XS.ldiv X8.here hx rfl (hb hby at_90) rfl hnz2 ?_
      show Steps p.tables e below (T8.setTop (mkF m 91 #[.val (.int p1), .val (.long q2), .second, .val (.int cb), .val (.long pw), .second, .val (.long mc), .second, .val (.long (own_ce (p1 &&& (8 : Int32)) q2 mc)), .second, .val (.ref b3), .val (.int (own_wd (own_ce (p1 &&& (8 : Int32)) q2 mc) cb)), .unset, .unset, .unset, .unset, .unset, .unset] [(.long ((own_ce (p1 &&& (8 : Int32)) q2 mc) / pw))])) _
      refine XS.lstore X8.here hx rfl (hb hby at_91) rfl (l' := #[.val (.int p1), .val (.long q2), .second, .val (.int cb), .val (.long pw), .second, .val (.long mc), .second, .val (.long (own_ce (p1 &&& (8 : Int32)) q2 mc)), .second, .val (.ref b3), .val (.int (own_wd (own_ce (p1 &&& (8 : Int32)) q2 mc) cb)), .val (.long ((own_ce (p1 &&& (8 : Int32)) q2 mc) / pw)), .second, .unset, .unset, .unset, .unset]) rfl ?_
      show Steps p.tables e below (T8.setTop (mkF m 93 #[.val (.int p1), .val (.long q2), .second, .val (.int cb), .val (.long pw), .second, .val (.long mc), .second, .val (.long (own_ce (p1 &&& (8 : Int32)) q2 mc)), .second, .val (.ref b3), .val (.int (own_wd (own_ce (p1 &&& (8 : Int32)) q2 mc) cb)), .val (.long ((own_ce (p1 &&& (8 : Int32)) q2 mc) / pw)), .second, .unset, .unset, .unset, .unset] [])) _
      refine XS.lload X8.here hx rfl (hb hby at_93) rfl ?_
      show Steps p.tables e below (T8.setTop (mkF m 95 #[.val (.int p1), .val (.long q2), .second, .val (.int cb), .val (.long pw), .second, .val (.long mc), .second, .val (.long (own_ce (p1 &&& (8 : Int32)) q2 mc)), .second, .val (.ref b3), .val (.int (own_wd (own_ce (p1 &&& (8 : Int32)) q2 mc) cb)), .val (.long ((own_ce (p1 &&& (8 : Int32)) q2 mc) / pw)), .second, .unset, .unset, .unset, .unset] [(.long (own_ce (p1 &&& (8 : Int32)) q2 mc))])) _
      refine XS.lload X8.here hx rfl (hb hby at_95) rfl ?_
      show Steps p.tables e below (T8.setTop (mkF m 97 #[.val (.int p1), .val (.long q2), .second, .val (.int cb), .val (.long pw), .second, .val (.long mc), .second, .val (.long (own_ce (p1 &&& (8 : Int32)) q2 mc)), .second, .val (.ref b3), .val (.int (own_wd (own_ce (p1 &&& (8 : Int32)) q2 mc) cb)), .val (.long ((own_ce (p1 &&& (8 : Int32)) q2 mc) / pw)), .second, .unset, .unset, .unset, .unset] [(.long pw), (.long (own_ce (p1 &&& (8 : Int32)) q2 mc))])) _
      refine XS.lrem X8.here hx rfl (hb hby at_97) rfl hnz2 ?_
      show Steps p.tables e below (T8.setTop (mkF m 98 #[.val (.int p1), .val (.long q2), .second, .val (.int cb), .val (.long pw), .second, .val (.long mc), .second, .val (.long (own_ce (p1 &&& (8 : Int32)) q2 mc)), .second, .val (.ref b3), .val (.int (own_wd (own_ce (p1 &&& (8 : Int32)) q2 mc) cb)), .val (.long ((own_ce (p1 &&& (8 : Int32)) q2 mc) / pw)), .second, .unset, .unset, .unset, .unset] [(.long ((own_ce (p1 &&& (8 : Int32)) q2 mc) - ((own_ce (p1 &&& (8 : Int32)) q2 mc) / pw) * pw))])) _
      refine XS.lstore X8.here hx rfl (hb hby at_98) rfl (l' := #[.val (.int p1), .val (.long q2), .second, .val (.int cb), .val (.long pw), .second, .val (.long mc), .second, .val (.long (own_ce (p1 &&& (8 : Int32)) q2 mc)), .second, .val (.ref b3), .val (.int (own_wd (own_ce (p1 &&& (8 : Int32)) q2 mc) cb)), .val (.long ((own_ce (p1 &&& (8 : Int32)) q2 mc) / pw)), .second, .val (.long ((own_ce (p1 &&& (8 : Int32)) q2 mc) - ((own_ce (p1 &&& (8 : Int32)) q2 mc) / pw) * pw)), .second, .unset, .unset]) rfl ?_
      show Steps p.tables e below (T8.setTop (mkF m 100 #[.val (.int p1), .val (.long q2), .second, .val (.int cb), .val (.long pw), .second, .val (.long mc), .second, .val (.long (own_ce (p1 &&& (8 : Int32)) q2 mc)), .second, .val (.ref b3), .val (.int (own_wd (own_ce (p1 &&& (8 : Int32)) q2 mc) cb)), .val (.long ((own_ce (p1 &&& (8 : Int32)) q2 mc) / pw)), .second, .val (.long ((own_ce (p1 &&& (8 : Int32)) q2 mc) - ((own_ce (p1 &&& (8 : Int32)) q2 mc) / pw) * pw)), .second, .unset, .unset] [])) _
      refine XS.lload X8.here hx rfl (hb hby at_100) rfl ?_
      show Steps p.tables e below (T8.setTop (mkF m 102 #[.val (.int p1), .val (.long q2), .second, .val (.int cb), .val (.long pw), .second, .val (.long mc), .second, .val (.long (own_ce (p1 &&& (8 : Int32)) q2 mc)), .second, .val (.ref b3), .val (.int (own_wd (own_ce (p1 &&& (8 : Int32)) q2 mc) cb)), .val (.long ((own_ce (p1 &&& (8 : Int32)) q2 mc) / pw)), .second, .val (.long ((own_ce (p1 &&& (8 : Int32)) q2 mc) - ((own_ce (p1 &&& (8 : Int32)) q2 mc) / pw) * pw)), .second, .unset, .unset] [(.long ((own_ce (p1 &&& (8 : Int32)) q2 mc) - ((own_ce (p1 &&& (8 : Int32)) q2 mc) / pw) * pw))])) _
      refine XS.lconst X8.here hx rfl (hb hby at_102) ?_
      show Steps p.tables e below (T8.setTop (mkF m 103 #[.val (.int p1), .val (.long q2), .second, .val (.int cb), .val (.long pw), .second, .val (.long mc), .second, .val (.long (own_ce (p1 &&& (8 : Int32)) q2 mc)), .second, .val (.ref b3), .val (.int (own_wd (own_ce (p1 &&& (8 : Int32)) q2 mc) cb)), .val (.long ((own_ce (p1 &&& (8 : Int32)) q2 mc) / pw)), .second, .val (.long ((own_ce (p1 &&& (8 : Int32)) q2 mc) - ((own_ce (p1 &&& (8 : Int32)) q2 mc) / pw) * pw)), .second, .unset, .unset] [(.long (0 : Int64)), (.long ((own_ce (p1 &&& (8 : Int32)) q2 mc) - ((own_ce (p1 &&& (8 : Int32)) q2 mc) / pw) * pw))])) _
      refine XS.lcmp X8.here hx rfl (hb hby at_103) rfl ?_
      show Steps p.tables e below (T8.setTop (mkF m 104 #[.val (.int p1), .val (.long q2), .second, .val (.int cb), .val (.long pw), .second, .val (.long mc), .second, .val (.long (own_ce (p1 &&& (8 : Int32)) q2 mc)), .second, .val (.ref b3), .val (.int (own_wd (own_ce (p1 &&& (8 : Int32)) q2 mc) cb)), .val (.long ((own_ce (p1 &&& (8 : Int32)) q2 mc) / pw)), .second, .val (.long ((own_ce (p1 &&& (8 : Int32)) q2 mc) - ((own_ce (p1 &&& (8 : Int32)) q2 mc) / pw) * pw)), .second, .unset, .unset] [(.int (lcmpW ((own_ce (p1 &&& (8 : Int32)) q2 mc) - ((own_ce (p1 &&& (8 : Int32)) q2 mc) / pw) * pw) (0 : Int64)))])) _
      refine XS.ifNo X8.here hx rfl (hb hby at_104) rfl ((if0 _ _).trans (teq hc104).2) ?_
      show Steps p.tables e below (T8.setTop (mkF m 107 #[.val (.int p1), .val (.long q2), .second, .val (.int cb), .val (.long pw), .second, .val (.long mc), .second, .val (.long (own_ce (p1 &&& (8 : Int32)) q2 mc)), .second, .val (.ref b3), .val (.int (own_wd (own_ce (p1 &&& (8 : Int32)) q2 mc) cb)), .val (.long ((own_ce (p1 &&& (8 : Int32)) q2 mc) / pw)), .second, .val (.long ((own_ce (p1 &&& (8 : Int32)) q2 mc) - ((own_ce (p1 &&& (8 : Int32)) q2 mc) / pw) * pw)), .second, .unset, .unset] [])) _
      refine XS.lload X8.here hx rfl (hb hby at_107) rfl ?_
      show Steps p.tables e below (T8.setTop (mkF m 109 #[.val (.int p1), .val (.long q2), .second, .val (.int cb), .val (.long pw), .second, .val (.long mc), .second, .val (.long (own_ce (p1 &&& (8 : Int32)) q2 mc)), .second, .val (.ref b3), .val (.int (own_wd (own_ce (p1 &&& (8 : Int32)) q2 mc) cb)), .val (.long ((own_ce (p1 &&& (8 : Int32)) q2 mc) / pw)), .second, .val (.long ((own_ce (p1 &&& (8 : Int32)) q2 mc) - ((own_ce (p1 &&& (8 : Int32)) q2 mc) / pw) * pw)), .second, .unset, .unset] [(.long ((own_ce (p1 &&& (8 : Int32)) q2 mc) / pw))])) _
      refine XS.goto X8.here hx rfl (pc0 := 109) (pc' := 116) rfl (hb hby at_109) (by decide) (by decide) ?_
      show Steps p.tables e below (T8.setTop (mkF m 116 #[.val (.int p1), .val (.long q2), .second, .val (.int cb), .val (.long pw), .second, .val (.long mc), .second, .val (.long (own_ce (p1 &&& (8 : Int32)) q2 mc)), .second, .val (.ref b3), .val (.int (own_wd (own_ce (p1 &&& (8 : Int32)) q2 mc) cb)), .val (.long ((own_ce (p1 &&& (8 : Int32)) q2 mc) / pw)), .second, .val (.long ((own_ce (p1 &&& (8 : Int32)) q2 mc) - ((own_ce (p1 &&& (8 : Int32)) q2 mc) / pw) * pw)), .second, .unset, .unset] [(.long ((own_ce (p1 &&& (8 : Int32)) q2 mc) / pw))])) _
      refine XS.lstore X8.here hx rfl (hb hby at_116) rfl (l' := #[.val (.int p1), .val (.long q2), .second, .val (.int cb), .val (.long pw), .second, .val (.long mc), .second, .val (.long (own_ce (p1 &&& (8 : Int32)) q2 mc)), .second, .val (.ref b3), .val (.int (own_wd (own_ce (p1 &&& (8 : Int32)) q2 mc) cb)), .val (.long ((own_ce (p1 &&& (8 : Int32)) q2 mc) / pw)), .second, .val (.long ((own_ce (p1 &&& (8 : Int32)) q2 mc) - ((own_ce (p1 &&& (8 : Int32)) q2 mc) / pw) * pw)), .second, .val (.long ((own_ce (p1 &&& (8 : Int32)) q2 mc) / pw)), .second]) rfl ?_
      exact kt
    · rw [show (own_ex (own_ce (p1 &&& (8 : Int32)) q2 mc) pw) = (((own_ce (p1 &&& (8 : Int32)) q2 mc) / pw) + (1 : Int64)) from if_neg (fun q => hc104 ((lw_eq _ _).mpr q))] at kt
      show Steps p.tables e below (T8.setTop (mkF m 86 #[.val (.int p1), .val (.long q2), .second, .val (.int cb), .val (.long pw), .second, .val (.long mc), .second, .val (.long (own_ce (p1 &&& (8 : Int32)) q2 mc)), .second, .val (.ref b3), .val (.int (own_wd (own_ce (p1 &&& (8 : Int32)) q2 mc) cb)), .unset, .unset, .unset, .unset, .unset, .unset] [])) _
      refine XS.lload X8.here hx rfl (hb hby at_86) rfl ?_
      show Steps p.tables e below (T8.setTop (mkF m 88 #[.val (.int p1), .val (.long q2), .second, .val (.int cb), .val (.long pw), .second, .val (.long mc), .second, .val (.long (own_ce (p1 &&& (8 : Int32)) q2 mc)), .second, .val (.ref b3), .val (.int (own_wd (own_ce (p1 &&& (8 : Int32)) q2 mc) cb)), .unset, .unset, .unset, .unset, .unset, .unset] [(.long (own_ce (p1 &&& (8 : Int32)) q2 mc))])) _
      refine XS.lload X8.here hx rfl (hb hby at_88) rfl ?_
      show Steps p.tables e below (T8.setTop (mkF m 90 #[.val (.int p1), .val (.long q2), .second, .val (.int cb), .val (.long pw), .second, .val (.long mc), .second, .val (.long (own_ce (p1 &&& (8 : Int32)) q2 mc)), .second, .val (.ref b3), .val (.int (own_wd (own_ce (p1 &&& (8 : Int32)) q2 mc) cb)), .unset, .unset, .unset, .unset, .unset, .unset] [(.long pw), (.long (own_ce (p1 &&& (8 : Int32)) q2 mc))])) _
      refine XS.ldiv X8.here hx rfl (hb hby at_90) rfl hnz2 ?_
      show Steps p.tables e below (T8.setTop (mkF m 91 #[.val (.int p1), .val (.long q2), .second, .val (.int cb), .val (.long pw), .second, .val (.long mc), .second, .val (.long (own_ce (p1 &&& (8 : Int32)) q2 mc)), .second, .val (.ref b3), .val (.int (own_wd (own_ce (p1 &&& (8 : Int32)) q2 mc) cb)), .unset, .unset, .unset, .unset, .unset, .unset] [(.long ((own_ce (p1 &&& (8 : Int32)) q2 mc) / pw))])) _
      refine XS.lstore X8.here hx rfl (hb hby at_91) rfl (l' := #[.val (.int p1), .val (.long q2), .second, .val (.int cb), .val (.long pw), .second, .val (.long mc), .second, .val (.long (own_ce (p1 &&& (8 : Int32)) q2 mc)), .second, .val (.ref b3), .val (.int (own_wd (own_ce (p1 &&& (8 : Int32)) q2 mc) cb)), .val (.long ((own_ce (p1 &&& (8 : Int32)) q2 mc) / pw)), .second, .unset, .unset, .unset, .unset]) rfl ?_
      show Steps p.tables e below (T8.setTop (mkF m 93 #[.val (.int p1), .val (.long q2), .second, .val (.int cb), .val (.long pw), .second, .val (.long mc), .second, .val (.long (own_ce (p1 &&& (8 : Int32)) q2 mc)), .second, .val (.ref b3), .val (.int (own_wd (own_ce (p1 &&& (8 : Int32)) q2 mc) cb)), .val (.long ((own_ce (p1 &&& (8 : Int32)) q2 mc) / pw)), .second, .unset, .unset, .unset, .unset] [])) _
      refine XS.lload X8.here hx rfl (hb hby at_93) rfl ?_
      show Steps p.tables e below (T8.setTop (mkF m 95 #[.val (.int p1), .val (.long q2), .second, .val (.int cb), .val (.long pw), .second, .val (.long mc), .second, .val (.long (own_ce (p1 &&& (8 : Int32)) q2 mc)), .second, .val (.ref b3), .val (.int (own_wd (own_ce (p1 &&& (8 : Int32)) q2 mc) cb)), .val (.long ((own_ce (p1 &&& (8 : Int32)) q2 mc) / pw)), .second, .unset, .unset, .unset, .unset] [(.long (own_ce (p1 &&& (8 : Int32)) q2 mc))])) _
      refine XS.lload X8.here hx rfl (hb hby at_95) rfl ?_
      show Steps p.tables e below (T8.setTop (mkF m 97 #[.val (.int p1), .val (.long q2), .second, .val (.int cb), .val (.long pw), .second, .val (.long mc), .second, .val (.long (own_ce (p1 &&& (8 : Int32)) q2 mc)), .second, .val (.ref b3), .val (.int (own_wd (own_ce (p1 &&& (8 : Int32)) q2 mc) cb)), .val (.long ((own_ce (p1 &&& (8 : Int32)) q2 mc) / pw)), .second, .unset, .unset, .unset, .unset] [(.long pw), (.long (own_ce (p1 &&& (8 : Int32)) q2 mc))])) _
      refine XS.lrem X8.here hx rfl (hb hby at_97) rfl hnz2 ?_
      show Steps p.tables e below (T8.setTop (mkF m 98 #[.val (.int p1), .val (.long q2), .second, .val (.int cb), .val (.long pw), .second, .val (.long mc), .second, .val (.long (own_ce (p1 &&& (8 : Int32)) q2 mc)), .second, .val (.ref b3), .val (.int (own_wd (own_ce (p1 &&& (8 : Int32)) q2 mc) cb)), .val (.long ((own_ce (p1 &&& (8 : Int32)) q2 mc) / pw)), .second, .unset, .unset, .unset, .unset] [(.long ((own_ce (p1 &&& (8 : Int32)) q2 mc) - ((own_ce (p1 &&& (8 : Int32)) q2 mc) / pw) * pw))])) _
      refine XS.lstore X8.here hx rfl (hb hby at_98) rfl (l' := #[.val (.int p1), .val (.long q2), .second, .val (.int cb), .val (.long pw), .second, .val (.long mc), .second, .val (.long (own_ce (p1 &&& (8 : Int32)) q2 mc)), .second, .val (.ref b3), .val (.int (own_wd (own_ce (p1 &&& (8 : Int32)) q2 mc) cb)), .val (.long ((own_ce (p1 &&& (8 : Int32)) q2 mc) / pw)), .second, .val (.long ((own_ce (p1 &&& (8 : Int32)) q2 mc) - ((own_ce (p1 &&& (8 : Int32)) q2 mc) / pw) * pw)), .second, .unset, .unset]) rfl ?_
      show Steps p.tables e below (T8.setTop (mkF m 100 #[.val (.int p1), .val (.long q2), .second, .val (.int cb), .val (.long pw), .second, .val (.long mc), .second, .val (.long (own_ce (p1 &&& (8 : Int32)) q2 mc)), .second, .val (.ref b3), .val (.int (own_wd (own_ce (p1 &&& (8 : Int32)) q2 mc) cb)), .val (.long ((own_ce (p1 &&& (8 : Int32)) q2 mc) / pw)), .second, .val (.long ((own_ce (p1 &&& (8 : Int32)) q2 mc) - ((own_ce (p1 &&& (8 : Int32)) q2 mc) / pw) * pw)), .second, .unset, .unset] [])) _
      refine XS.lload X8.here hx rfl (hb hby at_100) rfl ?_
      show Steps p.tables e below (T8.setTop (mkF m 102 #[.val (.int p1), .val (.long q2), .second, .val (.int cb), .val (.long pw), .second, .val (.long mc), .second, .val (.long (own_ce (p1 &&& (8 : Int32)) q2 mc)), .second, .val (.ref b3), .val (.int (own_wd (own_ce (p1 &&& (8 : Int32)) q2 mc) cb)), .val (.long ((own_ce (p1 &&& (8 : Int32)) q2 mc) / pw)), .second, .val (.long ((own_ce (p1 &&& (8 : Int32)) q2 mc) - ((own_ce (p1 &&& (8 : Int32)) q2 mc) / pw) * pw)), .second, .unset, .unset] [(.long ((own_ce (p1 &&& (8 : Int32)) q2 mc) - ((own_ce (p1 &&& (8 : Int32)) q2 mc) / pw) * pw))])) _
      refine XS.lconst X8.here hx rfl (hb hby at_102) ?_
      show Steps p.tables e below (T8.setTop (mkF m 103 #[.val (.int p1), .val (.long q2), .second, .val (.int cb), .val (.long pw), .second, .val (.long mc), .second, .val (.long (own_ce (p1 &&& (8 : Int32)) q2 mc)), .second, .val (.ref b3), .val (.int (own_wd (own_ce (p1 &&& (8 : Int32)) q2 mc) cb)), .val (.long ((own_ce (p1 &&& (8 : Int32)) q2 mc) / pw)), .second, .val (.long ((own_ce (p1 &&& (8 : Int32)) q2 mc) - ((own_ce (p1 &&& (8 : Int32)) q2 mc) / pw) * pw)), .second, .unset, .unset] [(.long (0 : Int64)), (.long ((own_ce (p1 &&& (8 : Int32)) q2 mc) - ((own_ce (p1 &&& (8 : Int32)) q2 mc) / pw) * pw))])) _
      refine XS.lcmp X8.here hx rfl (hb hby at_103) rfl ?_
      show Steps p.tables e below (T8.setTop (mkF m 104 #[.val (.int p1), .val (.long q2), .second, .val (.int cb), .val (.long pw), .second, .val (.long mc), .second, .val (.long (own_ce (p1 &&& (8 : Int32)) q2 mc)), .second, .val (.ref b3), .val (.int (own_wd (own_ce (p1 &&& (8 : Int32)) q2 mc) cb)), .val (.long ((own_ce (p1 &&& (8 : Int32)) q2 mc) / pw)), .second, .val (.long ((own_ce (p1 &&& (8 : Int32)) q2 mc) - ((own_ce (p1 &&& (8 : Int32)) q2 mc) / pw) * pw)), .second, .unset, .unset] [(.int (lcmpW ((own_ce (p1 &&& (8 : Int32)) q2 mc) - ((own_ce (p1 &&& (8 : Int32)) q2 mc) / pw) * pw) (0 : Int64)))])) _
      refine XS.ifYes X8.here hx rfl (pc0 := 104) (pc' := 112) rfl (hb hby at_104) rfl ((if0 _ _).trans (feq hc104).2) (by decide) (by decide) ?_
      show Steps p.tables e below (T8.setTop (mkF m 112 #[.val (.int p1), .val (.long q2), .second, .val (.int cb), .val (.long pw), .second, .val (.long mc), .second, .val (.long (own_ce (p1 &&& (8 : Int32)) q2 mc)), .second, .val (.ref b3), .val (.int (own_wd (own_ce (p1 &&& (8 : Int32)) q2 mc) cb)), .val (.long ((own_ce (p1 &&& (8 : Int32)) q2 mc) / pw)), .second, .val (.long ((own_ce (p1 &&& (8 : Int32)) q2 mc) - ((own_ce (p1 &&& (8 : Int32)) q2 mc) / pw) * pw)), .second, .unset, .unset] [])) _
      refine XS.lload X8.here hx rfl (hb hby at_112) rfl ?_
      show Steps p.tables e below (T8.setTop (mkF m 114 #[.val (.int p1), .val (.long q2), .second, .val (.int cb), .val (.long pw), .second, .val (.long mc), .second, .val (.long (own_ce (p1 &&& (8 : Int32)) q2 mc)), .second, .val (.ref b3), .val (.int (own_wd (own_ce (p1 &&& (8 : Int32)) q2 mc) cb)), .val (.long ((own_ce (p1 &&& (8 : Int32)) q2 mc) / pw)), .second, .val (.long ((own_ce (p1 &&& (8 : Int32)) q2 mc) - ((own_ce (p1 &&& (8 : Int32)) q2 mc) / pw) * pw)), .second, .unset, .unset] [(.long ((own_ce (p1 &&& (8 : Int32)) q2 mc) / pw))])) _
      refine XS.lconst X8.here hx rfl (hb hby at_114) ?_
      show Steps p.tables e below (T8.setTop (mkF m 115 #[.val (.int p1), .val (.long q2), .second, .val (.int cb), .val (.long pw), .second, .val (.long mc), .second, .val (.long (own_ce (p1 &&& (8 : Int32)) q2 mc)), .second, .val (.ref b3), .val (.int (own_wd (own_ce (p1 &&& (8 : Int32)) q2 mc) cb)), .val (.long ((own_ce (p1 &&& (8 : Int32)) q2 mc) / pw)), .second, .val (.long ((own_ce (p1 &&& (8 : Int32)) q2 mc) - ((own_ce (p1 &&& (8 : Int32)) q2 mc) / pw) * pw)), .second, .unset, .unset] [(.long (1 : Int64)), (.long ((own_ce (p1 &&& (8 : Int32)) q2 mc) / pw))])) _
      refine XS.ladd X8.here hx rfl (hb hby at_115) rfl ?_
      show Steps p.tables e below (T8.setTop (mkF m 116 #[.val (.int p1), .val (.long q2), .second, .val (.int cb), .val (.long pw), .second, .val (.long mc), .second, .val (.long (own_ce (p1 &&& (8 : Int32)) q2 mc)), .second, .val (.ref b3), .val (.int (own_wd (own_ce (p1 &&& (8 : Int32)) q2 mc) cb)), .val (.long ((own_ce (p1 &&& (8 : Int32)) q2 mc) / pw)), .second, .val (.long ((own_ce (p1 &&& (8 : Int32)) q2 mc) - ((own_ce (p1 &&& (8 : Int32)) q2 mc) / pw) * pw)), .second, .unset, .unset] [(.long (((own_ce (p1 &&& (8 : Int32)) q2 mc) / pw) + (1 : Int64)))])) _
      refine XS.lstore X8.here hx rfl (hb hby at_116) rfl (l' := #[.val (.int p1), .val (.long q2), .second, .val (.int cb), .val (.long pw), .second, .val (.long mc), .second, .val (.long (own_ce (p1 &&& (8 : Int32)) q2 mc)), .second, .val (.ref b3), .val (.int (own_wd (own_ce (p1 &&& (8 : Int32)) q2 mc) cb)), .val (.long ((own_ce (p1 &&& (8 : Int32)) q2 mc) / pw)), .second, .val (.long ((own_ce (p1 &&& (8 : Int32)) q2 mc) - ((own_ce (p1 &&& (8 : Int32)) q2 mc) / pw) * pw)), .second, .val (.long (((own_ce (p1 &&& (8 : Int32)) q2 mc) / pw) + (1 : Int64))), .second]) rfl ?_
      exact kt
  obtain ⟨fs, hr, hrun, hended, hRW⟩ := X8.leaveW hS (Nat.le_trans hk6 (Nat.le_trans K7q.1 K8q.1)) (v := some (.int (1 : Int32))) (fun h => by rw [Bd.returns] at h; cases h)
  refine ⟨_, _, pre0 _ ?_, hrun, hended, _, _, rfl, ?_, ⟨_, rfl⟩, hRW.2.1, hRW.2.2.1, hRW.2.2.2.mono (by decide) (by decide)⟩
  -- 4. STEPS
  · show Steps p.tables e below (s₁.setTop (mkF m 0 #[.val (.int p1), .val (.long q2), .second, .unset, .unset, .unset, .unset, .unset, .unset, .unset, .unset, .unset, .unset, .unset, .unset, .unset, .unset, .unset] [])) _
    refine jmp_0 _ ?_
    show Steps p.tables e below (s₁.setTop (mkF m 26 #[.val (.int p1), .val (.long q2), .second, .val (.int cb), .val (.long pw), .second, .val (.long mc), .second, .unset, .unset, .unset, .unset, .unset, .unset, .unset, .unset, .unset, .unset] [])) _
    refine jmp_26 _ ?_
    show Steps p.tables e below (s₁.setTop (mkF m 62 #[.val (.int p1), .val (.long q2), .second, .val (.int cb), .val (.long pw), .second, .val (.long mc), .second, .val (.long (own_ce (p1 &&& (8 : Int32)) q2 mc)), .second, .unset, .unset, .unset, .unset, .unset, .unset, .unset, .unset] [])) _
    refine st3 _ ?_
    show Steps p.tables e below (T3.setTop (mkF m 65 #[.val (.int p1), .val (.long q2), .second, .val (.int cb), .val (.long pw), .second, .val (.long mc), .second, .val (.long (own_ce (p1 &&& (8 : Int32)) q2 mc)), .second, .unset, .unset, .unset, .unset, .unset, .unset, .unset, .unset] [(.ref b3)])) _
    refine XS.dup X3.here hx rfl (hb hby at_65) rfl rfl ?_
    show Steps p.tables e below (T3.setTop (mkF m 66 #[.val (.int p1), .val (.long q2), .second, .val (.int cb), .val (.long pw), .second, .val (.long mc), .second, .val (.long (own_ce (p1 &&& (8 : Int32)) q2 mc)), .second, .unset, .unset, .unset, .unset, .unset, .unset, .unset, .unset] [(.ref b3), (.ref b3)])) _
    refine st5 _ ?_
    show Steps p.tables e below (T5.setTop (mkF m 69 #[.val (.int p1), .val (.long q2), .second, .val (.int cb), .val (.long pw), .second, .val (.long mc), .second, .val (.long (own_ce (p1 &&& (8 : Int32)) q2 mc)), .second, .unset, .unset, .unset, .unset, .unset, .unset, .unset, .unset] [(.ref w4), (.ref b3), (.ref b3)])) _
    refine XS.iloadN X5.here hx rfl (hb hby at_69) rfl ?_
    show Steps p.tables e below (T5.setTop (mkF m 70 #[.val (.int p1), .val (.long q2), .second, .val (.int cb), .val (.long pw), .second, .val (.long mc), .second, .val (.long (own_ce (p1 &&& (8 : Int32)) q2 mc)), .second, .unset, .unset, .unset, .unset, .unset, .unset, .unset, .unset] [(.int cb), (.ref w4), (.ref b3), (.ref b3)])) _
    refine st6 _ ?_
    show Steps p.tables e below (T6.setTop (mkF m 72 #[.val (.int p1), .val (.long q2), .second, .val (.int cb), .val (.long pw), .second, .val (.long mc), .second, .val (.long (own_ce (p1 &&& (8 : Int32)) q2 mc)), .second, .unset, .unset, .unset, .unset, .unset, .unset, .unset, .unset] [(.ref b6), (.int cb), (.ref w4), (.ref b3), (.ref b3)])) _
    refine st7.trans ?_
    show Steps p.tables e below (T7.setTop (mkF m 75 #[.val (.int p1), .val (.long q2), .second, .val (.int cb), .val (.long pw), .second, .val (.long mc), .second, .val (.long (own_ce (p1 &&& (8 : Int32)) q2 mc)), .second, .unset, .unset, .unset, .unset, .unset, .unset, .unset, .unset] [(.ref b3)])) _
    refine XS.astore X7.here hx rfl (hb hby at_75) rfl rfl (l' := #[.val (.int p1), .val (.long q2), .second, .val (.int cb), .val (.long pw), .second, .val (.long mc), .second, .val (.long (own_ce (p1 &&& (8 : Int32)) q2 mc)), .second, .val (.ref b3), .unset, .unset, .unset, .unset, .unset, .unset, .unset]) rfl ?_
    show Steps p.tables e below (T7.setTop (mkF m 77 #[.val (.int p1), .val (.long q2), .second, .val (.int cb), .val (.long pw), .second, .val (.long mc), .second, .val (.long (own_ce (p1 &&& (8 : Int32)) q2 mc)), .second, .val (.ref b3), .unset, .unset, .unset, .unset, .unset, .unset, .unset] [])) _
    refine XS.aload X7.here hx rfl (hb hby at_77) rfl rfl ?_
    show Steps p.tables e below (T7.setTop (mkF m 79 #[.val (.int p1), .val (.long q2), .second, .val (.int cb), .val (.long pw), .second, .val (.long mc), .second, .val (.long (own_ce (p1 &&& (8 : Int32)) q2 mc)), .second, .val (.ref b3), .unset, .unset, .unset, .unset, .unset, .unset, .unset] [(.ref b3)])) _
    refine XS.lload X7.here hx rfl (hb hby at_79) rfl ?_
    show Steps p.tables e below (T7.setTop (mkF m 81 #[.val (.int p1), .val (.long q2), .second, .val (.int cb), .val (.long pw), .second, .val (.long mc), .second, .val (.long (own_ce (p1 &&& (8 : Int32)) q2 mc)), .second, .val (.ref b3), .unset, .unset, .unset, .unset, .unset, .unset, .unset] [(.long (own_ce (p1 &&& (8 : Int32)) q2 mc)), (.ref b3)])) _
    refine st8.trans ?_
    show Steps p.tables e below (T8.setTop (mkF m 84 #[.val (.int p1), .val (.long q2), .second, .val (.int cb), .val (.long pw), .second, .val (.long mc), .second, .val (.long (own_ce (p1 &&& (8 : Int32)) q2 mc)), .second, .val (.ref b3), .unset, .unset, .unset, .unset, .unset, .unset, .unset] [(.int (own_wd (own_ce (p1 &&& (8 : Int32)) q2 mc) cb))])) _
    refine XS.istore X8.here hx rfl (hb hby at_84) rfl (l' := #[.val (.int p1), .val (.long q2), .second, .val (.int cb), .val (.long pw), .second, .val (.long mc), .second, .val (.long (own_ce (p1 &&& (8 : Int32)) q2 mc)), .second, .val (.ref b3), .val (.int (own_wd (own_ce (p1 &&& (8 : Int32)) q2 mc) cb)), .unset, .unset, .unset, .unset, .unset, .unset]) rfl ?_
    show Steps p.tables e below (T8.setTop (mkF m 86 #[.val (.int p1), .val (.long q2), .second, .val (.int cb), .val (.long pw), .second, .val (.long mc), .second, .val (.long (own_ce (p1 &&& (8 : Int32)) q2 mc)), .second, .val (.ref b3), .val (.int (own_wd (own_ce (p1 &&& (8 : Int32)) q2 mc) cb)), .unset, .unset, .unset, .unset, .unset, .unset] [])) _
    refine jmp_86 _ ?_
    show Steps p.tables e below (T8.setTop (mkF m 118 #[.val (.int p1), .val (.long q2), .second, .val (.int cb), .val (.long pw), .second, .val (.long mc), .second, .val (.long (own_ce (p1 &&& (8 : Int32)) q2 mc)), .second, .val (.ref b3), .val (.int (own_wd (own_ce (p1 &&& (8 : Int32)) q2 mc) cb)), .val (.long ((own_ce (p1 &&& (8 : Int32)) q2 mc) / pw)), .second, .val (.long ((own_ce (p1 &&& (8 : Int32)) q2 mc) - ((own_ce (p1 &&& (8 : Int32)) q2 mc) / pw) * pw)), .second, .val (.long (own_ex (own_ce (p1 &&& (8 : Int32)) q2 mc) pw)), .second] [])) _
    refine XS.iload X8.here hx rfl (hb hby at_118) rfl ?_
    show Steps p.tables e below (T8.setTop (mkF m 120 #[.val (.int p1), .val (.long q2), .second, .val (.int cb), .val (.long pw), .second, .val (.long mc), .second, .val (.long (own_ce (p1 &&& (8 : Int32)) q2 mc)), .second, .val (.ref b3), .val (.int (own_wd (own_ce (p1 &&& (8 : Int32)) q2 mc) cb)), .val (.long ((own_ce (p1 &&& (8 : Int32)) q2 mc) / pw)), .second, .val (.long ((own_ce (p1 &&& (8 : Int32)) q2 mc) - ((own_ce (p1 &&& (8 : Int32)) q2 mc) / pw) * pw)), .second, .val (.long (own_ex (own_ce (p1 &&& (8 : Int32)) q2 mc) pw)), .second] [(.int (own_wd (own_ce (p1 &&& (8 : Int32)) q2 mc) cb))])) _
    refine XS.i2l X8.here hx rfl (hb hby at_120) rfl ?_
    show Steps p.tables e below (T8.setTop (mkF m 121 #[.val (.int p1), .val (.long q2), .second, .val (.int cb), .val (.long pw), .second, .val (.long mc), .second, .val (.long (own_ce (p1 &&& (8 : Int32)) q2 mc)), .second, .val (.ref b3), .val (.int (own_wd (own_ce (p1 &&& (8 : Int32)) q2 mc) cb)), .val (.long ((own_ce (p1 &&& (8 : Int32)) q2 mc) / pw)), .second, .val (.long ((own_ce (p1 &&& (8 : Int32)) q2 mc) - ((own_ce (p1 &&& (8 : Int32)) q2 mc) / pw) * pw)), .second, .val (.long (own_ex (own_ce (p1 &&& (8 : Int32)) q2 mc) pw)), .second] [(.long ((own_wd (own_ce (p1 &&& (8 : Int32)) q2 mc) cb).toInt64))])) _
    refine XS.lload X8.here hx rfl (hb hby at_121) rfl ?_
    show Steps p.tables e below (T8.setTop (mkF m 123 #[.val (.int p1), .val (.long q2), .second, .val (.int cb), .val (.long pw), .second, .val (.long mc), .second, .val (.long (own_ce (p1 &&& (8 : Int32)) q2 mc)), .second, .val (.ref b3), .val (.int (own_wd (own_ce (p1 &&& (8 : Int32)) q2 mc) cb)), .val (.long ((own_ce (p1 &&& (8 : Int32)) q2 mc) / pw)), .second, .val (.long ((own_ce (p1 &&& (8 : Int32)) q2 mc) - ((own_ce (p1 &&& (8 : Int32)) q2 mc) / pw) * pw)), .second, .val (.long (own_ex (own_ce (p1 &&& (8 : Int32)) q2 mc) pw)), .second] [(.long (own_ex (own_ce (p1 &&& (8 : Int32)) q2 mc) pw)), (.long ((own_wd (own_ce (p1 &&& (8 : Int32)) q2 mc) cb).toInt64))])) _
    refine XS.lcmp X8.here hx rfl (hb hby at_123) rfl ?_
    show Steps p.tables e below (T8.setTop (mkF m 124 #[.val (.int p1), .val (.long q2), .second, .val (.int cb), .val (.long pw), .second, .val (.long mc), .second, .val (.long (own_ce (p1 &&& (8 : Int32)) q2 mc)), .second, .val (.ref b3), .val (.int (own_wd (own_ce (p1 &&& (8 : Int32)) q2 mc) cb)), .val (.long ((own_ce (p1 &&& (8 : Int32)) q2 mc) / pw)), .second, .val (.long ((own_ce (p1 &&& (8 : Int32)) q2 mc) - ((own_ce (p1 &&& (8 : Int32)) q2 mc) / pw) * pw)), .second, .val (.long (own_ex (own_ce (p1 &&& (8 : Int32)) q2 mc) pw)), .second] [(.int (lcmpW ((own_wd (own_ce (p1 &&& (8 : Int32)) q2 mc) cb).toInt64) (own_ex (own_ce (p1 &&& (8 : Int32)) q2 mc) pw)))])) _
    refine XS.ifNo X8.here hx rfl (hb hby at_124) rfl ((if0 _ _).trans (teq ((lw_eq _ _).mpr hfin : (lcmpW ((own_wd (own_ce (p1 &&& (8 : Int32)) q2 mc) cb).toInt64) (own_ex (own_ce (p1 &&& (8 : Int32)) q2 mc) pw)) = (0 : Int32))).2) ?_
    show Steps p.tables e below (T8.setTop (mkF m 127 #[.val (.int p1), .val (.long q2), .second, .val (.int cb), .val (.long pw), .second, .val (.long mc), .second, .val (.long (own_ce (p1 &&& (8 : Int32)) q2 mc)), .second, .val (.ref b3), .val (.int (own_wd (own_ce (p1 &&& (8 : Int32)) q2 mc) cb)), .val (.long ((own_ce (p1 &&& (8 : Int32)) q2 mc) / pw)), .second, .val (.long ((own_ce (p1 &&& (8 : Int32)) q2 mc) - ((own_ce (p1 &&& (8 : Int32)) q2 mc) / pw) * pw)), .second, .val (.long (own_ex (own_ce (p1 &&& (8 : Int32)) q2 mc) pw)), .second] [])) _
    refine XS.iconst X8.here hx rfl (hb hby at_127) ?_
    show Steps p.tables e below (T8.setTop (mkF m 128 #[.val (.int p1), .val (.long q2), .second, .val (.int cb), .val (.long pw), .second, .val (.long mc), .second, .val (.long (own_ce (p1 &&& (8 : Int32)) q2 mc)), .second, .val (.ref b3), .val (.int (own_wd (own_ce (p1 &&& (8 : Int32)) q2 mc) cb)), .val (.long ((own_ce (p1 &&& (8 : Int32)) q2 mc) / pw)), .second, .val (.long ((own_ce (p1 &&& (8 : Int32)) q2 mc) - ((own_ce (p1 &&& (8 : Int32)) q2 mc) / pw) * pw)), .second, .val (.long (own_ex (own_ce (p1 &&& (8 : Int32)) q2 mc) pw)), .second] [(.int (1 : Int32))])) _
    refine XS.goto X8.here hx rfl (pc0 := 128) (pc' := 132) rfl (hb hby at_128) (by decide) (by decide) ?_
    show Steps p.tables e below (T8.setTop (mkF m 132 #[.val (.int p1), .val (.long q2), .second, .val (.int cb), .val (.long pw), .second, .val (.long mc), .second, .val (.long (own_ce (p1 &&& (8 : Int32)) q2 mc)), .second, .val (.ref b3), .val (.int (own_wd (own_ce (p1 &&& (8 : Int32)) q2 mc) cb)), .val (.long ((own_ce (p1 &&& (8 : Int32)) q2 mc) / pw)), .second, .val (.long ((own_ce (p1 &&& (8 : Int32)) q2 mc) - ((own_ce (p1 &&& (8 : Int32)) q2 mc) / pw) * pw)), .second, .val (.long (own_ex (own_ce (p1 &&& (8 : Int32)) q2 mc) pw)), .second] [(.int (1 : Int32))])) _
    exact retN X8 hx (t := .boolean) Bd.returns (by simp) (hb hby at_132) hr
  · show Q0 Z p1 q2 w4 h0 n0 _ T8.heap _
    exact ⟨rfl, N8⟩
theorem rm0 (l : Launch) (Z : State) (a0 : Array Value) (hw : ∀ d ∈ tables_1, d.before a0 Z = true) (ws : List Jvm.Cond) (p1 : Int32) (q2 : Int64) (w4 : Addr) (h0 : Heap) (n0 : Nat) (Z0 : n0 ≤ h0.size) (S_BLOOM : Sta Z h0 "com/example/compact_set_filters/compactsetfilters/FilterKind" "BLOOM" "Lcom/example/compact_set_filters/compactsetfilters/FilterKind;" (.ref w4)) : MetFree l x (head1 (Jvm.Cond.code x code maxLocals ret :: ws) room_1) (fun a U => a = #[(.int p1), (.long q2)] ∧ Z.Warmed39 U.vm ∧ U.heap = h0) (fun _ _ _ _ _ => True) (fun _ U o U' => ∃ v L, o = .returned v ∧ Q0 Z p1 q2 w4 h0 n0 v U'.heap L ∧ ReturnedEndW U o U' L room_1.cells room_1.slots) := by
  obtain ⟨k, h7, hk⟩ := own_cb p1
  revert hk
  exact match k, h7 with
    | 0, _ => fun hk => rm0x l Z a0 hw ws p1 q2 w4 h0 n0 Z0 S_BLOOM (1 : Int32) (64 : Int64) (137438952896 : Int64) hk (by decide) (by decide) (by decide) (by decide) (by decide) (own_fin _ _ _ 1 64 (by decide) (by decide) (Or.inl ⟨rfl, rfl⟩) (own_cells _ _ _ 137438952896 (by decide) (by decide) (by decide)).1 (own_cells _ _ _ 137438952896 (by decide) (by decide) (by decide)).2)
    | 1, _ => fun hk => rm0x l Z a0 hw ws p1 q2 w4 h0 n0 Z0 S_BLOOM (2 : Int32) (32 : Int64) (68719476448 : Int64) hk (by decide) (by decide) (by decide) (by decide) (by decide) (own_fin _ _ _ 2 32 (by decide) (by decide) (Or.inr (Or.inl ⟨rfl, rfl⟩)) (own_cells _ _ _ 68719476448 (by decide) (by decide) (by decide)).1 (own_cells _ _ _ 68719476448 (by decide) (by decide) (by decide)).2)
    | 2, _ => fun hk => rm0x l Z a0 hw ws p1 q2 w4 h0 n0 Z0 S_BLOOM (4 : Int32) (16 : Int64) (34359738224 : Int64) hk (by decide) (by decide) (by decide) (by decide) (by decide) (own_fin _ _ _ 4 16 (by decide) (by decide) (Or.inr (Or.inr (Or.inl ⟨rfl, rfl⟩))) (own_cells _ _ _ 34359738224 (by decide) (by decide) (by decide)).1 (own_cells _ _ _ 34359738224 (by decide) (by decide) (by decide)).2)
    | 3, _ => fun hk => rm0x l Z a0 hw ws p1 q2 w4 h0 n0 Z0 S_BLOOM (8 : Int32) (8 : Int64) (17179869112 : Int64) hk (by decide) (by decide) (by decide) (by decide) (by decide) (own_fin _ _ _ 8 8 (by decide) (by decide) (Or.inr (Or.inr (Or.inr (Or.inl ⟨rfl, rfl⟩)))) (own_cells _ _ _ 17179869112 (by decide) (by decide) (by decide)).1 (own_cells _ _ _ 17179869112 (by decide) (by decide) (by decide)).2)
    | 4, _ => fun hk => rm0x l Z a0 hw ws p1 q2 w4 h0 n0 Z0 S_BLOOM (16 : Int32) (4 : Int64) (8589934556 : Int64) hk (by decide) (by decide) (by decide) (by decide) (by decide) (own_fin _ _ _ 16 4 (by decide) (by decide) (Or.inr (Or.inr (Or.inr (Or.inr (Or.inl ⟨rfl, rfl⟩))))) (own_cells _ _ _ 8589934556 (by decide) (by decide) (by decide)).1 (own_cells _ _ _ 8589934556 (by decide) (by decide) (by decide)).2)
    | 5, _ => fun hk => rm0x l Z a0 hw ws p1 q2 w4 h0 n0 Z0 S_BLOOM (32 : Int32) (2 : Int64) (4294967278 : Int64) hk (by decide) (by decide) (by decide) (by decide) (by decide) (own_fin _ _ _ 32 2 (by decide) (by decide) (Or.inr (Or.inr (Or.inr (Or.inr (Or.inr (Or.inl ⟨rfl, rfl⟩)))))) (own_cells _ _ _ 4294967278 (by decide) (by decide) (by decide)).1 (own_cells _ _ _ 4294967278 (by decide) (by decide) (by decide)).2)
    | 6, _ => fun hk => rm0x l Z a0 hw ws p1 q2 w4 h0 n0 Z0 S_BLOOM (64 : Int32) (1 : Int64) (2147483639 : Int64) hk (by decide) (by decide) (by decide) (by decide) (by decide) (own_fin _ _ _ 64 1 (by decide) (by decide) (Or.inr (Or.inr (Or.inr (Or.inr (Or.inr (Or.inr (⟨rfl, rfl⟩))))))) (own_cells _ _ _ 2147483639 (by decide) (by decide) (by decide)).1 (own_cells _ _ _ 2147483639 (by decide) (by decide) (by decide)).2)
set_option maxRecDepth 65536 in
set_option maxHeartbeats 40000000 in
theorem comes_1 {Post : Tables → Env → Array Value → State → Outcome → State → Prop} (hpost : ∀ tb e args s v u, (limb_1_1.after args s (.returned v) u = true ∧ limb_1_2.after args s (.returned v) u = true ∧ True) → ReturnedEndW s (.returned v) u (Jvm.fieldLocs frame_1_writes args s ++ Jvm.arrayLocs frame_1_arrays args s ++ Jvm.staticLocs frame_1_statics s) 16 1152 → Post tb e args s (.returned v) u) :
    ArmFor flags0 classFile x code maxLocals ret World_1 tables_1 room_1 Calls_1 rest_1 Pre_1 Post := by
  intro l hfl _ _ p e ha hc hk s m args below hf hA hF happ hP
  obtain ⟨hcalls, hrest, hpre⟩ := hP
  obtain ⟨-, -, -, hnamed, -, -, -, hat⟩ := (Spec.applies_iff hf).mp happ
  obtain ⟨hg, hn⟩ := and_e (Cond.before_iff.mp (show (Jvm.Cond.and given_1 narrow_1).before args s = true from hpre))
  obtain ⟨g9, g10⟩ := and_e hg
  obtain ⟨g11, g12⟩ := and_e g10
  obtain ⟨w0, w1, rfl⟩ : ∃ w0 w1 : Value, args = #[w0, w1] := by
    have hs : args.size = 2 := by simpa [Cond.value, given_1] using g9
    obtain ⟨L⟩ := args
    match L, hs with
    | [w0, w1], _ => exact ⟨w0, w1, rfl⟩
  have hw := fun d (hd : d ∈ tables_1) => atoms_spec (ws := Jvm.Cond.code x code maxLocals ret :: tables_1) hat d (List.mem_cons_of_mem _ hd)
  have hfit : Fit s := fun {y c} hc i hi => by
    obtain ⟨ha, rfl⟩ := Array.getElem?_eq_some_iff.mp hc
    have q := List.all_eq_true.mp ((Array.all_eq_true_iff_forall_mem.mp hF) _ (Array.getElem_mem ha)) i (List.mem_range.mpr hi)
    simpa [Array.getElem?_eq_getElem hi] using q
  obtain ⟨i0, ei0⟩ := is_v g11
  obtain rfl : w0 = (.int i0) := Option.some.inj ei0
  obtain ⟨i1, ei1⟩ := isL_v g12
  obtain rfl : w1 = (.long i1) := Option.some.inj ei1
  obtain ⟨w4, ew4⟩ := exa_v hn
  obtain ⟨n, o, h1, h2, h3, _, L, rfl, ⟨rfl, N⟩, hq⟩ := rm0 l s _ hw tables_1 i0 i1 w4 s.heap s.heap.size (Nat.le_refl _) (Sta.start ew4 (Or.inr ⟨hw _ (List.mem_of_getElem? (i := 8) rfl), hw _ (List.mem_of_getElem? (i := 9) rfl)⟩)) p e ha hc hk s m _ below hf ((Spec.applies_iff_loose hf).mp happ).1 ⟨rfl, State.Warmed39.refl s, rfl⟩ trivial
  refine ⟨n, _, h1, h2, h3, hpost _ _ _ _ _ _ ⟨Cond.after_iff.mpr rfl, Cond.after_iff.mpr (eq_i res_at (Term.int_eval (1)) rfl), trivial⟩ ⟨hq.1, hq.2.1, hq.2.2.1, (hq.2.2.2.sift fun y hy => Or.inr (N y hy)).mono (by decide) (by decide)⟩⟩
theorem main_1_1 : Claimed_1_1 := comes_1 fun _ _ _ _ _ _ h hF => ⟨h.1, hF⟩
theorem main_1_2 : Claimed_1_2 := comes_1 fun _ _ _ _ _ _ h hF => ⟨h.2.1, hF⟩
end Jvm.Pilot.@@N@@
namespace Jvm.Pilot.@@N@@
open Jvm Jvm.ClassFile Sem Op Lib Jvm.Free Jvm.Stand Jvm.Pilot.@@N@@.Jvm.D
/-! MADE BY PROGRAM (witnessworld.py) out of the Statement's table words and the real class files: 17 classes; the members and pool entries that the words name. The judged class is class 1, her method 1. -/
namespace start1
open Jvm.ClassFile
def u (s : String) : CpInfo := .utf8 (stringToUtf16 s)
/-- a pool by its gaps: so many unusable entries, then the entry; so many at the end -/
def gap : Nat → List CpInfo → List CpInfo
  | 0, r => r
  | n + 1, r => .unusable :: gap n r
def poolList (es : List (Nat × CpInfo)) (last : Nat) : List CpInfo := es.foldr (fun e r => gap e.1 (e.2 :: r)) (gap last [])
def pool (es : List (Nat × CpInfo)) (last : Nat) : Array CpInfo := ⟨poolList es last⟩
def fileOf (pool : Array CpInfo) (this : Nat) (attrs : Array Attribute := #[]) (ms : Array MethodInfo := #[]) (fl : Nat := 33) (sup : Nat := 0) (ifs : Array Nat := #[]) (fds : Array FieldInfo := #[]) : ClassFile where
  minorVersion := 0
  majorVersion := 65
  constantPool := pool
  accessFlags := fl
  thisClass := this
  superClass := sup
  interfaces := ifs
  fields := fds
  methods := ms
  attributes := attrs
def plain (name : String) (sup : Option ClassId) : Class where
  name := name
  kind := .ordinary
  loader := none
  accessFlags := 33
  super := sup
  interfaces := #[]
  cf := none
  fields := #[]
  methods := #[]
  instanceTypes := #[]
  staticTypes := #[]
  resolved := #[]
  callSites := []
  init := .initialized
  statics := none
  mirror := none

def pool0 : Array CpInfo := pool [(5, u "<init>"), (0, u "()V"), (1, .class_ 10), (1, u "java/lang/Object")] 113

def k0c0 : Code := { maxStack := 0, maxLocals := 1, code := object_method_1_code, exceptionTable := #[], attributes := #[] }
def k0m0 : Method := { name := "<init>", desc := "()V", sig := { parameters := [], returnType := none }, accessFlags := 1, code := some k0c0 }
/-- java/lang/Object -/
def k0 : Class := { plain "java/lang/Object" none with
  accessFlags := 33
  interfaces := #[]
  cf := some (fileOf pool0 8 #[] #[{ accessFlags := 1, nameIndex := 5, descriptorIndex := 6, attributes := #[] }] 33 0 #[] #[])
  fields := #[]
  methods := #[k0m0]
  instanceTypes := #[]
  staticTypes := #[]
  resolved := Array.replicate 124 none
  statics := none }

def pool1 : Array CpInfo := pool [(2, .class_ 4), (1, u "java/lang/Object"), (0, u "<init>"), (0, u "()V"), (0, .integer 2147483647), (0, .long 64), (1, .long 2147483639), (3, .long 9223372036854775807), (1, .long 256), (1, .class_ 19), (0, u "com/example/compact_set_filters/compactsetfilters/AbstractBloomFilter$Layout"), (0, .fieldref 21 22), (0, .class_ 23), (0, .nameAndType 24 25), (0, u "com/example/compact_set_filters/compactsetfilters/FilterKind"), (0, u "BLOOM"), (0, u "Lcom/example/compact_set_filters/compactsetfilters/FilterKind;"), (0, .string 27), (0, u "c"), (0, .methodref 18 29), (0, .nameAndType 5 30), (0, u "(Lcom/example/compact_set_filters/compactsetfilters/FilterKind;ILjava/lang/String;)V"), (0, .methodref 18 32), (0, .nameAndType 33 34), (0, u "wordsFor"), (0, u "(J)I"), (0, .class_ 36), (0, u "com/example/compact_set_filters/compactsetfilters/LayoutWordsForPinLaw"), (2, u "law"), (0, u "(IJ)Z")] 7

def k1m0 : Method := { name := "<init>", desc := "()V", sig := { parameters := [], returnType := none }, accessFlags := 1, code := none }
def k1c1 : Code := { maxStack := 6, maxLocals := 18, code := code, exceptionTable := #[], attributes := #[] }
def k1m1 : Method := { name := "law", desc := "(IJ)Z", sig := { parameters := [.int, .long], returnType := some .boolean }, accessFlags := 9, code := some k1c1 }
/-- com/example/compact_set_filters/compactsetfilters/LayoutWordsForPinLaw -/
def k1 : Class := { plain "com/example/compact_set_filters/compactsetfilters/LayoutWordsForPinLaw" (some 0) with
  accessFlags := 49
  interfaces := #[]
  cf := some (fileOf pool1 35 #[] #[{ accessFlags := 1, nameIndex := 5, descriptorIndex := 6, attributes := #[] }, { accessFlags := 9, nameIndex := 39, descriptorIndex := 40, attributes := #[] }] 49 2 #[] #[])
  fields := #[]
  methods := #[k1m0, k1m1]
  instanceTypes := #[]
  staticTypes := #[]
  resolved := Array.replicate 48 none
  statics := none }

def pool2 : Array CpInfo := pool [(1, .methodref 2 3), (0, .class_ 4), (0, .nameAndType 5 6), (0, u "java/lang/Object"), (0, u "<init>"), (0, u "()V"), (0, .class_ 8), (0, u "java/lang/Record")] 13

def k2c0 : Code := { maxStack := 1, maxLocals := 1, code := jdk_30_method_1_code, exceptionTable := #[], attributes := #[] }
def k2m0 : Method := { name := "<init>", desc := "()V", sig := { parameters := [], returnType := none }, accessFlags := 4, code := some k2c0 }
/-- java/lang/Record -/
def k2 : Class := { plain "java/lang/Record" (some 0) with
  accessFlags := 1057
  interfaces := #[]
  cf := some (fileOf pool2 7 #[] #[{ accessFlags := 4, nameIndex := 5, descriptorIndex := 6, attributes := #[] }] 1057 2 #[] #[])
  fields := #[]
  methods := #[k2m0]
  instanceTypes := #[]
  staticTypes := #[]
  resolved := Array.replicate 22 none
  statics := none }

def pool3 : Array CpInfo := pool [(1, .methodref 2 3), (0, .class_ 4), (0, .nameAndType 5 6), (0, u "java/lang/Record"), (0, u "<init>"), (0, u "()V"), (0, .fieldref 8 9), (0, .class_ 10), (0, .nameAndType 11 12), (0, u "com/example/compact_set_filters/compactsetfilters/AbstractBloomFilter$Layout"), (0, u "kind"), (0, u "Lcom/example/compact_set_filters/compactsetfilters/FilterKind;"), (0, .fieldref 8 14), (0, .nameAndType 15 16), (0, u "cellBits"), (0, u "I"), (0, .fieldref 8 18), (0, .nameAndType 19 20), (0, u "cellName"), (0, u "Ljava/lang/String;"), (6, .long 64), (13, u "(Lcom/example/compact_set_filters/compactsetfilters/FilterKind;ILjava/lang/String;)V"), (5, u "wordsFor"), (0, u "(J)I"), (7, .class_ 57), (0, u "com/example/compact_set_filters/compactsetfilters/AbstractBloomFilter")] 21

def k3c0 : Code := { maxStack := 2, maxLocals := 4, code := prog_2_method_1_code, exceptionTable := #[], attributes := #[] }
def k3m0 : Method := { name := "<init>", desc := "(Lcom/example/compact_set_filters/compactsetfilters/FilterKind;ILjava/lang/String;)V", sig := { parameters := [(.object "com/example/compact_set_filters/compactsetfilters/FilterKind"), .int, (.object "java/lang/String")], returnType := none }, accessFlags := 0, code := some k3c0 }
def k3c1 : Code := { maxStack := 4, maxLocals := 3, code := prog_2_method_3_code, exceptionTable := #[], attributes := #[] }
def k3m1 : Method := { name := "wordsFor", desc := "(J)I", sig := { parameters := [.long], returnType := some .int }, accessFlags := 0, code := some k3c1 }
/-- com/example/compact_set_filters/compactsetfilters/AbstractBloomFilter$Layout -/
def k3 : Class := { plain "com/example/compact_set_filters/compactsetfilters/AbstractBloomFilter$Layout" (some 2) with
  accessFlags := 48
  interfaces := #[]
  cf := some (fileOf pool3 8 #[.nestHost 56] #[{ accessFlags := 0, nameIndex := 5, descriptorIndex := 41, attributes := #[] }, { accessFlags := 0, nameIndex := 47, descriptorIndex := 48, attributes := #[] }] 48 2 #[] #[{ accessFlags := 18, nameIndex := 11, descriptorIndex := 12, attributes := #[] }, { accessFlags := 18, nameIndex := 15, descriptorIndex := 16, attributes := #[] }, { accessFlags := 18, nameIndex := 19, descriptorIndex := 20, attributes := #[] }])
  fields := #[{ name := "kind", type := (.object "com/example/compact_set_filters/compactsetfilters/FilterKind"), accessFlags := 18, slot := 0, constantValue := 0 }, { name := "cellBits", type := .int, accessFlags := 18, slot := 1, constantValue := 0 }, { name := "cellName", type := (.object "java/lang/String"), accessFlags := 18, slot := 2, constantValue := 0 }]
  methods := #[k3m0, k3m1]
  instanceTypes := #[(.object "com/example/compact_set_filters/compactsetfilters/FilterKind"), .int, (.object "java/lang/String")]
  staticTypes := #[]
  resolved := Array.replicate 79 none
  statics := none }

def pool4 : Array CpInfo := pool [(1, .class_ 2), (0, u "java/lang/constant/Constable"), (0, .class_ 4), (0, u "java/lang/Object")] 6

/-- java/lang/constant/Constable -/
def k4 : Class := { plain "java/lang/constant/Constable" (some 0) with
  accessFlags := 1537
  interfaces := #[]
  cf := some (fileOf pool4 1 #[] #[] 1537 3 #[] #[])
  fields := #[]
  methods := #[]
  instanceTypes := #[]
  staticTypes := #[]
  resolved := Array.replicate 11 none
  statics := none }

def pool5 : Array CpInfo := pool [(1, .class_ 2), (0, u "java/lang/Comparable"), (0, .class_ 4), (0, u "java/lang/Object")] 7

/-- java/lang/Comparable -/
def k5 : Class := { plain "java/lang/Comparable" (some 0) with
  accessFlags := 1537
  interfaces := #[]
  cf := some (fileOf pool5 1 #[] #[] 1537 3 #[] #[])
  fields := #[]
  methods := #[]
  instanceTypes := #[]
  staticTypes := #[]
  resolved := Array.replicate 12 none
  statics := none }

def pool6 : Array CpInfo := pool [(1, .class_ 2), (0, u "java/io/Serializable"), (0, .class_ 4), (0, u "java/lang/Object")] 2

/-- java/io/Serializable -/
def k6 : Class := { plain "java/io/Serializable" (some 0) with
  accessFlags := 1537
  interfaces := #[]
  cf := some (fileOf pool6 1 #[] #[] 1537 3 #[] #[])
  fields := #[]
  methods := #[]
  instanceTypes := #[]
  staticTypes := #[]
  resolved := Array.replicate 7 none
  statics := none }

def pool7 : Array CpInfo := pool [(2, .class_ 4), (1, u "java/lang/Enum"), (0, u "name"), (0, u "Ljava/lang/String;"), (2, u "ordinal"), (0, u "I"), (1, .class_ 14), (1, u "java/lang/Object"), (4, u "hash"), (86, .class_ 108), (1, u "java/lang/Enum$EnumDesc"), (2, .class_ 112), (0, u "java/lang/constant/Constable"), (0, .class_ 114), (0, u "java/lang/Comparable"), (0, .class_ 116), (0, u "java/io/Serializable")] 87

/-- java/lang/Enum -/
def k7 : Class := { plain "java/lang/Enum" (some 0) with
  accessFlags := 1057
  interfaces := #[4, 5, 6]
  cf := some (fileOf pool7 2 #[.nestMembers #[106]] #[] 1057 12 #[111, 113, 115] #[{ accessFlags := 18, nameIndex := 5, descriptorIndex := 6, attributes := #[] }, { accessFlags := 18, nameIndex := 9, descriptorIndex := 10, attributes := #[] }, { accessFlags := 2, nameIndex := 19, descriptorIndex := 10, attributes := #[] }])
  fields := #[{ name := "name", type := (.object "java/lang/String"), accessFlags := 18, slot := 0, constantValue := 0 }, { name := "ordinal", type := .int, accessFlags := 18, slot := 1, constantValue := 0 }, { name := "hash", type := .int, accessFlags := 2, slot := 2, constantValue := 0 }]
  methods := #[]
  instanceTypes := #[(.object "java/lang/String"), .int, .int]
  staticTypes := #[]
  resolved := Array.replicate 204 none
  statics := none }

def pool8 : Array CpInfo := pool [(1, .class_ 2), (0, u "com/example/compact_set_filters/compactsetfilters/FilterKind"), (2, u "BLOOM"), (0, u "Lcom/example/compact_set_filters/compactsetfilters/FilterKind;"), (2, u "COUNTING_BLOOM"), (2, u "QUOTIENT"), (2, u "BINARY_FUSE_8"), (2, u "BINARY_FUSE_16"), (2, u "$VALUES"), (0, u "[Lcom/example/compact_set_filters/compactsetfilters/FilterKind;"), (6, .class_ 31), (1, u "java/lang/Enum"), (8, u "code"), (0, u "I"), (2, u "description"), (0, u "Ljava/lang/String;"), (2, u "headerBytes"), (2, u "reader"), (0, u "Lcom/example/compact_set_filters/compactsetfilters/FilterKind$Reader;"), (55, .class_ 109), (0, u "com/example/compact_set_filters/compactsetfilters/FilterKind$Reader")] 35

/-- com/example/compact_set_filters/compactsetfilters/FilterKind -/
def k8 : Class := { plain "com/example/compact_set_filters/compactsetfilters/FilterKind" (some 7) with
  accessFlags := 16432
  interfaces := #[]
  cf := some (fileOf pool8 1 #[.nestMembers #[108]] #[] 16432 29 #[] #[{ accessFlags := 16409, nameIndex := 5, descriptorIndex := 6, attributes := #[] }, { accessFlags := 16409, nameIndex := 9, descriptorIndex := 6, attributes := #[] }, { accessFlags := 16409, nameIndex := 12, descriptorIndex := 6, attributes := #[] }, { accessFlags := 16409, nameIndex := 15, descriptorIndex := 6, attributes := #[] }, { accessFlags := 16409, nameIndex := 18, descriptorIndex := 6, attributes := #[] }, { accessFlags := 18, nameIndex := 40, descriptorIndex := 41, attributes := #[] }, { accessFlags := 18, nameIndex := 44, descriptorIndex := 45, attributes := #[] }, { accessFlags := 18, nameIndex := 48, descriptorIndex := 41, attributes := #[] }, { accessFlags := 18, nameIndex := 51, descriptorIndex := 52, attributes := #[] }, { accessFlags := 4122, nameIndex := 21, descriptorIndex := 22, attributes := #[] }])
  fields := #[{ name := "BLOOM", type := (.object "com/example/compact_set_filters/compactsetfilters/FilterKind"), accessFlags := 16409, slot := 0, constantValue := 0 }, { name := "COUNTING_BLOOM", type := (.object "com/example/compact_set_filters/compactsetfilters/FilterKind"), accessFlags := 16409, slot := 1, constantValue := 0 }, { name := "QUOTIENT", type := (.object "com/example/compact_set_filters/compactsetfilters/FilterKind"), accessFlags := 16409, slot := 2, constantValue := 0 }, { name := "BINARY_FUSE_8", type := (.object "com/example/compact_set_filters/compactsetfilters/FilterKind"), accessFlags := 16409, slot := 3, constantValue := 0 }, { name := "BINARY_FUSE_16", type := (.object "com/example/compact_set_filters/compactsetfilters/FilterKind"), accessFlags := 16409, slot := 4, constantValue := 0 }, { name := "code", type := .int, accessFlags := 18, slot := 3, constantValue := 0 }, { name := "description", type := (.object "java/lang/String"), accessFlags := 18, slot := 4, constantValue := 0 }, { name := "headerBytes", type := .int, accessFlags := 18, slot := 5, constantValue := 0 }, { name := "reader", type := (.object "com/example/compact_set_filters/compactsetfilters/FilterKind$Reader"), accessFlags := 18, slot := 6, constantValue := 0 }, { name := "$VALUES", type := (.array (.object "com/example/compact_set_filters/compactsetfilters/FilterKind")), accessFlags := 4122, slot := 5, constantValue := 0 }]
  methods := #[]
  instanceTypes := #[(.object "java/lang/String"), .int, .int, .int, (.object "java/lang/String"), .int, (.object "com/example/compact_set_filters/compactsetfilters/FilterKind$Reader")]
  staticTypes := #[(.object "com/example/compact_set_filters/compactsetfilters/FilterKind"), (.object "com/example/compact_set_filters/compactsetfilters/FilterKind"), (.object "com/example/compact_set_filters/compactsetfilters/FilterKind"), (.object "com/example/compact_set_filters/compactsetfilters/FilterKind"), (.object "com/example/compact_set_filters/compactsetfilters/FilterKind"), (.array (.object "com/example/compact_set_filters/compactsetfilters/FilterKind"))]
  resolved := Array.replicate 145 none
  statics := some 0 }

def pool9 : Array CpInfo := pool [(2, .class_ 4), (1, u "java/lang/CharSequence"), (42, .class_ 48), (0, u "java/lang/CharSequence$1CodePointIterator"), (10, .class_ 60), (0, u "java/lang/CharSequence$1CharIterator"), (5, .class_ 67), (0, u "java/lang/Object")] 63

/-- java/lang/CharSequence -/
def k9 : Class := { plain "java/lang/CharSequence" (some 0) with
  accessFlags := 1537
  interfaces := #[]
  cf := some (fileOf pool9 2 #[.nestMembers #[47, 59]] #[] 1537 66 #[] #[])
  fields := #[]
  methods := #[]
  instanceTypes := #[]
  staticTypes := #[]
  resolved := Array.replicate 131 none
  statics := none }

def pool10 : Array CpInfo := pool [(1, .class_ 2), (0, u "java/lang/constant/ConstantDesc"), (0, .class_ 4), (0, u "java/lang/Object")] 32

/-- java/lang/constant/ConstantDesc -/
def k10 : Class := { plain "java/lang/constant/ConstantDesc" (some 0) with
  accessFlags := 1537
  interfaces := #[]
  cf := some (fileOf pool10 1 #[] #[] 1537 3 #[] #[])
  fields := #[]
  methods := #[]
  instanceTypes := #[]
  staticTypes := #[]
  resolved := Array.replicate 37 none
  statics := none }

def pool11 : Array CpInfo := pool [(2, .class_ 4), (1, u "java/lang/Object"), (0, u "<init>"), (0, u "()V"), (3, .class_ 12), (1, u "java/lang/String"), (0, u "value"), (0, u "[B"), (2, u "coder"), (0, u "B"), (2, u "hash"), (0, u "I"), (2, u "hashIsZero"), (0, u "Z"), (13, u "COMPACT_STRINGS"), (534, .class_ 576), (0, u "java/lang/CharSequence"), (22, u "CASE_INSENSITIVE_ORDER"), (0, u "Ljava/util/Comparator;"), (500, u "serialPersistentFields"), (0, u "[Ljava/io/ObjectStreamField;"), (0, .class_ 1104), (0, u "java/lang/String$CaseInsensitiveComparator"), (1, .class_ 1107), (0, u "java/io/Serializable"), (0, .class_ 1109), (0, u "java/lang/Comparable"), (0, .class_ 1111), (0, u "java/lang/constant/Constable"), (0, .class_ 1113), (0, u "java/lang/constant/ConstantDesc"), (2, u "serialVersionUID"), (0, u "J"), (3, u "REPL"), (0, u "C"), (2, u "LATIN1"), (1, u "UTF16")] 323

def k11m0 : Method := { name := "<init>", desc := "()V", sig := { parameters := [], returnType := none }, accessFlags := 1, code := none }
/-- java/lang/String -/
def k11 : Class := { plain "java/lang/String" (some 0) with
  accessFlags := 49
  interfaces := #[6, 5, 9, 4, 10]
  cf := some (fileOf pool11 10 #[.nestMembers #[1103]] #[{ accessFlags := 1, nameIndex := 5, descriptorIndex := 6, attributes := #[] }] 49 2 #[1106, 1108, 575, 1110, 1112] #[{ accessFlags := 18, nameIndex := 13, descriptorIndex := 14, attributes := #[] }, { accessFlags := 18, nameIndex := 17, descriptorIndex := 18, attributes := #[] }, { accessFlags := 2, nameIndex := 21, descriptorIndex := 22, attributes := #[] }, { accessFlags := 2, nameIndex := 25, descriptorIndex := 26, attributes := #[] }, { accessFlags := 26, nameIndex := 1116, descriptorIndex := 1117, attributes := #[] }, { accessFlags := 24, nameIndex := 40, descriptorIndex := 26, attributes := #[] }, { accessFlags := 26, nameIndex := 1101, descriptorIndex := 1102, attributes := #[] }, { accessFlags := 26, nameIndex := 1121, descriptorIndex := 1122, attributes := #[] }, { accessFlags := 25, nameIndex := 599, descriptorIndex := 600, attributes := #[] }, { accessFlags := 24, nameIndex := 1125, descriptorIndex := 18, attributes := #[] }, { accessFlags := 24, nameIndex := 1127, descriptorIndex := 18, attributes := #[] }])
  fields := #[{ name := "value", type := (.array .byte), accessFlags := 18, slot := 0, constantValue := 0 }, { name := "coder", type := .byte, accessFlags := 18, slot := 1, constantValue := 0 }, { name := "hash", type := .int, accessFlags := 2, slot := 2, constantValue := 0 }, { name := "hashIsZero", type := .boolean, accessFlags := 2, slot := 3, constantValue := 0 }, { name := "serialVersionUID", type := .long, accessFlags := 26, slot := 0, constantValue := 0 }, { name := "COMPACT_STRINGS", type := .boolean, accessFlags := 24, slot := 1, constantValue := 0 }, { name := "serialPersistentFields", type := (.array (.object "java/io/ObjectStreamField")), accessFlags := 26, slot := 2, constantValue := 0 }, { name := "REPL", type := .char, accessFlags := 26, slot := 3, constantValue := 0 }, { name := "CASE_INSENSITIVE_ORDER", type := (.object "java/util/Comparator"), accessFlags := 25, slot := 4, constantValue := 0 }, { name := "LATIN1", type := .byte, accessFlags := 24, slot := 5, constantValue := 0 }, { name := "UTF16", type := .byte, accessFlags := 24, slot := 6, constantValue := 0 }]
  methods := #[k11m0]
  instanceTypes := #[(.array .byte), .byte, .int, .boolean]
  staticTypes := #[.long, .boolean, (.array (.object "java/io/ObjectStreamField")), .char, (.object "java/util/Comparator"), .byte, .byte]
  resolved := Array.replicate 1451 none
  statics := none }

def pool12 : Array CpInfo := pool [(1, u "java/lang/Cloneable"), (0, .class_ 1), (0, u "java/lang/Object"), (0, .class_ 3)] 3

/-- java/lang/Cloneable -/
def k12 : Class := { plain "java/lang/Cloneable" (some 0) with
  accessFlags := 1537
  interfaces := #[]
  cf := some (fileOf pool12 2 #[] #[] 1537 4 #[] #[])
  fields := #[]
  methods := #[]
  instanceTypes := #[]
  staticTypes := #[]
  resolved := Array.replicate 8 none
  statics := none }

/-- the primitive byte -/
def k13 : Class := { plain "byte" none with kind := .primitive 'B', accessFlags := 0x411 }
/-- [B -/
def k14 : Class := { plain "[B" (some 0) with kind := .array 13 .byte, interfaces := #[12, 6], accessFlags := 1041 }

/-- the primitive int -/
def k15 : Class := { plain "int" none with kind := .primitive 'I', accessFlags := 0x411 }
/-- [I -/
def k16 : Class := { plain "[I" (some 0) with kind := .array 15 .int, interfaces := #[12, 6], accessFlags := 1041 }

def heap : Heap := #[{ cls := 8, slots := #[.ref 1, .null, .null, .null, .null, .null], vm := .statics 8 },
  { cls := 8, slots := #[.null, .int 0, .int 0, .int 1, .null, .int 0, .null], vm := .none }]
def classes : Array Class := #[k0, k1, k2, k3, k4, k5, k6, k7, k8, k9, k10, k11, k12, k13, k14, k15, k16]
def interned : List (Array UInt16 × Addr) := []
def slotsUsed : Nat := 13
def theMethod : MethodId := ⟨1, 1⟩
def args0 : Array Value := #[.int 5, .long 7]
def aboutOver (below : List Frame) : State where
  vm := { classes := classes, interned := interned.toArray }
  heap := heap
  slotsUsed := slotsUsed
  threads := #[{ frames := .invoking theMethod args0 :: below }]
def below0 : List Frame := [.native { method := ⟨0, 0⟩, args := #[] }]
def about1 : State := aboutOver below0
def p0 : Program := .bare "" "" ""
def e0 : Env := launch0.env 0 0 0
theorem w_frames : about1.frames = Frame.invoking theMethod args0 :: below0 := rfl
set_option maxRecDepth 65536 in
theorem w_args : argsFit about1.vm theMethod args0 = true := by decide +kernel
set_option maxRecDepth 65536 in
theorem w_heap : heapFits about1 = true := by decide +kernel
set_option maxRecDepth 65536 in
theorem w_runnable : about1.curStatus? = some .runnable := by decide +kernel
set_option maxRecDepth 65536 in
theorem w_alone : about1.alone = true := by decide +kernel
set_option maxRecDepth 65536 in
theorem w_named : about1.methodNamed? x = some theMethod := by decide +kernel
set_option maxRecDepth 65536 in
theorem w_hears : about1.hears theMethod below0 = true := by decide +kernel
set_option maxRecDepth 65536 in
theorem w_ripe : about1.ripe theMethod args0 below0 = true := by decide +kernel
theorem w_running : about1.status = .running := rfl
set_option maxRecDepth 65536 in
theorem w_room : about1.hasRoom e0.platform room_1 = true :=
  launch0.hasRoom_least _ room_1 (by decide +kernel) (by decide +kernel) (by decide +kernel) (by decide +kernel) (by decide +kernel) (by decide +kernel)
theorem allAtoms_all (ts : List Jvm.Cond) (a : Array Jvm.Value) (st : Jvm.State) : (allAtoms ts).before a st = ts.all (fun c => c.before a st) := by
  induction ts with
  | nil => rfl
  | cons c t ih =>
    show (Jvm.Cond.and c (allAtoms t)).before a st = _
    rw [Jvm.Cond.before_and, ih, List.all_cons]
def words1 : List Jvm.Cond := Jvm.Cond.code x code maxLocals ret :: tables_1
/-- a 'code' word, met by the world's own term for the bytes: nothing is compared byte by byte -/
theorem code_word {y : MethodName} {bytes : ByteArray} {mx : Nat} {rt : Option FieldType} {a : Array Value} {s : State} {m : MethodId} {meth : Method} {c : Code} (h1 : s.methodNamed? y = some m) (h2 : s.vm.method? m = some meth) (h3 : meth.code = some c) (h4 : c.code = bytes)
    (h5 : (c.maxLocals == mx && c.exceptionTable.isEmpty && decide (c.maxStack ≤ mostOperands) && decide (meth.sig.returnType = rt) && !meth.locks && decide (parseMethodDescriptor y.desc = some meth.sig)) = true) : (Jvm.Cond.code y bytes mx rt).before a s = true := by
  simp only [Bool.and_eq_true, beq_iff_eq, Bool.not_eq_true', decide_eq_true_eq] at h5
  obtain ⟨⟨⟨⟨⟨g1, g2⟩, g3⟩, g4⟩, g5⟩, g6⟩ := h5
  simp [Cond.before, Cond.holds, Cond.value, h1, h2, h3, h4, g1, g2, g3, g4, g5, g6]
def isCode : Jvm.Cond → Bool
  | .code _ _ _ _ => true
  | _ => false
theorem all_split {L : List Jvm.Cond} {P : Jvm.Cond → Bool} (h1 : L.all (fun c => isCode c || P c) = true) (h2 : ∀ c ∈ L.filter isCode, P c = true) : L.all P = true := by
  refine List.all_eq_true.mpr fun c hc => ?_
  have h := List.all_eq_true.mp h1 c hc
  rcases Bool.eq_false_or_eq_true (isCode c) with hi | hi
  · exact h2 c (List.mem_filter.mpr ⟨hc, hi⟩)
  · simpa [hi] using h
set_option maxRecDepth 65536 in
theorem w_c0 : (Jvm.Cond.code x code maxLocals ret).before args0 about1 = true := code_word (m := ⟨1, 1⟩) (meth := k1m1) (c := k1c1) (by decide +kernel) rfl rfl rfl (by decide +kernel)
set_option maxRecDepth 65536 in
theorem w_c1 : (Jvm.Cond.code ({ cls := "com/example/compact_set_filters/compactsetfilters/AbstractBloomFilter$Layout", name := "<init>", desc := "(Lcom/example/compact_set_filters/compactsetfilters/FilterKind;ILjava/lang/String;)V" } : Jvm.MethodName) prog_2_method_1_code (4 : Nat) (Option.none : Option Jvm.ClassFile.FieldType)).before args0 about1 = true := code_word (m := ⟨3, 0⟩) (meth := k3m0) (c := k3c0) (by decide +kernel) rfl rfl rfl (by decide +kernel)
set_option maxRecDepth 65536 in
theorem w_c2 : (Jvm.Cond.code ({ cls := "java/lang/Record", name := "<init>", desc := "()V" } : Jvm.MethodName) jdk_30_method_1_code (1 : Nat) (Option.none : Option Jvm.ClassFile.FieldType)).before args0 about1 = true := code_word (m := ⟨2, 0⟩) (meth := k2m0) (c := k2c0) (by decide +kernel) rfl rfl rfl (by decide +kernel)
set_option maxRecDepth 65536 in
theorem w_c3 : (Jvm.Cond.code ({ cls := "java/lang/Object", name := "<init>", desc := "()V" } : Jvm.MethodName) object_method_1_code (1 : Nat) (Option.none : Option Jvm.ClassFile.FieldType)).before args0 about1 = true := code_word (m := ⟨0, 0⟩) (meth := k0m0) (c := k0c0) (by decide +kernel) rfl rfl rfl (by decide +kernel)
set_option maxRecDepth 65536 in
theorem w_c4 : (Jvm.Cond.code ({ cls := "com/example/compact_set_filters/compactsetfilters/AbstractBloomFilter$Layout", name := "wordsFor", desc := "(J)I" } : Jvm.MethodName) prog_2_method_3_code (3 : Nat) (Option.some Jvm.ClassFile.FieldType.int)).before args0 about1 = true := code_word (m := ⟨3, 1⟩) (meth := k3m1) (c := k3c1) (by decide +kernel) rfl rfl rfl (by decide +kernel)
def codes1 : List Jvm.Cond := [Jvm.Cond.code x code maxLocals ret, Jvm.Cond.code ({ cls := "com/example/compact_set_filters/compactsetfilters/AbstractBloomFilter$Layout", name := "<init>", desc := "(Lcom/example/compact_set_filters/compactsetfilters/FilterKind;ILjava/lang/String;)V" } : Jvm.MethodName) prog_2_method_1_code (4 : Nat) (Option.none : Option Jvm.ClassFile.FieldType), Jvm.Cond.code ({ cls := "java/lang/Record", name := "<init>", desc := "()V" } : Jvm.MethodName) jdk_30_method_1_code (1 : Nat) (Option.none : Option Jvm.ClassFile.FieldType), Jvm.Cond.code ({ cls := "java/lang/Object", name := "<init>", desc := "()V" } : Jvm.MethodName) object_method_1_code (1 : Nat) (Option.none : Option Jvm.ClassFile.FieldType), Jvm.Cond.code ({ cls := "com/example/compact_set_filters/compactsetfilters/AbstractBloomFilter$Layout", name := "wordsFor", desc := "(J)I" } : Jvm.MethodName) prog_2_method_3_code (3 : Nat) (Option.some Jvm.ClassFile.FieldType.int)]
set_option maxRecDepth 65536 in
theorem codes_eq : words1.filter isCode = codes1 := rfl
theorem w_codes : ∀ c ∈ words1.filter isCode, c.before args0 about1 = true := by
  rw [codes_eq]
  intro c hc
  simp only [codes1, List.mem_cons, List.not_mem_nil, or_false] at hc
  rcases hc with rfl | rfl | rfl | rfl | rfl
  · exact w_c0
  · exact w_c1
  · exact w_c2
  · exact w_c3
  · exact w_c4
set_option maxRecDepth 65536 in
theorem w_t1 : (words1.take 24).all (fun c => isCode c || c.before args0 about1) = true := by decide +kernel
set_option maxRecDepth 65536 in
theorem w_t2 : (words1.drop 24).all (fun c => isCode c || c.before args0 about1) = true := by decide +kernel
theorem w_tables : (allAtoms (Jvm.Cond.code x code maxLocals ret :: tables_1)).before args0 about1 = true := by
  rw [allAtoms_all]
  show words1.all (fun c => c.before args0 about1) = true
  refine all_split ?_ w_codes
  rw [← List.take_append_drop 24 words1, List.all_append, w_t1, w_t2]
  rfl
set_option maxRecDepth 65536 in
theorem w_case : (Jvm.Cond.and given_1 narrow_1).before args0 about1 = true := by decide +kernel
theorem w_applies : (headSpec (Jvm.Cond.code x code maxLocals ret :: tables_1) room_1).applies x e0.platform about1 = true :=
  (Spec.applies_iff w_frames).mpr ⟨w_running, w_runnable, w_alone, w_named, w_hears, w_ripe, w_room, w_tables⟩
theorem atStart : AtStart classFile x code maxLocals ret World_1 tables_1 room_1 Calls_1 rest_1 Pre_1 launch0 p0 e0 about1 theMethod args0 below0 :=
  ⟨lists_1, trivial, launch0.admits_env _ _ _, launch0.least_env, fairChoices_fair.cas, fairChoices_fair.clock, w_frames, w_args, w_heap, w_applies, trivial, trivial, w_case⟩
end start1
theorem witness_1 : WitnessClaimed_1 := ⟨start1.p0, start1.e0, start1.about1, start1.theMethod, start1.args0, start1.below0, start1.atStart⟩
end Jvm.Pilot.@@N@@
