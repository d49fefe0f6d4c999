import JvmDerived
import JvmDerived.Pilot.@@N@@Statement
import JvmDerived.Pilot.@@N@@Code
set_option linter.unusedVariables false
set_option linter.unusedSimpArgs false
namespace Jvm.RoadKit
open Sem ClassFile Op Lib Jvm.Stand Jvm.Free Jvm.LawKit
section New
variable {p : Program} {l : Launch} {e : Env} {R : Room} {s : State} {m : MethodId} {args : Array Value} {below : List Frame} {meth : Method} {c : Code} {T : State} {locs : List Loc} {cells slots : Nat}
theorem retI (X : Stand p l e R s m args below meth c T locs cells slots) (hx : p.tables.exec = Jvm.exec) {pc : Nat} {Ls : Array Slot} {z : Int32} {rest : List Value} (hret : meth.sig.returnType = some .int) (hd : decode c.code pc = .ok (.ireturn, 1)) {fs : List Frame}
    (hl : ∀ (f : JFrame) (acts : List Action), f.method = m → f.locked = none → f.entered = [] → (doReturn e (T.setTop f) acts (some (.int z))).1 = T.setFrames fs) : Steps p.tables e below (T.setTop (mkF m pc Ls (.int z :: rest))) (T.setFrames fs) := by
  have hm' : T.vm.method? m = some meth := X.method'
  have hn : narrow .int (.int z) = .int z := rfl
  show Steps p.tables e below (T.setTop { method := m, pc := pc, locals := Ls, stack := _ :: rest, locked := none }) _
  jvm_step X.here [X.here.top, hx, hd, hm', hret, hn]
  first | (intro acts; rw [hl _ acts rfl rfl rfl]) | rw [hl _ _ rfl rfl rfl]
  exact Steps.refl _
end New
end Jvm.RoadKit
namespace Jvm.Pilot.@@N@@
open Jvm Jvm.ClassFile Sem Op Lib Jvm.Free Jvm.Stand Jvm.LawKit Jvm.RoadKit Bundle Jvm.Pilot.@@N@@.Jvm.D
theorem own_retJ {p : Program} {l : Launch} {e : Env} {R : Room} {s : State} {m : MethodId} {args : Array Value} {below : List Frame} {meth : Method} {c : Code} {T : State} {locs : List Loc} {cells slots : Nat} (X : Stand p l e R s m args below meth c T locs cells slots) (hx : p.tables.exec = Jvm.exec) {pc : Nat} {Ls : Array Slot} {z : Int64} {rest : List Value} (hret : meth.sig.returnType = some .long) (hd : decode c.code pc = .ok (.lreturn, 1)) {fs : List Frame}
    (hl : ∀ (f : JFrame) (acts : List Action), f.method = m → f.locked = none → f.entered = [] → (doReturn e (T.setTop f) acts (some (.long z))).1 = T.setFrames fs) : Steps p.tables e below (T.setTop (mkF m pc Ls (.long z :: rest))) (T.setFrames fs) := by
  have hm' : T.vm.method? m = some meth := X.method'
  have hn : narrow .long (.long z) = .long z := rfl
  show Steps p.tables e below (T.setTop { method := m, pc := pc, locals := Ls, stack := _ :: rest, locked := none }) _
  jvm_step X.here [X.here.top, hx, hd, hm', hret, hn]
  first | (intro acts; rw [hl _ acts rfl rfl rfl]) | rw [hl _ _ rfl rfl rfl]
  exact Steps.refl _
theorem own_lt {i n : Nat} (h : i < n) (hn : n ≤ 255) : Int32.ofNat i < Int32.ofNat n := by
  rw [Int32.lt_iff_toInt_lt, Int32.toInt_ofNat_of_lt (by omega), Int32.toInt_ofNat_of_lt (by omega)]
  omega
theorem own_nn {n : Nat} (hn : n ≤ 255) : ¬ Int32.ofNat n < 0 := by
  rw [Int32.lt_iff_toInt_lt, Int32.toInt_ofNat_of_lt (by omega), show (0 : Int32).toInt = 0 from rfl]
  omega
theorem own_n32 {n : Nat} (hn : n ≤ 255) : (Int32.ofNat n).toNatClampNeg = n := by
  rw [Int32.toNatClampNeg, Int32.toInt_ofNat_of_lt (by omega)]; rfl
theorem own_one (i : Nat) : Int32.ofNat i + (1 : Int32) = Int32.ofNat (i + 1) := (Int32.ofNat_add i 1).symm
def own_acc (f g : Nat → Int32) : Nat → Nat → Int32 → Int32
  | 0, _, S => S
  | k + 1, i, S => own_acc f g k (i + 1) (S + f i * g i)
theorem own_five (x : Int32) : (x &&& (2147483647 : Int32)) % (5 : Int32) = 0 ∨ (x &&& (2147483647 : Int32)) % (5 : Int32) = 1 ∨ (x &&& (2147483647 : Int32)) % (5 : Int32) = 2 ∨ (x &&& (2147483647 : Int32)) % (5 : Int32) = 3 ∨ (x &&& (2147483647 : Int32)) % (5 : Int32) = 4 := by
  have h1 := (c_and x 2147483647) (by decide)
  have h2 := (c_irem (x &&& 2147483647) 5 5 (by decide)).1 h1.1
  have h3 : ∀ k : Int32, ((x &&& 2147483647) % 5).toInt = k.toInt → (x &&& 2147483647) % 5 = k := fun k h => Int32.toInt_inj.mp h
  have e0 : (0 : Int32).toInt = 0 := by decide
  have e1 : (1 : Int32).toInt = 1 := by decide
  have e2 : (2 : Int32).toInt = 2 := by decide
  have e3 : (3 : Int32).toInt = 3 := by decide
  have e4 : (4 : Int32).toInt = 4 := by decide
  have h4 : (x &&& 2147483647).toInt % 5 = 0 ∨ (x &&& 2147483647).toInt % 5 = 1 ∨ (x &&& 2147483647).toInt % 5 = 2 ∨ (x &&& 2147483647).toInt % 5 = 3 ∨ (x &&& 2147483647).toInt % 5 = 4 := by omega
  rcases h4 with h | h | h | h | h
  · exact Or.inl (h3 _ (by rw [h2, h, e0]))
  · exact Or.inr (Or.inl (h3 _ (by rw [h2, h, e1])))
  · exact Or.inr (Or.inr (Or.inl (h3 _ (by rw [h2, h, e2]))))
  · exact Or.inr (Or.inr (Or.inr (Or.inl (h3 _ (by rw [h2, h, e3])))))
  · exact Or.inr (Or.inr (Or.inr (Or.inr (h3 _ (by rw [h2, h, e4])))))
theorem d1_0 : decode prog_47_method_1_code 0 = .ok (.aload_n 0, 1) := by decide +kernel
theorem d1_1 : decode prog_47_method_1_code 1 = .ok (.invokespecial 1, 3) := by decide +kernel
theorem d1_4 : decode prog_47_method_1_code 4 = .ok (.aload_n 0, 1) := by decide +kernel
theorem d1_5 : decode prog_47_method_1_code 5 = .ok (.aload_n 1, 1) := by decide +kernel
theorem d1_6 : decode prog_47_method_1_code 6 = .ok (.invokevirtual 7, 3) := by decide +kernel
theorem d1_9 : decode prog_47_method_1_code 9 = .ok (.checkcast 8, 3) := by decide +kernel
theorem d1_12 : decode prog_47_method_1_code 12 = .ok (.putfield 13, 3) := by decide +kernel
theorem d1_15 : decode prog_47_method_1_code 15 = .ok (.return_, 1) := by decide +kernel
theorem pn_1 : plainName "com/example/stagecraft/stagecraft/examples/GenericDotProduct" = true := by first | (simp [plainName, overriddenIn]; done) | decide +kernel
theorem ef_1 (m : MethodId) (x0 : Addr) (x1 : Addr) : entryFrame m #[(.ref x0), (.ref x1)] 2 = mkF m 0 #[.val (.ref x0), .val (.ref x1)] [] := by first | (simp [entryFrame, mkF, argsToLocals, Value.category]; done) | rfl
def Q1 (Z : State) (a1 : Addr) (a2 : Addr) (k_a2 : ClassId) (z_a2 : Int32) (vs_a2 : List Value) (u_fixed_a1 : Value) (h0 : Heap) (n0 : Nat) (v : Option Value) (h : Heap) (L : List Loc) : Prop := v = none ∧ Fr n0 L ∧ Keep h0 h [a1] ∧ Exa Z h a1 "com/example/stagecraft/stagecraft/examples/GenericDotProduct" ∧ ∃ t : Addr, Fld Z h a1 "com/example/stagecraft/stagecraft/examples/GenericDotProduct" "fixed" "[I" (.ref t) ∧ Arv Z h t k_a2 .int z_a2 vs_a2 (.int (0 : Int32))
set_option maxRecDepth 65536 in
set_option maxHeartbeats 40000000 in
theorem rm1 (l : Launch) (Z : State) (a0 : Array Value) (hw : ∀ d ∈ tables_1, d.before a0 Z = true) (ws : List Jvm.Cond) (a1 : Addr) (a2 : Addr) (k_a2 : ClassId) (z_a2 : Int32) (vs_a2 : List Value) (u_fixed_a1 : Value) (h0 : Heap) (n0 : Nat) (Z0 : n0 ≤ h0.size) (V_a2 : Arv Z h0 a2 k_a2 .int z_a2 vs_a2 (.int (0 : Int32))) (hcap6 : z_a2.toNatClampNeg ≤ 4) (E_a2 : Exa Z h0 a2 "[I") (E_a1 : Exa Z h0 a1 "com/example/stagecraft/stagecraft/examples/GenericDotProduct") (F_fixed_a1 : Fld Z h0 a1 "com/example/stagecraft/stagecraft/examples/GenericDotProduct" "fixed" "[I" u_fixed_a1) (g_a1 : n0 ≤ a1) :
    MetFree l (⟨"com/example/stagecraft/stagecraft/examples/GenericDotProduct", "<init>", "([I)V"⟩ : MethodName) (head1 (Jvm.Cond.code (⟨"com/example/stagecraft/stagecraft/examples/GenericDotProduct", "<init>", "([I)V"⟩ : MethodName) prog_47_method_1_code 2 none :: ws) ({ frames := 1, cells := 1, slots := 4, locals := 15 } : Room)) (fun a U => a = #[(.ref a1), (.ref a2)] ∧ Z.Warmed39 U.vm ∧ U.heap = h0) (fun _ _ _ _ _ => True) (fun _ U o U' => ∃ v L, o = .returned v ∧ Q1 Z a1 a2 k_a2 z_a2 vs_a2 u_fixed_a1 h0 n0 v U'.heap L ∧ FrameEnd U o U' L ({ frames := 1, cells := 1, slots := 4, locals := 15 } : Room).cells ({ frames := 1, cells := 1, slots := 4, locals := 15 } : Room).slots) := by
  refine MetFree.of_bodySF (plainFor_of_name pn_1) hisR ?_
  intro p e s m args below meth c s₁ Bd hml0 hP hK
  obtain ⟨rfl, hZ, hh⟩ := hP
  have hx := Bd.exec
  have hby := Bd.bytes
  have hml : c.maxLocals = 2 := hml0
  have hown : s.vm.findClass "com/example/stagecraft/stagecraft/examples/GenericDotProduct" = some m.cls := findClass_of_methodNamed Bd.named
  have hnm := (name_of_methodNamed Bd.named Bd.method).1
  have X0 : Stand p l e ({ frames := 1, cells := 1, slots := 4, locals := 15 } : Room) s m #[(.ref a1), (.ref a2)] below meth c s₁ [] 0 0 := Stand.of_body Bd
  have e0 : s₁.heap = h0 := by rw [← hh, Bd.state]; rfl
  have N0 := Fr.nil n0
  have pre0 : ∀ t, Steps p.tables e below (s₁.setTop (mkF m 0 #[.val (.ref a1), .val (.ref a2)] [])) t → Steps p.tables e below (s₁.setTop (entryFrame m #[(.ref a1), (.ref a2)] 2)) t := fun t k => castTop (ef_1 m a1 a2) k
  -- 3. LAWS
  obtain ⟨T3, X3, e3, st3⟩ := initO X0 hx hZ hown (hw _ (List.mem_of_getElem? (i := 8) rfl)) (hw _ (List.mem_of_getElem? (i := 9) rfl)) (hw _ (List.mem_of_getElem? (i := 10) rfl)) e0 (g := (mkF m 1 #[.val (.ref a1), .val (.ref a2)] [(.ref a1)])) rfl (by rw [hml]; rfl) rfl (hb hby d1_1) (by decide) (W := 0) (by show 2 * 0 + _ ≤ _; exact Nat.le_of_eq rfl) (by decide)
  obtain ⟨T4, h4, X4, e4, E4, V4, I4, st4⟩ := cloneH X3 hx hZ hown (hw _ (List.mem_of_getElem? (i := 11) rfl)) (hw _ (List.mem_of_getElem? (i := 12) rfl)) (hw _ (List.mem_of_getElem? (i := 16) rfl)) (hw _ (List.mem_of_getElem? (i := 14) rfl)) (hw _ (List.mem_of_getElem? (i := 15) rfl)) (hw _ (List.mem_of_getElem? (i := 17) rfl)) e3 (Arv.arh V_a2) E_a2 (g := (mkF m 6 #[.val (.ref a1), .val (.ref a2)] [(.ref a2), (.ref a1)])) rfl (by rw [hml]; rfl) rfl (hb hby d1_6) (by decide) (W := 1) (by show 2 * 0 + _ ≤ _; exact Nat.le_of_eq rfl) (by decide) (cap := 4) hcap6 (by decide) (by decide)
  obtain ⟨b4, g4⟩ : ∃ z, z = h0.size := ⟨_, rfl⟩
  have Z4 : n0 ≤ h4.size := Nat.le_trans Z0 E4.1
  rw [← g4] at V4 I4 st4
  have g_b4 : n0 ≤ b4 := Nat.le_trans Z0 (Nat.le_of_eq g4.symm)
  have K4 : Keep h0 h4 [a1] := (Keep.refl h0 [a1]).ext E4
  obtain ⟨T5, X5, e5, st5⟩ := castY X4 hx hZ hown (hw _ (List.mem_of_getElem? (i := 18) rfl)) e4 (Ins.self I4) (g := (mkF m 9 #[.val (.ref a1), .val (.ref a2)] [(.ref b4), (.ref a1)])) rfl rfl (hb hby d1_9)
  obtain ⟨T6, h6, X6, e6, W6, st6⟩ := putF X5 hx hZ hown (host := "") (Or.inl (hw _ (List.mem_of_getElem? (i := 20) rfl))) Via.refl e5 (F_fixed_a1.ext E4) (E_a1.ext E4) (Or.inr ⟨(hw _ (List.mem_of_getElem? (i := 21) rfl)), rfl, hnm⟩) (hw _ (List.mem_of_getElem? (i := 3) rfl)) (ty := (.array .int)) (by decide) rfl rfl (g := (mkF m 12 #[.val (.ref a1), .val (.ref a2)] [(.ref b4), (.ref a1)])) rfl rfl (hb hby d1_12)
  have Z6 : n0 ≤ h6.size := Nat.le_trans Z4 (Keep.of_wr W6).1
  have Fw6 := (F_fixed_a1.ext E4).same W6      -- the field now holds (.ref b4)
  have K6 : Keep h0 h6 [a1] := K4.wr W6 (Or.inl (List.mem_of_getElem? (i := 0) rfl))
  have N6 := Fr.snoc X6 N0 g_a1
  obtain ⟨fs, hr, hrun, hended, hW, hsame⟩ := X6.leave (v := none) (fun _ => rfl)
  refine ⟨_, _, pre0 _ ?_, hrun, hended, _, _, rfl, ?_, ⟨_, rfl⟩, hW, hsame.mono (by decide) (by decide)⟩
  -- 4. STEPS
  · show Steps p.tables e below (s₁.setTop (mkF m 0 #[.val (.ref a1), .val (.ref a2)] [])) _
    refine XS.aloadN X0.here hx rfl (hb hby d1_0) rfl rfl ?_
    show Steps p.tables e below (s₁.setTop (mkF m 1 #[.val (.ref a1), .val (.ref a2)] [(.ref a1)])) _
    refine st3 _ ?_
    show Steps p.tables e below (T3.setTop (mkF m 4 #[.val (.ref a1), .val (.ref a2)] [])) _
    refine XS.aloadN X3.here hx rfl (hb hby d1_4) rfl rfl ?_
    show Steps p.tables e below (T3.setTop (mkF m 5 #[.val (.ref a1), .val (.ref a2)] [(.ref a1)])) _
    refine XS.aloadN X3.here hx rfl (hb hby d1_5) rfl rfl ?_
    show Steps p.tables e below (T3.setTop (mkF m 6 #[.val (.ref a1), .val (.ref a2)] [(.ref a2), (.ref a1)])) _
    refine st4 _ ?_
    show Steps p.tables e below (T4.setTop (mkF m 9 #[.val (.ref a1), .val (.ref a2)] [(.ref b4), (.ref a1)])) _
    refine st5 _ ?_
    show Steps p.tables e below (T5.setTop (mkF m 12 #[.val (.ref a1), .val (.ref a2)] [(.ref b4), (.ref a1)])) _
    refine st6 _ ?_
    show Steps p.tables e below (T6.setTop (mkF m 15 #[.val (.ref a1), .val (.ref a2)] [])) _
    exact X6.returnOut hx Bd.returns (hb hby d1_15) hr
  · show Q1 Z a1 a2 k_a2 z_a2 vs_a2 u_fixed_a1 h0 n0 _ T6.heap _
    rw [e6]
    exact ⟨rfl, N6, K6, ((E_a1.ext E4).wr W6), b4, Fw6, Arv.other (V4 : Arv Z h4 b4 k_a2 .int z_a2 vs_a2 (.int (0 : Int32))) W6 (Ne.symm (Nat.ne_of_lt (Nat.lt_of_lt_of_le E_a1.lt (Nat.le_of_eq g4.symm))))⟩
theorem d3_4 : decode prog_47_method_2_code 4 = .ok (.iload_n 3, 1) := by decide +kernel
theorem d3_5 : decode prog_47_method_2_code 5 = .ok (.aload_n 0, 1) := by decide +kernel
theorem d3_6 : decode prog_47_method_2_code 6 = .ok (.getfield 13, 3) := by decide +kernel
theorem d3_9 : decode prog_47_method_2_code 9 = .ok (.arraylength, 1) := by decide +kernel
theorem d3_10 : decode prog_47_method_2_code 10 = .ok (.if_icmp .ge 22, 3) := by decide +kernel
theorem d3_13 : decode prog_47_method_2_code 13 = .ok (.iload_n 2, 1) := by decide +kernel
theorem d3_14 : decode prog_47_method_2_code 14 = .ok (.aload_n 0, 1) := by decide +kernel
theorem d3_15 : decode prog_47_method_2_code 15 = .ok (.getfield 13, 3) := by decide +kernel
theorem d3_18 : decode prog_47_method_2_code 18 = .ok (.iload_n 3, 1) := by decide +kernel
theorem d3_19 : decode prog_47_method_2_code 19 = .ok (.iaload, 1) := by decide +kernel
theorem d3_20 : decode prog_47_method_2_code 20 = .ok (.aload_n 1, 1) := by decide +kernel
theorem d3_21 : decode prog_47_method_2_code 21 = .ok (.iload_n 3, 1) := by decide +kernel
theorem d3_22 : decode prog_47_method_2_code 22 = .ok (.iaload, 1) := by decide +kernel
theorem d3_23 : decode prog_47_method_2_code 23 = .ok (.imul, 1) := by decide +kernel
theorem d3_24 : decode prog_47_method_2_code 24 = .ok (.iadd, 1) := by decide +kernel
theorem d3_25 : decode prog_47_method_2_code 25 = .ok (.istore_n 2, 1) := by decide +kernel
theorem d3_26 : decode prog_47_method_2_code 26 = .ok (.iinc 3 1, 3) := by decide +kernel
theorem d3_29 : decode prog_47_method_2_code 29 = .ok (.goto (-25), 3) := by decide +kernel
set_option maxRecDepth 65536 in
set_option maxHeartbeats 40000000 in
theorem tn3_4_4 {p : Program} {l : Launch} {e : Env} {R : Room} {s : State} {m : MethodId} {args : Array Value} {below : List Frame} {meth : Method} {c : Code} {T0 : State} {locs : List Loc} {cells slots : Nat} {Z : State} {a0 : Array Value} {h0 : Heap} (o0 : Addr) (o1 : Addr) (i2 : Int32) (i3 : Int32) (w3 : Addr) (cl_w3 : Cell) (z_w3 : Int32) (w6 : Int32) (w7 : Int32) (cl_o1 : Cell)
    (X0 : Stand p l e R s m args below meth c T0 locs cells slots) (hx : p.tables.exec = Jvm.exec) (hZ : Z.Warmed39 s.vm) (hw : ∀ d ∈ tables_1, d.before a0 Z = true) (hby : c.code = prog_47_method_2_code) (hml : c.maxLocals = 4) (hown : s.vm.findClass "com/example/stagecraft/stagecraft/examples/GenericDotProduct" = some m.cls) (e0 : T0.heap = h0) (F_fixed_o0 : Fld Z h0 o0 "com/example/stagecraft/stagecraft/examples/GenericDotProduct" "fixed" "[I" (.ref w3)) (Ar_w3 : Arr Z h0 w3 cl_w3 .int) (S_w3 : cl_w3.slots.size = z_w3.toNatClampNeg) (N_w3 : ¬ z_w3 < 0) (hin19 : ¬ (i3 < 0 ∨ cl_w3.slots.size ≤ (i3).toNatClampNeg)) (hat19 : cl_w3.slots[(i3).toNatClampNeg]? = some (.int w6)) (Ar_o1 : Arr Z h0 o1 cl_o1 .int) (hin22 : ¬ (i3 < 0 ∨ cl_o1.slots.size ≤ (i3).toNatClampNeg)) (hat22 : cl_o1.slots[(i3).toNatClampNeg]? = some (.int w7)) (hc10 : i3 < z_w3) :
    ∃ (T' : State), Stand p l e R s m args below meth c T' locs cells slots ∧ T'.heap = h0 ∧
      ∀ target, Steps p.tables e below (T'.setTop (mkF m 4 #[.val (.ref o0), .val (.ref o1), .val (.int (i2 + (w6 * w7))), .val (.int (i3 + (1 : Int32)))] [])) target → Steps p.tables e below (T0.setTop (mkF m 4 #[.val (.ref o0), .val (.ref o1), .val (.int i2), .val (.int i3)] [])) target := by
  -- 3. LAWS
  obtain ⟨T4, X4, e4, st4⟩ := getF X0 hx hZ hown (host := "") (Or.inl (hw _ (List.mem_of_getElem? (i := 20) rfl))) Via.refl e0 F_fixed_o0 (g := (mkF m 6 #[.val (.ref o0), .val (.ref o1), .val (.int i2), .val (.int i3)] [(.ref o0), (.int i3)])) rfl rfl (hb hby d3_6)
  obtain ⟨T5, X5, e5, st5⟩ := getF X4 hx hZ hown (host := "") (Or.inl (hw _ (List.mem_of_getElem? (i := 20) rfl))) Via.refl e4 F_fixed_o0 (g := (mkF m 15 #[.val (.ref o0), .val (.ref o1), .val (.int i2), .val (.int i3)] [(.ref o0), (.int i2)])) rfl rfl (hb hby d3_15)
  refine ⟨T5, X5, e5, fun target kt => ?_⟩
  -- 4. STEPS
  show Steps p.tables e below (T0.setTop (mkF m 4 #[.val (.ref o0), .val (.ref o1), .val (.int i2), .val (.int i3)] [])) _
  refine XS.iloadN X0.here hx rfl (hb hby d3_4) rfl ?_
  show Steps p.tables e below (T0.setTop (mkF m 5 #[.val (.ref o0), .val (.ref o1), .val (.int i2), .val (.int i3)] [(.int i3)])) _
  refine XS.aloadN X0.here hx rfl (hb hby d3_5) rfl rfl ?_
  show Steps p.tables e below (T0.setTop (mkF m 6 #[.val (.ref o0), .val (.ref o1), .val (.int i2), .val (.int i3)] [(.ref o0), (.int i3)])) _
  refine st4 _ ?_
  show Steps p.tables e below (T4.setTop (mkF m 9 #[.val (.ref o0), .val (.ref o1), .val (.int i2), .val (.int i3)] [(.ref w3), (.int i3)])) _
  refine X4.arraylength hx (by rw [e4]; exact Ar_w3.1) (State.isArrayOf_alike hZ.alike Ar_w3.2.1) (g := (mkF m 9 #[.val (.ref o0), .val (.ref o1), .val (.int i2), .val (.int i3)] [(.ref w3), (.int i3)])) rfl rfl (hb hby d3_9) _ ?_
  rw [len_of S_w3 N_w3]
  show Steps p.tables e below (T4.setTop (mkF m 10 #[.val (.ref o0), .val (.ref o1), .val (.int i2), .val (.int i3)] [(.int z_w3), (.int i3)])) _
  refine XS.icmpNo X4.here hx rfl (hb hby d3_10) rfl (tlt hc10).2.1 ?_
  show Steps p.tables e below (T4.setTop (mkF m 13 #[.val (.ref o0), .val (.ref o1), .val (.int i2), .val (.int i3)] [])) _
  refine XS.iloadN X4.here hx rfl (hb hby d3_13) rfl ?_
  show Steps p.tables e below (T4.setTop (mkF m 14 #[.val (.ref o0), .val (.ref o1), .val (.int i2), .val (.int i3)] [(.int i2)])) _
  refine XS.aloadN X4.here hx rfl (hb hby d3_14) rfl rfl ?_
  show Steps p.tables e below (T4.setTop (mkF m 15 #[.val (.ref o0), .val (.ref o1), .val (.int i2), .val (.int i3)] [(.ref o0), (.int i2)])) _
  refine st5 _ ?_
  show Steps p.tables e below (T5.setTop (mkF m 18 #[.val (.ref o0), .val (.ref o1), .val (.int i2), .val (.int i3)] [(.ref w3), (.int i2)])) _
  refine XS.iloadN X5.here hx rfl (hb hby d3_18) rfl ?_
  show Steps p.tables e below (T5.setTop (mkF m 19 #[.val (.ref o0), .val (.ref o1), .val (.int i2), .val (.int i3)] [(.int i3), (.ref w3), (.int i2)])) _
  refine X5.iaload hx (j := i3) (v := (.int w6)) (by rw [e5]; exact Ar_w3.1) (State.isArrayOf_alike hZ.alike Ar_w3.2.1) Ar_w3.2.2 hin19 hat19 (g := (mkF m 19 #[.val (.ref o0), .val (.ref o1), .val (.int i2), .val (.int i3)] [(.int i3), (.ref w3), (.int i2)])) rfl rfl (hb hby d3_19) _ ?_
  show Steps p.tables e below (T5.setTop (mkF m 20 #[.val (.ref o0), .val (.ref o1), .val (.int i2), .val (.int i3)] [(.int w6), (.int i2)])) _
  refine XS.aloadN X5.here hx rfl (hb hby d3_20) rfl rfl ?_
  show Steps p.tables e below (T5.setTop (mkF m 21 #[.val (.ref o0), .val (.ref o1), .val (.int i2), .val (.int i3)] [(.ref o1), (.int w6), (.int i2)])) _
  refine XS.iloadN X5.here hx rfl (hb hby d3_21) rfl ?_
  show Steps p.tables e below (T5.setTop (mkF m 22 #[.val (.ref o0), .val (.ref o1), .val (.int i2), .val (.int i3)] [(.int i3), (.ref o1), (.int w6), (.int i2)])) _
  refine X5.iaload hx (j := i3) (v := (.int w7)) (by rw [e5]; exact Ar_o1.1) (State.isArrayOf_alike hZ.alike Ar_o1.2.1) Ar_o1.2.2 hin22 hat22 (g := (mkF m 22 #[.val (.ref o0), .val (.ref o1), .val (.int i2), .val (.int i3)] [(.int i3), (.ref o1), (.int w6), (.int i2)])) rfl rfl (hb hby d3_22) _ ?_
  show Steps p.tables e below (T5.setTop (mkF m 23 #[.val (.ref o0), .val (.ref o1), .val (.int i2), .val (.int i3)] [(.int w7), (.int w6), (.int i2)])) _
  refine XS.imul X5.here hx rfl (hb hby d3_23) rfl ?_
  show Steps p.tables e below (T5.setTop (mkF m 24 #[.val (.ref o0), .val (.ref o1), .val (.int i2), .val (.int i3)] [(.int (w6 * w7)), (.int i2)])) _
  refine XS.iadd X5.here hx rfl (hb hby d3_24) rfl ?_
  show Steps p.tables e below (T5.setTop (mkF m 25 #[.val (.ref o0), .val (.ref o1), .val (.int i2), .val (.int i3)] [(.int (i2 + (w6 * w7)))])) _
  refine XS.istoreN X5.here hx rfl (hb hby d3_25) rfl (l' := #[.val (.ref o0), .val (.ref o1), .val (.int (i2 + (w6 * w7))), .val (.int i3)]) rfl ?_
  show Steps p.tables e below (T5.setTop (mkF m 26 #[.val (.ref o0), .val (.ref o1), .val (.int (i2 + (w6 * w7))), .val (.int i3)] [])) _
  refine XS.iinc X5.here hx rfl (hb hby d3_26) rfl (l' := #[.val (.ref o0), .val (.ref o1), .val (.int (i2 + (w6 * w7))), .val (.int (i3 + (1 : Int32)))]) rfl ?_
  show Steps p.tables e below (T5.setTop (mkF m 29 #[.val (.ref o0), .val (.ref o1), .val (.int (i2 + (w6 * w7))), .val (.int (i3 + (1 : Int32)))] [])) _
  refine XS.goto X5.here hx rfl (pc0 := 29) (pc' := 4) rfl (hb hby d3_29) (by decide) (by decide) ?_
  exact kt
set_option maxRecDepth 65536 in
set_option maxHeartbeats 40000000 in
theorem tn3_4_32 {p : Program} {l : Launch} {e : Env} {R : Room} {s : State} {m : MethodId} {args : Array Value} {below : List Frame} {meth : Method} {c : Code} {T0 : State} {locs : List Loc} {cells slots : Nat} {Z : State} {a0 : Array Value} {h0 : Heap} (o0 : Addr) (s1 : Slot) (s2 : Slot) (i3 : Int32) (w3 : Addr) (cl_w3 : Cell) (z_w3 : Int32)
    (X0 : Stand p l e R s m args below meth c T0 locs cells slots) (hx : p.tables.exec = Jvm.exec) (hZ : Z.Warmed39 s.vm) (hw : ∀ d ∈ tables_1, d.before a0 Z = true) (hby : c.code = prog_47_method_2_code) (hml : c.maxLocals = 4) (hown : s.vm.findClass "com/example/stagecraft/stagecraft/examples/GenericDotProduct" = some m.cls) (e0 : T0.heap = h0) (F_fixed_o0 : Fld Z h0 o0 "com/example/stagecraft/stagecraft/examples/GenericDotProduct" "fixed" "[I" (.ref w3)) (Ar_w3 : Arr Z h0 w3 cl_w3 .int) (S_w3 : cl_w3.slots.size = z_w3.toNatClampNeg) (N_w3 : ¬ z_w3 < 0) (hc10 : ¬ (i3 < z_w3)) :
    ∃ (T' : State), Stand p l e R s m args below meth c T' locs cells slots ∧ T'.heap = h0 ∧
      ∀ target, Steps p.tables e below (T'.setTop (mkF m 32 #[.val (.ref o0), s1, s2, .val (.int i3)] [])) target → Steps p.tables e below (T0.setTop (mkF m 4 #[.val (.ref o0), s1, s2, .val (.int i3)] [])) target := by
  -- 3. LAWS
  obtain ⟨T4, X4, e4, st4⟩ := getF X0 hx hZ hown (host := "") (Or.inl (hw _ (List.mem_of_getElem? (i := 20) rfl))) Via.refl e0 F_fixed_o0 (g := (mkF m 6 #[.val (.ref o0), s1, s2, .val (.int i3)] [(.ref o0), (.int i3)])) rfl rfl (hb hby d3_6)
  refine ⟨T4, X4, e4, fun target kt => ?_⟩
  -- 4. STEPS
  show Steps p.tables e below (T0.setTop (mkF m 4 #[.val (.ref o0), s1, s2, .val (.int i3)] [])) _
  refine XS.iloadN X0.here hx rfl (hb hby d3_4) rfl ?_
  show Steps p.tables e below (T0.setTop (mkF m 5 #[.val (.ref o0), s1, s2, .val (.int i3)] [(.int i3)])) _
  refine XS.aloadN X0.here hx rfl (hb hby d3_5) rfl rfl ?_
  show Steps p.tables e below (T0.setTop (mkF m 6 #[.val (.ref o0), s1, s2, .val (.int i3)] [(.ref o0), (.int i3)])) _
  refine st4 _ ?_
  show Steps p.tables e below (T4.setTop (mkF m 9 #[.val (.ref o0), s1, s2, .val (.int i3)] [(.ref w3), (.int i3)])) _
  refine X4.arraylength hx (by rw [e4]; exact Ar_w3.1) (State.isArrayOf_alike hZ.alike Ar_w3.2.1) (g := (mkF m 9 #[.val (.ref o0), s1, s2, .val (.int i3)] [(.ref w3), (.int i3)])) rfl rfl (hb hby d3_9) _ ?_
  rw [len_of S_w3 N_w3]
  show Steps p.tables e below (T4.setTop (mkF m 10 #[.val (.ref o0), s1, s2, .val (.int i3)] [(.int z_w3), (.int i3)])) _
  refine XS.icmpYes X4.here hx rfl (pc0 := 10) (pc' := 32) rfl (hb hby d3_10) rfl (flt hc10).2.1 (by decide) (by decide) ?_
  exact kt
theorem loop3 {p : Program} {l : Launch} {e : Env} {R : Room} {s : State} {m : MethodId} {args : Array Value} {below : List Frame} {meth : Method} {c : Code} {locs : List Loc} {cells slots : Nat} {Z : State} {a0 : Array Value} {h0 : Heap} (o0 o1 w3 : Addr) (f g : Nat → Int32) (n : Nat) (hn : n ≤ 4) (z2 : Int32) (hx : p.tables.exec = Jvm.exec) (hZ : Z.Warmed39 s.vm) (hw : ∀ d ∈ tables_1, d.before a0 Z = true) (hby : c.code = prog_47_method_2_code) (hml : c.maxLocals = 4) (hown : s.vm.findClass "com/example/stagecraft/stagecraft/examples/GenericDotProduct" = some m.cls) (F : Fld Z h0 o0 "com/example/stagecraft/stagecraft/examples/GenericDotProduct" "fixed" "[I" (.ref w3)) (cl1 cl2 : Cell) (A1 : Arr Z h0 w3 cl1 .int) (S1 : cl1.slots.size = (Int32.ofNat n).toNatClampNeg) (A2 : Arr Z h0 o1 cl2 .int) (S2 : n ≤ cl2.slots.size) (hf : ∀ j, j < n → cl1.slots[j]? = some (.int (f j))) (hg : ∀ j, j < n → cl2.slots[j]? = some (.int (g j))) :
    ∀ (k i : Nat) (S : Int32) (T0 : State), i + k = n → Stand p l e R s m args below meth c T0 locs cells slots → T0.heap = h0 →
      ∃ (T' : State), Stand p l e R s m args below meth c T' locs cells slots ∧ T'.heap = h0 ∧
        ∀ target, Steps p.tables e below (T'.setTop (mkF m 32 #[.val (.ref o0), .val (.ref o1), .val (.int (own_acc f g k i S)), .val (.int (Int32.ofNat n))] [])) target → Steps p.tables e below (T0.setTop (mkF m 4 #[.val (.ref o0), .val (.ref o1), .val (.int S), .val (.int (Int32.ofNat i))] [])) target := by
  intro k
  induction k with
  | zero =>
    intro i S T0 hi X0 e0
    have hi' : i = n := by omega
    subst hi'
    exact tn3_4_32 o0 (.val (.ref o1)) (.val (.int S)) (Int32.ofNat i) w3 cl1 (Int32.ofNat i) X0 hx hZ hw hby hml hown e0 F A1 S1 (own_nn (by omega)) Int32.lt_irrefl
  | succ k ih =>
    intro i S T0 hi X0 e0
    have q1 : (Int32.ofNat i).toNatClampNeg = i := own_n32 (by omega)
    have q2 : (Int32.ofNat n).toNatClampNeg = n := own_n32 (by omega)
    obtain ⟨T1, X1, e1, st1⟩ := tn3_4_4 o0 o1 S (Int32.ofNat i) w3 cl1 (Int32.ofNat n) (f i) (g i) cl2 X0 hx hZ hw hby hml hown e0 F A1 S1 (own_nn (by omega)) (by rw [S1, q1, q2]; exact fun q => q.elim (own_nn (by omega)) (fun q => by omega)) (by rw [q1]; exact hf i (by omega)) A2 (by rw [q1]; exact fun q => q.elim (own_nn (by omega)) (fun q => by omega)) (by rw [q1]; exact hg i (by omega)) (own_lt (by omega) (by omega))
    obtain ⟨T', X', e', st⟩ := ih (i + 1) (S + f i * g i) T1 (by omega) X1 e1
    refine ⟨T', X', e', fun target h => st1 target ?_⟩
    rw [own_one]
    exact st target h
theorem d3_0 : decode prog_47_method_2_code 0 = .ok (.iconst 0, 1) := by decide +kernel
theorem d3_1 : decode prog_47_method_2_code 1 = .ok (.istore_n 2, 1) := by decide +kernel
theorem d3_2 : decode prog_47_method_2_code 2 = .ok (.iconst 0, 1) := by decide +kernel
theorem d3_3 : decode prog_47_method_2_code 3 = .ok (.istore_n 3, 1) := by decide +kernel
theorem d3_32 : decode prog_47_method_2_code 32 = .ok (.iload_n 2, 1) := by decide +kernel
theorem d3_33 : decode prog_47_method_2_code 33 = .ok (.ireturn, 1) := by decide +kernel
theorem pn_3 : plainName "com/example/stagecraft/stagecraft/examples/GenericDotProduct" = true := by first | (simp [plainName, overriddenIn]; done) | decide +kernel
theorem ef_3 (m : MethodId) (x0 : Addr) (x1 : Addr) : entryFrame m #[(.ref x0), (.ref x1)] 4 = mkF m 0 #[.val (.ref x0), .val (.ref x1), .unset, .unset] [] := by first | (simp [entryFrame, mkF, argsToLocals, Value.category]; done) | rfl

def Q3 (Z : State) (f g : Nat → Int32) (n : Nat) (h0 : Heap) (n0 : Nat) (v : Option Value) (h : Heap) (L : List Loc) : Prop := v = some (.int (own_acc f g n 0 0)) ∧ Fr n0 L ∧ h = h0
set_option maxRecDepth 65536 in
set_option maxHeartbeats 40000000 in
theorem rm3 (l : Launch) (Z : State) (a0 : Array Value) (hw : ∀ d ∈ tables_1, d.before a0 Z = true) (ws : List Jvm.Cond) (a1 a2 : Addr) (w3 : Addr) (k1 k2 : ClassId) (z1 z2 : Int32) (vs1 vs2 : List Value) (f g : Nat → Int32) (n : Nat) (h0 : Heap) (n0 : Nat) (Z0 : n0 ≤ h0.size) (hn : n ≤ 4) (hz1 : z1 = Int32.ofNat n) (hz2 : n ≤ z2.toNatClampNeg) (F : Fld Z h0 a1 "com/example/stagecraft/stagecraft/examples/GenericDotProduct" "fixed" "[I" (.ref w3)) (V1 : Arv Z h0 w3 k1 .int z1 vs1 (.int (0 : Int32))) (V2 : Arv Z h0 a2 k2 .int z2 vs2 (.int (0 : Int32))) (hf : ∀ j, j < n → vs1.getD j (.int (0 : Int32)) = .int (f j)) (hg : ∀ j, j < n → vs2.getD j (.int (0 : Int32)) = .int (g j)) :
    MetFree l (⟨"com/example/stagecraft/stagecraft/examples/GenericDotProduct", "apply", "([I)I"⟩ : MethodName) (head1 (Jvm.Cond.code (⟨"com/example/stagecraft/stagecraft/examples/GenericDotProduct", "apply", "([I)I"⟩ : MethodName) prog_47_method_2_code 4 (some .int) :: ws) ({ frames := 0, cells := 0, slots := 0, locals := 0 } : Room)) (fun a U => a = #[(.ref a1), (.ref a2)] ∧ Z.Warmed39 U.vm ∧ U.heap = h0) (fun _ _ _ _ _ => True) (fun _ U o U' => ∃ v L, o = .returned v ∧ Q3 Z f g n h0 n0 v U'.heap L ∧ FrameEnd U o U' L ({ frames := 0, cells := 0, slots := 0, locals := 0 } : Room).cells ({ frames := 0, cells := 0, slots := 0, locals := 0 } : Room).slots) := by
  refine MetFree.of_bodySF (plainFor_of_name pn_3) hisR ?_
  intro p e s m args below meth c s₁ Bd hml0 hP hK
  obtain ⟨rfl, hZ, hh⟩ := hP
  have hx := Bd.exec
  have hby := Bd.bytes
  have hml : c.maxLocals = 4 := hml0
  have hown : s.vm.findClass "com/example/stagecraft/stagecraft/examples/GenericDotProduct" = some m.cls := findClass_of_methodNamed Bd.named
  have X0 : Stand p l e ({ frames := 0, cells := 0, slots := 0, locals := 0 } : Room) s m #[(.ref a1), (.ref a2)] below meth c s₁ [] 0 0 := Stand.of_body Bd
  have e0 : s₁.heap = h0 := by rw [← hh, Bd.state]; rfl
  have N0 := Fr.nil n0
  have pre0 : ∀ t, Steps p.tables e below (s₁.setTop (mkF m 0 #[.val (.ref a1), .val (.ref a2), .unset, .unset] [])) t → Steps p.tables e below (s₁.setTop (entryFrame m #[(.ref a1), (.ref a2)] 4)) t := fun t k => castTop (ef_3 m a1 a2) k
  obtain ⟨cl1, A1, -, S1, -, H1, -⟩ := V1
  obtain ⟨cl2, A2, -, S2, -, H2, -⟩ := V2
  subst hz1
  have q1 : (Int32.ofNat n).toNatClampNeg = n := own_n32 (by omega)
  obtain ⟨T1, X1, e1, st1⟩ := loop3 a1 a2 w3 f g n hn z2 hx hZ hw hby hml hown F cl1 cl2 A1 S1 A2 (by rw [S2]; exact hz2) (fun j hj => by rw [H1 j (by rw [S1, q1]; exact hj), hf j hj]) (fun j hj => by rw [H2 j (by rw [S2]; omega), hg j hj]) n 0 0 s₁ (by omega) X0 e0
  obtain ⟨fs, hr, hrun, hended, hW, hsame⟩ := X1.leave (v := some (.int (own_acc f g n 0 0))) (fun h => by rw [Bd.returns] at h; cases h)
  refine ⟨_, _, pre0 _ ?_, hrun, hended, _, _, rfl, ?_, ⟨_, rfl⟩, hW, hsame.mono (by decide) (by decide)⟩
  · show Steps p.tables e below (s₁.setTop (mkF m 0 #[.val (.ref a1), .val (.ref a2), .unset, .unset] [])) _
    refine XS.iconst X0.here hx rfl (hb hby d3_0) ?_
    show Steps p.tables e below (s₁.setTop (mkF m 1 #[.val (.ref a1), .val (.ref a2), .unset, .unset] [(.int (0 : Int32))])) _
    refine XS.istoreN X0.here hx rfl (hb hby d3_1) rfl (l' := #[.val (.ref a1), .val (.ref a2), .val (.int (0 : Int32)), .unset]) rfl ?_
    show Steps p.tables e below (s₁.setTop (mkF m 2 #[.val (.ref a1), .val (.ref a2), .val (.int (0 : Int32)), .unset] [])) _
    refine XS.iconst X0.here hx rfl (hb hby d3_2) ?_
    show Steps p.tables e below (s₁.setTop (mkF m 3 #[.val (.ref a1), .val (.ref a2), .val (.int (0 : Int32)), .unset] [(.int (0 : Int32))])) _
    refine XS.istoreN X0.here hx rfl (hb hby d3_3) rfl (l' := #[.val (.ref a1), .val (.ref a2), .val (.int (0 : Int32)), .val (.int (0 : Int32))]) rfl ?_
    show Steps p.tables e below (s₁.setTop (mkF m 4 #[.val (.ref a1), .val (.ref a2), .val (.int (0 : Int32)), .val (.int (0 : Int32))] [])) _
    refine st1 _ ?_
    show Steps p.tables e below (T1.setTop (mkF m 32 #[.val (.ref a1), .val (.ref a2), .val (.int (own_acc f g n 0 0)), .val (.int (Int32.ofNat n))] [])) _
    refine XS.iloadN X1.here hx rfl (hb hby d3_32) rfl ?_
    show Steps p.tables e below (T1.setTop (mkF m 33 #[.val (.ref a1), .val (.ref a2), .val (.int (own_acc f g n 0 0)), .val (.int (Int32.ofNat n))] [(.int (own_acc f g n 0 0))])) _
    exact retI X1 hx Bd.returns (hb hby d3_33) hr
  · show Q3 Z f g n h0 n0 _ T1.heap _
    rw [e1]
    exact ⟨rfl, N0, rfl⟩
abbrev own_L (p1 : Int32) (q2 q3 q4 q5 : Int64) (p6 k ex v0 v1 v2 v3 w0 w1 w2 w3 : Int32) (r : List Slot) : Array Slot := ⟨.val (.int p1) :: .val (.long q2) :: .second :: .val (.long q3) :: .second :: .val (.long q4) :: .second :: .val (.long q5) :: .second :: .val (.int p6) :: .val (.int k) :: .val (.int ex) :: .val (.int v0) :: .val (.int v1) :: .val (.int v2) :: .val (.int v3) :: .val (.int w0) :: .val (.int w1) :: .val (.int w2) :: .val (.int w3) :: .val (.int p6) :: r⟩
set_option maxRecDepth 65536 in
set_option maxHeartbeats 40000000 in
theorem own_j0 {p : Program} {l : Launch} {e : Env} {R : Room} {s : State} {m : MethodId} {args : Array Value} {below : List Frame} {meth : Method} {c : Code} {s₁ : State} {locs : List Loc} {cells slots : Nat} {Z : State} {a0 : Array Value} (p1 : Int32) (q2 q3 q4 q5 : Int64) (p6 : Int32) (X0 : Stand p l e R s m args below meth c s₁ locs cells slots) (hx : p.tables.exec = Jvm.exec) (hZ : Z.Warmed39 s.vm) (hw : ∀ d ∈ tables_1, d.before a0 Z = true) (hby : c.code = code) (hown : s.vm.findClass "com/example/stagecraft/stagecraft/examples/GenericDotProductApplyPinLaw" = some m.cls) (hc9 : ¬ (p1 < (0 : Int32))) :
    ∀ target, Steps p.tables e below (s₁.setTop (mkF m 71 #[.val (.int p1), .val (.long q2), .second, .val (.long q3), .second, .val (.long q4), .second, .val (.long q5), .second, .val (.int p6), .val (.int ((p1 &&& (2147483647 : Int32)) % (5 : Int32))), .val (.int (0 : Int32)), .val (.int (q2.toInt32)), .val (.int (((q2.toUInt64 >>> ((32 : Int32) &&& 0x3f).toInt64.toUInt64).toInt64).toInt32)), .val (.int (q3.toInt32)), .val (.int (((q3.toUInt64 >>> ((32 : Int32) &&& 0x3f).toInt64.toUInt64).toInt64).toInt32)), .val (.int (q4.toInt32)), .val (.int (((q4.toUInt64 >>> ((32 : Int32) &&& 0x3f).toInt64.toUInt64).toInt64).toInt32)), .val (.int (q5.toInt32)), .val (.int (((q5.toUInt64 >>> ((32 : Int32) &&& 0x3f).toInt64.toUInt64).toInt64).toInt32)), .val (.int p6), .unset, .unset, .unset, .unset, .unset, .unset] [])) target → Steps p.tables e below (s₁.setTop (mkF m 0 #[.val (.int p1), .val (.long q2), .second, .val (.long q3), .second, .val (.long q4), .second, .val (.long q5), .second, .val (.int p6), .unset, .unset, .unset, .unset, .unset, .unset, .unset, .unset, .unset, .unset, .unset, .unset, .unset, .unset, .unset, .unset, .unset] [])) target := by
  intro target kt
  show Steps p.tables e below (s₁.setTop (mkF m 0 #[.val (.int p1), .val (.long q2), .second, .val (.long q3), .second, .val (.long q4), .second, .val (.long q5), .second, .val (.int p6), .unset, .unset, .unset, .unset, .unset, .unset, .unset, .unset, .unset, .unset, .unset, .unset, .unset, .unset, .unset, .unset, .unset] [])) _
  refine XS.iloadN X0.here hx rfl (hb hby at_0) rfl ?_
  show Steps p.tables e below (s₁.setTop (mkF m 1 #[.val (.int p1), .val (.long q2), .second, .val (.long q3), .second, .val (.long q4), .second, .val (.long q5), .second, .val (.int p6), .unset, .unset, .unset, .unset, .unset, .unset, .unset, .unset, .unset, .unset, .unset, .unset, .unset, .unset, .unset, .unset, .unset] [(.int p1)])) _
  refine X0.ldcInt hx hown (mvT hZ (hw _ (List.mem_of_getElem? (i := 0) rfl))) (g := (mkF m 1 #[.val (.int p1), .val (.long q2), .second, .val (.long q3), .second, .val (.long q4), .second, .val (.long q5), .second, .val (.int p6), .unset, .unset, .unset, .unset, .unset, .unset, .unset, .unset, .unset, .unset, .unset, .unset, .unset, .unset, .unset, .unset, .unset] [(.int p1)])) rfl (hb hby at_1) _ ?_
  show Steps p.tables e below (s₁.setTop (mkF m 3 #[.val (.int p1), .val (.long q2), .second, .val (.long q3), .second, .val (.long q4), .second, .val (.long q5), .second, .val (.int p6), .unset, .unset, .unset, .unset, .unset, .unset, .unset, .unset, .unset, .unset, .unset, .unset, .unset, .unset, .unset, .unset, .unset] [(.int (2147483647 : Int32)), (.int p1)])) _
  refine XS.iand X0.here hx rfl (hb hby at_3) rfl ?_
  show Steps p.tables e below (s₁.setTop (mkF m 4 #[.val (.int p1), .val (.long q2), .second, .val (.long q3), .second, .val (.long q4), .second, .val (.long q5), .second, .val (.int p6), .unset, .unset, .unset, .unset, .unset, .unset, .unset, .unset, .unset, .unset, .unset, .unset, .unset, .unset, .unset, .unset, .unset] [(.int (p1 &&& (2147483647 : Int32)))])) _
  refine XS.iconst X0.here hx rfl (hb hby at_4) ?_
  show Steps p.tables e below (s₁.setTop (mkF m 5 #[.val (.int p1), .val (.long q2), .second, .val (.long q3), .second, .val (.long q4), .second, .val (.long q5), .second, .val (.int p6), .unset, .unset, .unset, .unset, .unset, .unset, .unset, .unset, .unset, .unset, .unset, .unset, .unset, .unset, .unset, .unset, .unset] [(.int (5 : Int32)), (.int (p1 &&& (2147483647 : Int32)))])) _
  refine iremM X0 hx rfl (hb hby at_5) rfl (by decide) ?_
  show Steps p.tables e below (s₁.setTop (mkF m 6 #[.val (.int p1), .val (.long q2), .second, .val (.long q3), .second, .val (.long q4), .second, .val (.long q5), .second, .val (.int p6), .unset, .unset, .unset, .unset, .unset, .unset, .unset, .unset, .unset, .unset, .unset, .unset, .unset, .unset, .unset, .unset, .unset] [(.int ((p1 &&& (2147483647 : Int32)) % (5 : Int32)))])) _
  refine XS.istore X0.here hx rfl (hb hby at_6) rfl (l' := #[.val (.int p1), .val (.long q2), .second, .val (.long q3), .second, .val (.long q4), .second, .val (.long q5), .second, .val (.int p6), .val (.int ((p1 &&& (2147483647 : Int32)) % (5 : Int32))), .unset, .unset, .unset, .unset, .unset, .unset, .unset, .unset, .unset, .unset, .unset, .unset, .unset, .unset, .unset, .unset]) rfl ?_
  show Steps p.tables e below (s₁.setTop (mkF m 8 #[.val (.int p1), .val (.long q2), .second, .val (.long q3), .second, .val (.long q4), .second, .val (.long q5), .second, .val (.int p6), .val (.int ((p1 &&& (2147483647 : Int32)) % (5 : Int32))), .unset, .unset, .unset, .unset, .unset, .unset, .unset, .unset, .unset, .unset, .unset, .unset, .unset, .unset, .unset, .unset] [])) _
  refine XS.iloadN X0.here hx rfl (hb hby at_8) rfl ?_
  show Steps p.tables e below (s₁.setTop (mkF m 9 #[.val (.int p1), .val (.long q2), .second, .val (.long q3), .second, .val (.long q4), .second, .val (.long q5), .second, .val (.int p6), .val (.int ((p1 &&& (2147483647 : Int32)) % (5 : Int32))), .unset, .unset, .unset, .unset, .unset, .unset, .unset, .unset, .unset, .unset, .unset, .unset, .unset, .unset, .unset, .unset] [(.int p1)])) _
  refine XS.ifYes X0.here hx rfl (pc0 := 9) (pc' := 16) rfl (hb hby at_9) rfl ((if0 _ _).trans (flt hc9).2.1) (by decide) (by decide) ?_
  show Steps p.tables e below (s₁.setTop (mkF m 16 #[.val (.int p1), .val (.long q2), .second, .val (.long q3), .second, .val (.long q4), .second, .val (.long q5), .second, .val (.int p6), .val (.int ((p1 &&& (2147483647 : Int32)) % (5 : Int32))), .unset, .unset, .unset, .unset, .unset, .unset, .unset, .unset, .unset, .unset, .unset, .unset, .unset, .unset, .unset, .unset] [])) _
  refine XS.iconst X0.here hx rfl (hb hby at_16) ?_
  show Steps p.tables e below (s₁.setTop (mkF m 17 #[.val (.int p1), .val (.long q2), .second, .val (.long q3), .second, .val (.long q4), .second, .val (.long q5), .second, .val (.int p6), .val (.int ((p1 &&& (2147483647 : Int32)) % (5 : Int32))), .unset, .unset, .unset, .unset, .unset, .unset, .unset, .unset, .unset, .unset, .unset, .unset, .unset, .unset, .unset, .unset] [(.int (0 : Int32))])) _
  refine XS.istore X0.here hx rfl (hb hby at_17) rfl (l' := #[.val (.int p1), .val (.long q2), .second, .val (.long q3), .second, .val (.long q4), .second, .val (.long q5), .second, .val (.int p6), .val (.int ((p1 &&& (2147483647 : Int32)) % (5 : Int32))), .val (.int (0 : Int32)), .unset, .unset, .unset, .unset, .unset, .unset, .unset, .unset, .unset, .unset, .unset, .unset, .unset, .unset, .unset]) rfl ?_
  show Steps p.tables e below (s₁.setTop (mkF m 19 #[.val (.int p1), .val (.long q2), .second, .val (.long q3), .second, .val (.long q4), .second, .val (.long q5), .second, .val (.int p6), .val (.int ((p1 &&& (2147483647 : Int32)) % (5 : Int32))), .val (.int (0 : Int32)), .unset, .unset, .unset, .unset, .unset, .unset, .unset, .unset, .unset, .unset, .unset, .unset, .unset, .unset, .unset] [])) _
  refine XS.lloadN X0.here hx rfl (hb hby at_19) rfl ?_
  show Steps p.tables e below (s₁.setTop (mkF m 20 #[.val (.int p1), .val (.long q2), .second, .val (.long q3), .second, .val (.long q4), .second, .val (.long q5), .second, .val (.int p6), .val (.int ((p1 &&& (2147483647 : Int32)) % (5 : Int32))), .val (.int (0 : Int32)), .unset, .unset, .unset, .unset, .unset, .unset, .unset, .unset, .unset, .unset, .unset, .unset, .unset, .unset, .unset] [(.long q2)])) _
  refine XS.l2i X0.here hx rfl (hb hby at_20) rfl ?_
  show Steps p.tables e below (s₁.setTop (mkF m 21 #[.val (.int p1), .val (.long q2), .second, .val (.long q3), .second, .val (.long q4), .second, .val (.long q5), .second, .val (.int p6), .val (.int ((p1 &&& (2147483647 : Int32)) % (5 : Int32))), .val (.int (0 : Int32)), .unset, .unset, .unset, .unset, .unset, .unset, .unset, .unset, .unset, .unset, .unset, .unset, .unset, .unset, .unset] [(.int (q2.toInt32))])) _
  refine XS.istore X0.here hx rfl (hb hby at_21) rfl (l' := #[.val (.int p1), .val (.long q2), .second, .val (.long q3), .second, .val (.long q4), .second, .val (.long q5), .second, .val (.int p6), .val (.int ((p1 &&& (2147483647 : Int32)) % (5 : Int32))), .val (.int (0 : Int32)), .val (.int (q2.toInt32)), .unset, .unset, .unset, .unset, .unset, .unset, .unset, .unset, .unset, .unset, .unset, .unset, .unset, .unset]) rfl ?_
  show Steps p.tables e below (s₁.setTop (mkF m 23 #[.val (.int p1), .val (.long q2), .second, .val (.long q3), .second, .val (.long q4), .second, .val (.long q5), .second, .val (.int p6), .val (.int ((p1 &&& (2147483647 : Int32)) % (5 : Int32))), .val (.int (0 : Int32)), .val (.int (q2.toInt32)), .unset, .unset, .unset, .unset, .unset, .unset, .unset, .unset, .unset, .unset, .unset, .unset, .unset, .unset] [])) _
  refine XS.lloadN X0.here hx rfl (hb hby at_23) rfl ?_
  show Steps p.tables e below (s₁.setTop (mkF m 24 #[.val (.int p1), .val (.long q2), .second, .val (.long q3), .second, .val (.long q4), .second, .val (.long q5), .second, .val (.int p6), .val (.int ((p1 &&& (2147483647 : Int32)) % (5 : Int32))), .val (.int (0 : Int32)), .val (.int (q2.toInt32)), .unset, .unset, .unset, .unset, .unset, .unset, .unset, .unset, .unset, .unset, .unset, .unset, .unset, .unset] [(.long q2)])) _
  refine XS.bipush X0.here hx rfl (hb hby at_24) ?_
  show Steps p.tables e below (s₁.setTop (mkF m 26 #[.val (.int p1), .val (.long q2), .second, .val (.long q3), .second, .val (.long q4), .second, .val (.long q5), .second, .val (.int p6), .val (.int ((p1 &&& (2147483647 : Int32)) % (5 : Int32))), .val (.int (0 : Int32)), .val (.int (q2.toInt32)), .unset, .unset, .unset, .unset, .unset, .unset, .unset, .unset, .unset, .unset, .unset, .unset, .unset, .unset] [(.int (32 : Int32)), (.long q2)])) _
  refine XS.lushr X0.here hx rfl (hb hby at_26) rfl ?_
  show Steps p.tables e below (s₁.setTop (mkF m 27 #[.val (.int p1), .val (.long q2), .second, .val (.long q3), .second, .val (.long q4), .second, .val (.long q5), .second, .val (.int p6), .val (.int ((p1 &&& (2147483647 : Int32)) % (5 : Int32))), .val (.int (0 : Int32)), .val (.int (q2.toInt32)), .unset, .unset, .unset, .unset, .unset, .unset, .unset, .unset, .unset, .unset, .unset, .unset, .unset, .unset] [(.long ((q2.toUInt64 >>> ((32 : Int32) &&& 0x3f).toInt64.toUInt64).toInt64))])) _
  refine XS.l2i X0.here hx rfl (hb hby at_27) rfl ?_
  show Steps p.tables e below (s₁.setTop (mkF m 28 #[.val (.int p1), .val (.long q2), .second, .val (.long q3), .second, .val (.long q4), .second, .val (.long q5), .second, .val (.int p6), .val (.int ((p1 &&& (2147483647 : Int32)) % (5 : Int32))), .val (.int (0 : Int32)), .val (.int (q2.toInt32)), .unset, .unset, .unset, .unset, .unset, .unset, .unset, .unset, .unset, .unset, .unset, .unset, .unset, .unset] [(.int (((q2.toUInt64 >>> ((32 : Int32) &&& 0x3f).toInt64.toUInt64).toInt64).toInt32))])) _
  refine XS.istore X0.here hx rfl (hb hby at_28) rfl (l' := #[.val (.int p1), .val (.long q2), .second, .val (.long q3), .second, .val (.long q4), .second, .val (.long q5), .second, .val (.int p6), .val (.int ((p1 &&& (2147483647 : Int32)) % (5 : Int32))), .val (.int (0 : Int32)), .val (.int (q2.toInt32)), .val (.int (((q2.toUInt64 >>> ((32 : Int32) &&& 0x3f).toInt64.toUInt64).toInt64).toInt32)), .unset, .unset, .unset, .unset, .unset, .unset, .unset, .unset, .unset, .unset, .unset, .unset, .unset]) rfl ?_
  show Steps p.tables e below (s₁.setTop (mkF m 30 #[.val (.int p1), .val (.long q2), .second, .val (.long q3), .second, .val (.long q4), .second, .val (.long q5), .second, .val (.int p6), .val (.int ((p1 &&& (2147483647 : Int32)) % (5 : Int32))), .val (.int (0 : Int32)), .val (.int (q2.toInt32)), .val (.int (((q2.toUInt64 >>> ((32 : Int32) &&& 0x3f).toInt64.toUInt64).toInt64).toInt32)), .unset, .unset, .unset, .unset, .unset, .unset, .unset, .unset, .unset, .unset, .unset, .unset, .unset] [])) _
  refine XS.lloadN X0.here hx rfl (hb hby at_30) rfl ?_
  show Steps p.tables e below (s₁.setTop (mkF m 31 #[.val (.int p1), .val (.long q2), .second, .val (.long q3), .second, .val (.long q4), .second, .val (.long q5), .second, .val (.int p6), .val (.int ((p1 &&& (2147483647 : Int32)) % (5 : Int32))), .val (.int (0 : Int32)), .val (.int (q2.toInt32)), .val (.int (((q2.toUInt64 >>> ((32 : Int32) &&& 0x3f).toInt64.toUInt64).toInt64).toInt32)), .unset, .unset, .unset, .unset, .unset, .unset, .unset, .unset, .unset, .unset, .unset, .unset, .unset] [(.long q3)])) _
  refine XS.l2i X0.here hx rfl (hb hby at_31) rfl ?_
  show Steps p.tables e below (s₁.setTop (mkF m 32 #[.val (.int p1), .val (.long q2), .second, .val (.long q3), .second, .val (.long q4), .second, .val (.long q5), .second, .val (.int p6), .val (.int ((p1 &&& (2147483647 : Int32)) % (5 : Int32))), .val (.int (0 : Int32)), .val (.int (q2.toInt32)), .val (.int (((q2.toUInt64 >>> ((32 : Int32) &&& 0x3f).toInt64.toUInt64).toInt64).toInt32)), .unset, .unset, .unset, .unset, .unset, .unset, .unset, .unset, .unset, .unset, .unset, .unset, .unset] [(.int (q3.toInt32))])) _
  refine XS.istore X0.here hx rfl (hb hby at_32) rfl (l' := #[.val (.int p1), .val (.long q2), .second, .val (.long q3), .second, .val (.long q4), .second, .val (.long q5), .second, .val (.int p6), .val (.int ((p1 &&& (2147483647 : Int32)) % (5 : Int32))), .val (.int (0 : Int32)), .val (.int (q2.toInt32)), .val (.int (((q2.toUInt64 >>> ((32 : Int32) &&& 0x3f).toInt64.toUInt64).toInt64).toInt32)), .val (.int (q3.toInt32)), .unset, .unset, .unset, .unset, .unset, .unset, .unset, .unset, .unset, .unset, .unset, .unset]) rfl ?_
  show Steps p.tables e below (s₁.setTop (mkF m 34 #[.val (.int p1), .val (.long q2), .second, .val (.long q3), .second, .val (.long q4), .second, .val (.long q5), .second, .val (.int p6), .val (.int ((p1 &&& (2147483647 : Int32)) % (5 : Int32))), .val (.int (0 : Int32)), .val (.int (q2.toInt32)), .val (.int (((q2.toUInt64 >>> ((32 : Int32) &&& 0x3f).toInt64.toUInt64).toInt64).toInt32)), .val (.int (q3.toInt32)), .unset, .unset, .unset, .unset, .unset, .unset, .unset, .unset, .unset, .unset, .unset, .unset] [])) _
  refine XS.lloadN X0.here hx rfl (hb hby at_34) rfl ?_
  show Steps p.tables e below (s₁.setTop (mkF m 35 #[.val (.int p1), .val (.long q2), .second, .val (.long q3), .second, .val (.long q4), .second, .val (.long q5), .second, .val (.int p6), .val (.int ((p1 &&& (2147483647 : Int32)) % (5 : Int32))), .val (.int (0 : Int32)), .val (.int (q2.toInt32)), .val (.int (((q2.toUInt64 >>> ((32 : Int32) &&& 0x3f).toInt64.toUInt64).toInt64).toInt32)), .val (.int (q3.toInt32)), .unset, .unset, .unset, .unset, .unset, .unset, .unset, .unset, .unset, .unset, .unset, .unset] [(.long q3)])) _
  refine XS.bipush X0.here hx rfl (hb hby at_35) ?_
  show Steps p.tables e below (s₁.setTop (mkF m 37 #[.val (.int p1), .val (.long q2), .second, .val (.long q3), .second, .val (.long q4), .second, .val (.long q5), .second, .val (.int p6), .val (.int ((p1 &&& (2147483647 : Int32)) % (5 : Int32))), .val (.int (0 : Int32)), .val (.int (q2.toInt32)), .val (.int (((q2.toUInt64 >>> ((32 : Int32) &&& 0x3f).toInt64.toUInt64).toInt64).toInt32)), .val (.int (q3.toInt32)), .unset, .unset, .unset, .unset, .unset, .unset, .unset, .unset, .unset, .unset, .unset, .unset] [(.int (32 : Int32)), (.long q3)])) _
  refine XS.lushr X0.here hx rfl (hb hby at_37) rfl ?_
  show Steps p.tables e below (s₁.setTop (mkF m 38 #[.val (.int p1), .val (.long q2), .second, .val (.long q3), .second, .val (.long q4), .second, .val (.long q5), .second, .val (.int p6), .val (.int ((p1 &&& (2147483647 : Int32)) % (5 : Int32))), .val (.int (0 : Int32)), .val (.int (q2.toInt32)), .val (.int (((q2.toUInt64 >>> ((32 : Int32) &&& 0x3f).toInt64.toUInt64).toInt64).toInt32)), .val (.int (q3.toInt32)), .unset, .unset, .unset, .unset, .unset, .unset, .unset, .unset, .unset, .unset, .unset, .unset] [(.long ((q3.toUInt64 >>> ((32 : Int32) &&& 0x3f).toInt64.toUInt64).toInt64))])) _
  refine XS.l2i X0.here hx rfl (hb hby at_38) rfl ?_
  show Steps p.tables e below (s₁.setTop (mkF m 39 #[.val (.int p1), .val (.long q2), .second, .val (.long q3), .second, .val (.long q4), .second, .val (.long q5), .second, .val (.int p6), .val (.int ((p1 &&& (2147483647 : Int32)) % (5 : Int32))), .val (.int (0 : Int32)), .val (.int (q2.toInt32)), .val (.int (((q2.toUInt64 >>> ((32 : Int32) &&& 0x3f).toInt64.toUInt64).toInt64).toInt32)), .val (.int (q3.toInt32)), .unset, .unset, .unset, .unset, .unset, .unset, .unset, .unset, .unset, .unset, .unset, .unset] [(.int (((q3.toUInt64 >>> ((32 : Int32) &&& 0x3f).toInt64.toUInt64).toInt64).toInt32))])) _
  refine XS.istore X0.here hx rfl (hb hby at_39) rfl (l' := #[.val (.int p1), .val (.long q2), .second, .val (.long q3), .second, .val (.long q4), .second, .val (.long q5), .second, .val (.int p6), .val (.int ((p1 &&& (2147483647 : Int32)) % (5 : Int32))), .val (.int (0 : Int32)), .val (.int (q2.toInt32)), .val (.int (((q2.toUInt64 >>> ((32 : Int32) &&& 0x3f).toInt64.toUInt64).toInt64).toInt32)), .val (.int (q3.toInt32)), .val (.int (((q3.toUInt64 >>> ((32 : Int32) &&& 0x3f).toInt64.toUInt64).toInt64).toInt32)), .unset, .unset, .unset, .unset, .unset, .unset, .unset, .unset, .unset, .unset, .unset]) rfl ?_
  show Steps p.tables e below (s₁.setTop (mkF m 41 #[.val (.int p1), .val (.long q2), .second, .val (.long q3), .second, .val (.long q4), .second, .val (.long q5), .second, .val (.int p6), .val (.int ((p1 &&& (2147483647 : Int32)) % (5 : Int32))), .val (.int (0 : Int32)), .val (.int (q2.toInt32)), .val (.int (((q2.toUInt64 >>> ((32 : Int32) &&& 0x3f).toInt64.toUInt64).toInt64).toInt32)), .val (.int (q3.toInt32)), .val (.int (((q3.toUInt64 >>> ((32 : Int32) &&& 0x3f).toInt64.toUInt64).toInt64).toInt32)), .unset, .unset, .unset, .unset, .unset, .unset, .unset, .unset, .unset, .unset, .unset] [])) _
  refine XS.lload X0.here hx rfl (hb hby at_41) rfl ?_
  show Steps p.tables e below (s₁.setTop (mkF m 43 #[.val (.int p1), .val (.long q2), .second, .val (.long q3), .second, .val (.long q4), .second, .val (.long q5), .second, .val (.int p6), .val (.int ((p1 &&& (2147483647 : Int32)) % (5 : Int32))), .val (.int (0 : Int32)), .val (.int (q2.toInt32)), .val (.int (((q2.toUInt64 >>> ((32 : Int32) &&& 0x3f).toInt64.toUInt64).toInt64).toInt32)), .val (.int (q3.toInt32)), .val (.int (((q3.toUInt64 >>> ((32 : Int32) &&& 0x3f).toInt64.toUInt64).toInt64).toInt32)), .unset, .unset, .unset, .unset, .unset, .unset, .unset, .unset, .unset, .unset, .unset] [(.long q4)])) _
  refine XS.l2i X0.here hx rfl (hb hby at_43) rfl ?_
  show Steps p.tables e below (s₁.setTop (mkF m 44 #[.val (.int p1), .val (.long q2), .second, .val (.long q3), .second, .val (.long q4), .second, .val (.long q5), .second, .val (.int p6), .val (.int ((p1 &&& (2147483647 : Int32)) % (5 : Int32))), .val (.int (0 : Int32)), .val (.int (q2.toInt32)), .val (.int (((q2.toUInt64 >>> ((32 : Int32) &&& 0x3f).toInt64.toUInt64).toInt64).toInt32)), .val (.int (q3.toInt32)), .val (.int (((q3.toUInt64 >>> ((32 : Int32) &&& 0x3f).toInt64.toUInt64).toInt64).toInt32)), .unset, .unset, .unset, .unset, .unset, .unset, .unset, .unset, .unset, .unset, .unset] [(.int (q4.toInt32))])) _
  refine XS.istore X0.here hx rfl (hb hby at_44) rfl (l' := #[.val (.int p1), .val (.long q2), .second, .val (.long q3), .second, .val (.long q4), .second, .val (.long q5), .second, .val (.int p6), .val (.int ((p1 &&& (2147483647 : Int32)) % (5 : Int32))), .val (.int (0 : Int32)), .val (.int (q2.toInt32)), .val (.int (((q2.toUInt64 >>> ((32 : Int32) &&& 0x3f).toInt64.toUInt64).toInt64).toInt32)), .val (.int (q3.toInt32)), .val (.int (((q3.toUInt64 >>> ((32 : Int32) &&& 0x3f).toInt64.toUInt64).toInt64).toInt32)), .val (.int (q4.toInt32)), .unset, .unset, .unset, .unset, .unset, .unset, .unset, .unset, .unset, .unset]) rfl ?_
  show Steps p.tables e below (s₁.setTop (mkF m 46 #[.val (.int p1), .val (.long q2), .second, .val (.long q3), .second, .val (.long q4), .second, .val (.long q5), .second, .val (.int p6), .val (.int ((p1 &&& (2147483647 : Int32)) % (5 : Int32))), .val (.int (0 : Int32)), .val (.int (q2.toInt32)), .val (.int (((q2.toUInt64 >>> ((32 : Int32) &&& 0x3f).toInt64.toUInt64).toInt64).toInt32)), .val (.int (q3.toInt32)), .val (.int (((q3.toUInt64 >>> ((32 : Int32) &&& 0x3f).toInt64.toUInt64).toInt64).toInt32)), .val (.int (q4.toInt32)), .unset, .unset, .unset, .unset, .unset, .unset, .unset, .unset, .unset, .unset] [])) _
  refine XS.lload X0.here hx rfl (hb hby at_46) rfl ?_
  show Steps p.tables e below (s₁.setTop (mkF m 48 #[.val (.int p1), .val (.long q2), .second, .val (.long q3), .second, .val (.long q4), .second, .val (.long q5), .second, .val (.int p6), .val (.int ((p1 &&& (2147483647 : Int32)) % (5 : Int32))), .val (.int (0 : Int32)), .val (.int (q2.toInt32)), .val (.int (((q2.toUInt64 >>> ((32 : Int32) &&& 0x3f).toInt64.toUInt64).toInt64).toInt32)), .val (.int (q3.toInt32)), .val (.int (((q3.toUInt64 >>> ((32 : Int32) &&& 0x3f).toInt64.toUInt64).toInt64).toInt32)), .val (.int (q4.toInt32)), .unset, .unset, .unset, .unset, .unset, .unset, .unset, .unset, .unset, .unset] [(.long q4)])) _
  refine XS.bipush X0.here hx rfl (hb hby at_48) ?_
  show Steps p.tables e below (s₁.setTop (mkF m 50 #[.val (.int p1), .val (.long q2), .second, .val (.long q3), .second, .val (.long q4), .second, .val (.long q5), .second, .val (.int p6), .val (.int ((p1 &&& (2147483647 : Int32)) % (5 : Int32))), .val (.int (0 : Int32)), .val (.int (q2.toInt32)), .val (.int (((q2.toUInt64 >>> ((32 : Int32) &&& 0x3f).toInt64.toUInt64).toInt64).toInt32)), .val (.int (q3.toInt32)), .val (.int (((q3.toUInt64 >>> ((32 : Int32) &&& 0x3f).toInt64.toUInt64).toInt64).toInt32)), .val (.int (q4.toInt32)), .unset, .unset, .unset, .unset, .unset, .unset, .unset, .unset, .unset, .unset] [(.int (32 : Int32)), (.long q4)])) _
  refine XS.lushr X0.here hx rfl (hb hby at_50) rfl ?_
  show Steps p.tables e below (s₁.setTop (mkF m 51 #[.val (.int p1), .val (.long q2), .second, .val (.long q3), .second, .val (.long q4), .second, .val (.long q5), .second, .val (.int p6), .val (.int ((p1 &&& (2147483647 : Int32)) % (5 : Int32))), .val (.int (0 : Int32)), .val (.int (q2.toInt32)), .val (.int (((q2.toUInt64 >>> ((32 : Int32) &&& 0x3f).toInt64.toUInt64).toInt64).toInt32)), .val (.int (q3.toInt32)), .val (.int (((q3.toUInt64 >>> ((32 : Int32) &&& 0x3f).toInt64.toUInt64).toInt64).toInt32)), .val (.int (q4.toInt32)), .unset, .unset, .unset, .unset, .unset, .unset, .unset, .unset, .unset, .unset] [(.long ((q4.toUInt64 >>> ((32 : Int32) &&& 0x3f).toInt64.toUInt64).toInt64))])) _
  refine XS.l2i X0.here hx rfl (hb hby at_51) rfl ?_
  show Steps p.tables e below (s₁.setTop (mkF m 52 #[.val (.int p1), .val (.long q2), .second, .val (.long q3), .second, .val (.long q4), .second, .val (.long q5), .second, .val (.int p6), .val (.int ((p1 &&& (2147483647 : Int32)) % (5 : Int32))), .val (.int (0 : Int32)), .val (.int (q2.toInt32)), .val (.int (((q2.toUInt64 >>> ((32 : Int32) &&& 0x3f).toInt64.toUInt64).toInt64).toInt32)), .val (.int (q3.toInt32)), .val (.int (((q3.toUInt64 >>> ((32 : Int32) &&& 0x3f).toInt64.toUInt64).toInt64).toInt32)), .val (.int (q4.toInt32)), .unset, .unset, .unset, .unset, .unset, .unset, .unset, .unset, .unset, .unset] [(.int (((q4.toUInt64 >>> ((32 : Int32) &&& 0x3f).toInt64.toUInt64).toInt64).toInt32))])) _
  refine XS.istore X0.here hx rfl (hb hby at_52) rfl (l' := #[.val (.int p1), .val (.long q2), .second, .val (.long q3), .second, .val (.long q4), .second, .val (.long q5), .second, .val (.int p6), .val (.int ((p1 &&& (2147483647 : Int32)) % (5 : Int32))), .val (.int (0 : Int32)), .val (.int (q2.toInt32)), .val (.int (((q2.toUInt64 >>> ((32 : Int32) &&& 0x3f).toInt64.toUInt64).toInt64).toInt32)), .val (.int (q3.toInt32)), .val (.int (((q3.toUInt64 >>> ((32 : Int32) &&& 0x3f).toInt64.toUInt64).toInt64).toInt32)), .val (.int (q4.toInt32)), .val (.int (((q4.toUInt64 >>> ((32 : Int32) &&& 0x3f).toInt64.toUInt64).toInt64).toInt32)), .unset, .unset, .unset, .unset, .unset, .unset, .unset, .unset, .unset]) rfl ?_
  show Steps p.tables e below (s₁.setTop (mkF m 54 #[.val (.int p1), .val (.long q2), .second, .val (.long q3), .second, .val (.long q4), .second, .val (.long q5), .second, .val (.int p6), .val (.int ((p1 &&& (2147483647 : Int32)) % (5 : Int32))), .val (.int (0 : Int32)), .val (.int (q2.toInt32)), .val (.int (((q2.toUInt64 >>> ((32 : Int32) &&& 0x3f).toInt64.toUInt64).toInt64).toInt32)), .val (.int (q3.toInt32)), .val (.int (((q3.toUInt64 >>> ((32 : Int32) &&& 0x3f).toInt64.toUInt64).toInt64).toInt32)), .val (.int (q4.toInt32)), .val (.int (((q4.toUInt64 >>> ((32 : Int32) &&& 0x3f).toInt64.toUInt64).toInt64).toInt32)), .unset, .unset, .unset, .unset, .unset, .unset, .unset, .unset, .unset] [])) _
  refine XS.lload X0.here hx rfl (hb hby at_54) rfl ?_
  show Steps p.tables e below (s₁.setTop (mkF m 56 #[.val (.int p1), .val (.long q2), .second, .val (.long q3), .second, .val (.long q4), .second, .val (.long q5), .second, .val (.int p6), .val (.int ((p1 &&& (2147483647 : Int32)) % (5 : Int32))), .val (.int (0 : Int32)), .val (.int (q2.toInt32)), .val (.int (((q2.toUInt64 >>> ((32 : Int32) &&& 0x3f).toInt64.toUInt64).toInt64).toInt32)), .val (.int (q3.toInt32)), .val (.int (((q3.toUInt64 >>> ((32 : Int32) &&& 0x3f).toInt64.toUInt64).toInt64).toInt32)), .val (.int (q4.toInt32)), .val (.int (((q4.toUInt64 >>> ((32 : Int32) &&& 0x3f).toInt64.toUInt64).toInt64).toInt32)), .unset, .unset, .unset, .unset, .unset, .unset, .unset, .unset, .unset] [(.long q5)])) _
  refine XS.l2i X0.here hx rfl (hb hby at_56) rfl ?_
  show Steps p.tables e below (s₁.setTop (mkF m 57 #[.val (.int p1), .val (.long q2), .second, .val (.long q3), .second, .val (.long q4), .second, .val (.long q5), .second, .val (.int p6), .val (.int ((p1 &&& (2147483647 : Int32)) % (5 : Int32))), .val (.int (0 : Int32)), .val (.int (q2.toInt32)), .val (.int (((q2.toUInt64 >>> ((32 : Int32) &&& 0x3f).toInt64.toUInt64).toInt64).toInt32)), .val (.int (q3.toInt32)), .val (.int (((q3.toUInt64 >>> ((32 : Int32) &&& 0x3f).toInt64.toUInt64).toInt64).toInt32)), .val (.int (q4.toInt32)), .val (.int (((q4.toUInt64 >>> ((32 : Int32) &&& 0x3f).toInt64.toUInt64).toInt64).toInt32)), .unset, .unset, .unset, .unset, .unset, .unset, .unset, .unset, .unset] [(.int (q5.toInt32))])) _
  refine XS.istore X0.here hx rfl (hb hby at_57) rfl (l' := #[.val (.int p1), .val (.long q2), .second, .val (.long q3), .second, .val (.long q4), .second, .val (.long q5), .second, .val (.int p6), .val (.int ((p1 &&& (2147483647 : Int32)) % (5 : Int32))), .val (.int (0 : Int32)), .val (.int (q2.toInt32)), .val (.int (((q2.toUInt64 >>> ((32 : Int32) &&& 0x3f).toInt64.toUInt64).toInt64).toInt32)), .val (.int (q3.toInt32)), .val (.int (((q3.toUInt64 >>> ((32 : Int32) &&& 0x3f).toInt64.toUInt64).toInt64).toInt32)), .val (.int (q4.toInt32)), .val (.int (((q4.toUInt64 >>> ((32 : Int32) &&& 0x3f).toInt64.toUInt64).toInt64).toInt32)), .val (.int (q5.toInt32)), .unset, .unset, .unset, .unset, .unset, .unset, .unset, .unset]) rfl ?_
  show Steps p.tables e below (s₁.setTop (mkF m 59 #[.val (.int p1), .val (.long q2), .second, .val (.long q3), .second, .val (.long q4), .second, .val (.long q5), .second, .val (.int p6), .val (.int ((p1 &&& (2147483647 : Int32)) % (5 : Int32))), .val (.int (0 : Int32)), .val (.int (q2.toInt32)), .val (.int (((q2.toUInt64 >>> ((32 : Int32) &&& 0x3f).toInt64.toUInt64).toInt64).toInt32)), .val (.int (q3.toInt32)), .val (.int (((q3.toUInt64 >>> ((32 : Int32) &&& 0x3f).toInt64.toUInt64).toInt64).toInt32)), .val (.int (q4.toInt32)), .val (.int (((q4.toUInt64 >>> ((32 : Int32) &&& 0x3f).toInt64.toUInt64).toInt64).toInt32)), .val (.int (q5.toInt32)), .unset, .unset, .unset, .unset, .unset, .unset, .unset, .unset] [])) _
  refine XS.lload X0.here hx rfl (hb hby at_59) rfl ?_
  show Steps p.tables e below (s₁.setTop (mkF m 61 #[.val (.int p1), .val (.long q2), .second, .val (.long q3), .second, .val (.long q4), .second, .val (.long q5), .second, .val (.int p6), .val (.int ((p1 &&& (2147483647 : Int32)) % (5 : Int32))), .val (.int (0 : Int32)), .val (.int (q2.toInt32)), .val (.int (((q2.toUInt64 >>> ((32 : Int32) &&& 0x3f).toInt64.toUInt64).toInt64).toInt32)), .val (.int (q3.toInt32)), .val (.int (((q3.toUInt64 >>> ((32 : Int32) &&& 0x3f).toInt64.toUInt64).toInt64).toInt32)), .val (.int (q4.toInt32)), .val (.int (((q4.toUInt64 >>> ((32 : Int32) &&& 0x3f).toInt64.toUInt64).toInt64).toInt32)), .val (.int (q5.toInt32)), .unset, .unset, .unset, .unset, .unset, .unset, .unset, .unset] [(.long q5)])) _
  refine XS.bipush X0.here hx rfl (hb hby at_61) ?_
  show Steps p.tables e below (s₁.setTop (mkF m 63 #[.val (.int p1), .val (.long q2), .second, .val (.long q3), .second, .val (.long q4), .second, .val (.long q5), .second, .val (.int p6), .val (.int ((p1 &&& (2147483647 : Int32)) % (5 : Int32))), .val (.int (0 : Int32)), .val (.int (q2.toInt32)), .val (.int (((q2.toUInt64 >>> ((32 : Int32) &&& 0x3f).toInt64.toUInt64).toInt64).toInt32)), .val (.int (q3.toInt32)), .val (.int (((q3.toUInt64 >>> ((32 : Int32) &&& 0x3f).toInt64.toUInt64).toInt64).toInt32)), .val (.int (q4.toInt32)), .val (.int (((q4.toUInt64 >>> ((32 : Int32) &&& 0x3f).toInt64.toUInt64).toInt64).toInt32)), .val (.int (q5.toInt32)), .unset, .unset, .unset, .unset, .unset, .unset, .unset, .unset] [(.int (32 : Int32)), (.long q5)])) _
  refine XS.lushr X0.here hx rfl (hb hby at_63) rfl ?_
  show Steps p.tables e below (s₁.setTop (mkF m 64 #[.val (.int p1), .val (.long q2), .second, .val (.long q3), .second, .val (.long q4), .second, .val (.long q5), .second, .val (.int p6), .val (.int ((p1 &&& (2147483647 : Int32)) % (5 : Int32))), .val (.int (0 : Int32)), .val (.int (q2.toInt32)), .val (.int (((q2.toUInt64 >>> ((32 : Int32) &&& 0x3f).toInt64.toUInt64).toInt64).toInt32)), .val (.int (q3.toInt32)), .val (.int (((q3.toUInt64 >>> ((32 : Int32) &&& 0x3f).toInt64.toUInt64).toInt64).toInt32)), .val (.int (q4.toInt32)), .val (.int (((q4.toUInt64 >>> ((32 : Int32) &&& 0x3f).toInt64.toUInt64).toInt64).toInt32)), .val (.int (q5.toInt32)), .unset, .unset, .unset, .unset, .unset, .unset, .unset, .unset] [(.long ((q5.toUInt64 >>> ((32 : Int32) &&& 0x3f).toInt64.toUInt64).toInt64))])) _
  refine XS.l2i X0.here hx rfl (hb hby at_64) rfl ?_
  show Steps p.tables e below (s₁.setTop (mkF m 65 #[.val (.int p1), .val (.long q2), .second, .val (.long q3), .second, .val (.long q4), .second, .val (.long q5), .second, .val (.int p6), .val (.int ((p1 &&& (2147483647 : Int32)) % (5 : Int32))), .val (.int (0 : Int32)), .val (.int (q2.toInt32)), .val (.int (((q2.toUInt64 >>> ((32 : Int32) &&& 0x3f).toInt64.toUInt64).toInt64).toInt32)), .val (.int (q3.toInt32)), .val (.int (((q3.toUInt64 >>> ((32 : Int32) &&& 0x3f).toInt64.toUInt64).toInt64).toInt32)), .val (.int (q4.toInt32)), .val (.int (((q4.toUInt64 >>> ((32 : Int32) &&& 0x3f).toInt64.toUInt64).toInt64).toInt32)), .val (.int (q5.toInt32)), .unset, .unset, .unset, .unset, .unset, .unset, .unset, .unset] [(.int (((q5.toUInt64 >>> ((32 : Int32) &&& 0x3f).toInt64.toUInt64).toInt64).toInt32))])) _
  refine XS.istore X0.here hx rfl (hb hby at_65) rfl (l' := #[.val (.int p1), .val (.long q2), .second, .val (.long q3), .second, .val (.long q4), .second, .val (.long q5), .second, .val (.int p6), .val (.int ((p1 &&& (2147483647 : Int32)) % (5 : Int32))), .val (.int (0 : Int32)), .val (.int (q2.toInt32)), .val (.int (((q2.toUInt64 >>> ((32 : Int32) &&& 0x3f).toInt64.toUInt64).toInt64).toInt32)), .val (.int (q3.toInt32)), .val (.int (((q3.toUInt64 >>> ((32 : Int32) &&& 0x3f).toInt64.toUInt64).toInt64).toInt32)), .val (.int (q4.toInt32)), .val (.int (((q4.toUInt64 >>> ((32 : Int32) &&& 0x3f).toInt64.toUInt64).toInt64).toInt32)), .val (.int (q5.toInt32)), .val (.int (((q5.toUInt64 >>> ((32 : Int32) &&& 0x3f).toInt64.toUInt64).toInt64).toInt32)), .unset, .unset, .unset, .unset, .unset, .unset, .unset]) rfl ?_
  show Steps p.tables e below (s₁.setTop (mkF m 67 #[.val (.int p1), .val (.long q2), .second, .val (.long q3), .second, .val (.long q4), .second, .val (.long q5), .second, .val (.int p6), .val (.int ((p1 &&& (2147483647 : Int32)) % (5 : Int32))), .val (.int (0 : Int32)), .val (.int (q2.toInt32)), .val (.int (((q2.toUInt64 >>> ((32 : Int32) &&& 0x3f).toInt64.toUInt64).toInt64).toInt32)), .val (.int (q3.toInt32)), .val (.int (((q3.toUInt64 >>> ((32 : Int32) &&& 0x3f).toInt64.toUInt64).toInt64).toInt32)), .val (.int (q4.toInt32)), .val (.int (((q4.toUInt64 >>> ((32 : Int32) &&& 0x3f).toInt64.toUInt64).toInt64).toInt32)), .val (.int (q5.toInt32)), .val (.int (((q5.toUInt64 >>> ((32 : Int32) &&& 0x3f).toInt64.toUInt64).toInt64).toInt32)), .unset, .unset, .unset, .unset, .unset, .unset, .unset] [])) _
  refine XS.iload X0.here hx rfl (hb hby at_67) rfl ?_
  show Steps p.tables e below (s₁.setTop (mkF m 69 #[.val (.int p1), .val (.long q2), .second, .val (.long q3), .second, .val (.long q4), .second, .val (.long q5), .second, .val (.int p6), .val (.int ((p1 &&& (2147483647 : Int32)) % (5 : Int32))), .val (.int (0 : Int32)), .val (.int (q2.toInt32)), .val (.int (((q2.toUInt64 >>> ((32 : Int32) &&& 0x3f).toInt64.toUInt64).toInt64).toInt32)), .val (.int (q3.toInt32)), .val (.int (((q3.toUInt64 >>> ((32 : Int32) &&& 0x3f).toInt64.toUInt64).toInt64).toInt32)), .val (.int (q4.toInt32)), .val (.int (((q4.toUInt64 >>> ((32 : Int32) &&& 0x3f).toInt64.toUInt64).toInt64).toInt32)), .val (.int (q5.toInt32)), .val (.int (((q5.toUInt64 >>> ((32 : Int32) &&& 0x3f).toInt64.toUInt64).toInt64).toInt32)), .unset, .unset, .unset, .unset, .unset, .unset, .unset] [(.int p6)])) _
  refine XS.istore X0.here hx rfl (hb hby at_69) rfl (l' := #[.val (.int p1), .val (.long q2), .second, .val (.long q3), .second, .val (.long q4), .second, .val (.long q5), .second, .val (.int p6), .val (.int ((p1 &&& (2147483647 : Int32)) % (5 : Int32))), .val (.int (0 : Int32)), .val (.int (q2.toInt32)), .val (.int (((q2.toUInt64 >>> ((32 : Int32) &&& 0x3f).toInt64.toUInt64).toInt64).toInt32)), .val (.int (q3.toInt32)), .val (.int (((q3.toUInt64 >>> ((32 : Int32) &&& 0x3f).toInt64.toUInt64).toInt64).toInt32)), .val (.int (q4.toInt32)), .val (.int (((q4.toUInt64 >>> ((32 : Int32) &&& 0x3f).toInt64.toUInt64).toInt64).toInt32)), .val (.int (q5.toInt32)), .val (.int (((q5.toUInt64 >>> ((32 : Int32) &&& 0x3f).toInt64.toUInt64).toInt64).toInt32)), .val (.int p6), .unset, .unset, .unset, .unset, .unset, .unset]) rfl ?_
  exact kt
set_option maxRecDepth 65536 in
set_option maxHeartbeats 40000000 in
theorem own_j1 {p : Program} {l : Launch} {e : Env} {R : Room} {s : State} {m : MethodId} {args : Array Value} {below : List Frame} {meth : Method} {c : Code} {s₁ : State} {locs : List Loc} {cells slots : Nat} {Z : State} {a0 : Array Value} (p1 : Int32) (q2 q3 q4 q5 : Int64) (p6 : Int32) (X0 : Stand p l e R s m args below meth c s₁ locs cells slots) (hx : p.tables.exec = Jvm.exec) (hZ : Z.Warmed39 s.vm) (hw : ∀ d ∈ tables_1, d.before a0 Z = true) (hby : c.code = code) (hown : s.vm.findClass "com/example/stagecraft/stagecraft/examples/GenericDotProductApplyPinLaw" = some m.cls) (hc9 : p1 < (0 : Int32)) :
    ∀ target, Steps p.tables e below (s₁.setTop (mkF m 71 #[.val (.int p1), .val (.long q2), .second, .val (.long q3), .second, .val (.long q4), .second, .val (.long q5), .second, .val (.int p6), .val (.int ((p1 &&& (2147483647 : Int32)) % (5 : Int32))), .val (.int (1 : Int32)), .val (.int (q2.toInt32)), .val (.int (((q2.toUInt64 >>> ((32 : Int32) &&& 0x3f).toInt64.toUInt64).toInt64).toInt32)), .val (.int (q3.toInt32)), .val (.int (((q3.toUInt64 >>> ((32 : Int32) &&& 0x3f).toInt64.toUInt64).toInt64).toInt32)), .val (.int (q4.toInt32)), .val (.int (((q4.toUInt64 >>> ((32 : Int32) &&& 0x3f).toInt64.toUInt64).toInt64).toInt32)), .val (.int (q5.toInt32)), .val (.int (((q5.toUInt64 >>> ((32 : Int32) &&& 0x3f).toInt64.toUInt64).toInt64).toInt32)), .val (.int p6), .unset, .unset, .unset, .unset, .unset, .unset] [])) target → Steps p.tables e below (s₁.setTop (mkF m 0 #[.val (.int p1), .val (.long q2), .second, .val (.long q3), .second, .val (.long q4), .second, .val (.long q5), .second, .val (.int p6), .unset, .unset, .unset, .unset, .unset, .unset, .unset, .unset, .unset, .unset, .unset, .unset, .unset, .unset, .unset, .unset, .unset] [])) target := by
  intro target kt
  show Steps p.tables e below (s₁.setTop (mkF m 0 #[.val (.int p1), .val (.long q2), .second, .val (.long q3), .second, .val (.long q4), .second, .val (.long q5), .second, .val (.int p6), .unset, .unset, .unset, .unset, .unset, .unset, .unset, .unset, .unset, .unset, .unset, .unset, .unset, .unset, .unset, .unset, .unset] [])) _
  refine XS.iloadN X0.here hx rfl (hb hby at_0) rfl ?_
  show Steps p.tables e below (s₁.setTop (mkF m 1 #[.val (.int p1), .val (.long q2), .second, .val (.long q3), .second, .val (.long q4), .second, .val (.long q5), .second, .val (.int p6), .unset, .unset, .unset, .unset, .unset, .unset, .unset, .unset, .unset, .unset, .unset, .unset, .unset, .unset, .unset, .unset, .unset] [(.int p1)])) _
  refine X0.ldcInt hx hown (mvT hZ (hw _ (List.mem_of_getElem? (i := 0) rfl))) (g := (mkF m 1 #[.val (.int p1), .val (.long q2), .second, .val (.long q3), .second, .val (.long q4), .second, .val (.long q5), .second, .val (.int p6), .unset, .unset, .unset, .unset, .unset, .unset, .unset, .unset, .unset, .unset, .unset, .unset, .unset, .unset, .unset, .unset, .unset] [(.int p1)])) rfl (hb hby at_1) _ ?_
  show Steps p.tables e below (s₁.setTop (mkF m 3 #[.val (.int p1), .val (.long q2), .second, .val (.long q3), .second, .val (.long q4), .second, .val (.long q5), .second, .val (.int p6), .unset, .unset, .unset, .unset, .unset, .unset, .unset, .unset, .unset, .unset, .unset, .unset, .unset, .unset, .unset, .unset, .unset] [(.int (2147483647 : Int32)), (.int p1)])) _
  refine XS.iand X0.here hx rfl (hb hby at_3) rfl ?_
  show Steps p.tables e below (s₁.setTop (mkF m 4 #[.val (.int p1), .val (.long q2), .second, .val (.long q3), .second, .val (.long q4), .second, .val (.long q5), .second, .val (.int p6), .unset, .unset, .unset, .unset, .unset, .unset, .unset, .unset, .unset, .unset, .unset, .unset, .unset, .unset, .unset, .unset, .unset] [(.int (p1 &&& (2147483647 : Int32)))])) _
  refine XS.iconst X0.here hx rfl (hb hby at_4) ?_
  show Steps p.tables e below (s₁.setTop (mkF m 5 #[.val (.int p1), .val (.long q2), .second, .val (.long q3), .second, .val (.long q4), .second, .val (.long q5), .second, .val (.int p6), .unset, .unset, .unset, .unset, .unset, .unset, .unset, .unset, .unset, .unset, .unset, .unset, .unset, .unset, .unset, .unset, .unset] [(.int (5 : Int32)), (.int (p1 &&& (2147483647 : Int32)))])) _
  refine iremM X0 hx rfl (hb hby at_5) rfl (by decide) ?_
  show Steps p.tables e below (s₁.setTop (mkF m 6 #[.val (.int p1), .val (.long q2), .second, .val (.long q3), .second, .val (.long q4), .second, .val (.long q5), .second, .val (.int p6), .unset, .unset, .unset, .unset, .unset, .unset, .unset, .unset, .unset, .unset, .unset, .unset, .unset, .unset, .unset, .unset, .unset] [(.int ((p1 &&& (2147483647 : Int32)) % (5 : Int32)))])) _
  refine XS.istore X0.here hx rfl (hb hby at_6) rfl (l' := #[.val (.int p1), .val (.long q2), .second, .val (.long q3), .second, .val (.long q4), .second, .val (.long q5), .second, .val (.int p6), .val (.int ((p1 &&& (2147483647 : Int32)) % (5 : Int32))), .unset, .unset, .unset, .unset, .unset, .unset, .unset, .unset, .unset, .unset, .unset, .unset, .unset, .unset, .unset, .unset]) rfl ?_
  show Steps p.tables e below (s₁.setTop (mkF m 8 #[.val (.int p1), .val (.long q2), .second, .val (.long q3), .second, .val (.long q4), .second, .val (.long q5), .second, .val (.int p6), .val (.int ((p1 &&& (2147483647 : Int32)) % (5 : Int32))), .unset, .unset, .unset, .unset, .unset, .unset, .unset, .unset, .unset, .unset, .unset, .unset, .unset, .unset, .unset, .unset] [])) _
  refine XS.iloadN X0.here hx rfl (hb hby at_8) rfl ?_
  show Steps p.tables e below (s₁.setTop (mkF m 9 #[.val (.int p1), .val (.long q2), .second, .val (.long q3), .second, .val (.long q4), .second, .val (.long q5), .second, .val (.int p6), .val (.int ((p1 &&& (2147483647 : Int32)) % (5 : Int32))), .unset, .unset, .unset, .unset, .unset, .unset, .unset, .unset, .unset, .unset, .unset, .unset, .unset, .unset, .unset, .unset] [(.int p1)])) _
  refine XS.ifNo X0.here hx rfl (hb hby at_9) rfl ((if0 _ _).trans (tlt hc9).2.1) ?_
  show Steps p.tables e below (s₁.setTop (mkF m 12 #[.val (.int p1), .val (.long q2), .second, .val (.long q3), .second, .val (.long q4), .second, .val (.long q5), .second, .val (.int p6), .val (.int ((p1 &&& (2147483647 : Int32)) % (5 : Int32))), .unset, .unset, .unset, .unset, .unset, .unset, .unset, .unset, .unset, .unset, .unset, .unset, .unset, .unset, .unset, .unset] [])) _
  refine XS.iconst X0.here hx rfl (hb hby at_12) ?_
  show Steps p.tables e below (s₁.setTop (mkF m 13 #[.val (.int p1), .val (.long q2), .second, .val (.long q3), .second, .val (.long q4), .second, .val (.long q5), .second, .val (.int p6), .val (.int ((p1 &&& (2147483647 : Int32)) % (5 : Int32))), .unset, .unset, .unset, .unset, .unset, .unset, .unset, .unset, .unset, .unset, .unset, .unset, .unset, .unset, .unset, .unset] [(.int (1 : Int32))])) _
  refine XS.goto X0.here hx rfl (pc0 := 13) (pc' := 17) rfl (hb hby at_13) (by decide) (by decide) ?_
  show Steps p.tables e below (s₁.setTop (mkF m 17 #[.val (.int p1), .val (.long q2), .second, .val (.long q3), .second, .val (.long q4), .second, .val (.long q5), .second, .val (.int p6), .val (.int ((p1 &&& (2147483647 : Int32)) % (5 : Int32))), .unset, .unset, .unset, .unset, .unset, .unset, .unset, .unset, .unset, .unset, .unset, .unset, .unset, .unset, .unset, .unset] [(.int (1 : Int32))])) _
  refine XS.istore X0.here hx rfl (hb hby at_17) rfl (l' := #[.val (.int p1), .val (.long q2), .second, .val (.long q3), .second, .val (.long q4), .second, .val (.long q5), .second, .val (.int p6), .val (.int ((p1 &&& (2147483647 : Int32)) % (5 : Int32))), .val (.int (1 : Int32)), .unset, .unset, .unset, .unset, .unset, .unset, .unset, .unset, .unset, .unset, .unset, .unset, .unset, .unset, .unset]) rfl ?_
  show Steps p.tables e below (s₁.setTop (mkF m 19 #[.val (.int p1), .val (.long q2), .second, .val (.long q3), .second, .val (.long q4), .second, .val (.long q5), .second, .val (.int p6), .val (.int ((p1 &&& (2147483647 : Int32)) % (5 : Int32))), .val (.int (1 : Int32)), .unset, .unset, .unset, .unset, .unset, .unset, .unset, .unset, .unset, .unset, .unset, .unset, .unset, .unset, .unset] [])) _
  refine XS.lloadN X0.here hx rfl (hb hby at_19) rfl ?_
  show Steps p.tables e below (s₁.setTop (mkF m 20 #[.val (.int p1), .val (.long q2), .second, .val (.long q3), .second, .val (.long q4), .second, .val (.long q5), .second, .val (.int p6), .val (.int ((p1 &&& (2147483647 : Int32)) % (5 : Int32))), .val (.int (1 : Int32)), .unset, .unset, .unset, .unset, .unset, .unset, .unset, .unset, .unset, .unset, .unset, .unset, .unset, .unset, .unset] [(.long q2)])) _
  refine XS.l2i X0.here hx rfl (hb hby at_20) rfl ?_
  show Steps p.tables e below (s₁.setTop (mkF m 21 #[.val (.int p1), .val (.long q2), .second, .val (.long q3), .second, .val (.long q4), .second, .val (.long q5), .second, .val (.int p6), .val (.int ((p1 &&& (2147483647 : Int32)) % (5 : Int32))), .val (.int (1 : Int32)), .unset, .unset, .unset, .unset, .unset, .unset, .unset, .unset, .unset, .unset, .unset, .unset, .unset, .unset, .unset] [(.int (q2.toInt32))])) _
  refine XS.istore X0.here hx rfl (hb hby at_21) rfl (l' := #[.val (.int p1), .val (.long q2), .second, .val (.long q3), .second, .val (.long q4), .second, .val (.long q5), .second, .val (.int p6), .val (.int ((p1 &&& (2147483647 : Int32)) % (5 : Int32))), .val (.int (1 : Int32)), .val (.int (q2.toInt32)), .unset, .unset, .unset, .unset, .unset, .unset, .unset, .unset, .unset, .unset, .unset, .unset, .unset, .unset]) rfl ?_
  show Steps p.tables e below (s₁.setTop (mkF m 23 #[.val (.int p1), .val (.long q2), .second, .val (.long q3), .second, .val (.long q4), .second, .val (.long q5), .second, .val (.int p6), .val (.int ((p1 &&& (2147483647 : Int32)) % (5 : Int32))), .val (.int (1 : Int32)), .val (.int (q2.toInt32)), .unset, .unset, .unset, .unset, .unset, .unset, .unset, .unset, .unset, .unset, .unset, .unset, .unset, .unset] [])) _
  refine XS.lloadN X0.here hx rfl (hb hby at_23) rfl ?_
  show Steps p.tables e below (s₁.setTop (mkF m 24 #[.val (.int p1), .val (.long q2), .second, .val (.long q3), .second, .val (.long q4), .second, .val (.long q5), .second, .val (.int p6), .val (.int ((p1 &&& (2147483647 : Int32)) % (5 : Int32))), .val (.int (1 : Int32)), .val (.int (q2.toInt32)), .unset, .unset, .unset, .unset, .unset, .unset, .unset, .unset, .unset, .unset, .unset, .unset, .unset, .unset] [(.long q2)])) _
  refine XS.bipush X0.here hx rfl (hb hby at_24) ?_
  show Steps p.tables e below (s₁.setTop (mkF m 26 #[.val (.int p1), .val (.long q2), .second, .val (.long q3), .second, .val (.long q4), .second, .val (.long q5), .second, .val (.int p6), .val (.int ((p1 &&& (2147483647 : Int32)) % (5 : Int32))), .val (.int (1 : Int32)), .val (.int (q2.toInt32)), .unset, .unset, .unset, .unset, .unset, .unset, .unset, .unset, .unset, .unset, .unset, .unset, .unset, .unset] [(.int (32 : Int32)), (.long q2)])) _
  refine XS.lushr X0.here hx rfl (hb hby at_26) rfl ?_
  show Steps p.tables e below (s₁.setTop (mkF m 27 #[.val (.int p1), .val (.long q2), .second, .val (.long q3), .second, .val (.long q4), .second, .val (.long q5), .second, .val (.int p6), .val (.int ((p1 &&& (2147483647 : Int32)) % (5 : Int32))), .val (.int (1 : Int32)), .val (.int (q2.toInt32)), .unset, .unset, .unset, .unset, .unset, .unset, .unset, .unset, .unset, .unset, .unset, .unset, .unset, .unset] [(.long ((q2.toUInt64 >>> ((32 : Int32) &&& 0x3f).toInt64.toUInt64).toInt64))])) _
  refine XS.l2i X0.here hx rfl (hb hby at_27) rfl ?_
  show Steps p.tables e below (s₁.setTop (mkF m 28 #[.val (.int p1), .val (.long q2), .second, .val (.long q3), .second, .val (.long q4), .second, .val (.long q5), .second, .val (.int p6), .val (.int ((p1 &&& (2147483647 : Int32)) % (5 : Int32))), .val (.int (1 : Int32)), .val (.int (q2.toInt32)), .unset, .unset, .unset, .unset, .unset, .unset, .unset, .unset, .unset, .unset, .unset, .unset, .unset, .unset] [(.int (((q2.toUInt64 >>> ((32 : Int32) &&& 0x3f).toInt64.toUInt64).toInt64).toInt32))])) _
  refine XS.istore X0.here hx rfl (hb hby at_28) rfl (l' := #[.val (.int p1), .val (.long q2), .second, .val (.long q3), .second, .val (.long q4), .second, .val (.long q5), .second, .val (.int p6), .val (.int ((p1 &&& (2147483647 : Int32)) % (5 : Int32))), .val (.int (1 : Int32)), .val (.int (q2.toInt32)), .val (.int (((q2.toUInt64 >>> ((32 : Int32) &&& 0x3f).toInt64.toUInt64).toInt64).toInt32)), .unset, .unset, .unset, .unset, .unset, .unset, .unset, .unset, .unset, .unset, .unset, .unset, .unset]) rfl ?_
  show Steps p.tables e below (s₁.setTop (mkF m 30 #[.val (.int p1), .val (.long q2), .second, .val (.long q3), .second, .val (.long q4), .second, .val (.long q5), .second, .val (.int p6), .val (.int ((p1 &&& (2147483647 : Int32)) % (5 : Int32))), .val (.int (1 : Int32)), .val (.int (q2.toInt32)), .val (.int (((q2.toUInt64 >>> ((32 : Int32) &&& 0x3f).toInt64.toUInt64).toInt64).toInt32)), .unset, .unset, .unset, .unset, .unset, .unset, .unset, .unset, .unset, .unset, .unset, .unset, .unset] [])) _
  refine XS.lloadN X0.here hx rfl (hb hby at_30) rfl ?_
  show Steps p.tables e below (s₁.setTop (mkF m 31 #[.val (.int p1), .val (.long q2), .second, .val (.long q3), .second, .val (.long q4), .second, .val (.long q5), .second, .val (.int p6), .val (.int ((p1 &&& (2147483647 : Int32)) % (5 : Int32))), .val (.int (1 : Int32)), .val (.int (q2.toInt32)), .val (.int (((q2.toUInt64 >>> ((32 : Int32) &&& 0x3f).toInt64.toUInt64).toInt64).toInt32)), .unset, .unset, .unset, .unset, .unset, .unset, .unset, .unset, .unset, .unset, .unset, .unset, .unset] [(.long q3)])) _
  refine XS.l2i X0.here hx rfl (hb hby at_31) rfl ?_
  show Steps p.tables e below (s₁.setTop (mkF m 32 #[.val (.int p1), .val (.long q2), .second, .val (.long q3), .second, .val (.long q4), .second, .val (.long q5), .second, .val (.int p6), .val (.int ((p1 &&& (2147483647 : Int32)) % (5 : Int32))), .val (.int (1 : Int32)), .val (.int (q2.toInt32)), .val (.int (((q2.toUInt64 >>> ((32 : Int32) &&& 0x3f).toInt64.toUInt64).toInt64).toInt32)), .unset, .unset, .unset, .unset, .unset, .unset, .unset, .unset, .unset, .unset, .unset, .unset, .unset] [(.int (q3.toInt32))])) _
  refine XS.istore X0.here hx rfl (hb hby at_32) rfl (l' := #[.val (.int p1), .val (.long q2), .second, .val (.long q3), .second, .val (.long q4), .second, .val (.long q5), .second, .val (.int p6), .val (.int ((p1 &&& (2147483647 : Int32)) % (5 : Int32))), .val (.int (1 : Int32)), .val (.int (q2.toInt32)), .val (.int (((q2.toUInt64 >>> ((32 : Int32) &&& 0x3f).toInt64.toUInt64).toInt64).toInt32)), .val (.int (q3.toInt32)), .unset, .unset, .unset, .unset, .unset, .unset, .unset, .unset, .unset, .unset, .unset, .unset]) rfl ?_
  show Steps p.tables e below (s₁.setTop (mkF m 34 #[.val (.int p1), .val (.long q2), .second, .val (.long q3), .second, .val (.long q4), .second, .val (.long q5), .second, .val (.int p6), .val (.int ((p1 &&& (2147483647 : Int32)) % (5 : Int32))), .val (.int (1 : Int32)), .val (.int (q2.toInt32)), .val (.int (((q2.toUInt64 >>> ((32 : Int32) &&& 0x3f).toInt64.toUInt64).toInt64).toInt32)), .val (.int (q3.toInt32)), .unset, .unset, .unset, .unset, .unset, .unset, .unset, .unset, .unset, .unset, .unset, .unset] [])) _
  refine XS.lloadN X0.here hx rfl (hb hby at_34) rfl ?_
  show Steps p.tables e below (s₁.setTop (mkF m 35 #[.val (.int p1), .val (.long q2), .second, .val (.long q3), .second, .val (.long q4), .second, .val (.long q5), .second, .val (.int p6), .val (.int ((p1 &&& (2147483647 : Int32)) % (5 : Int32))), .val (.int (1 : Int32)), .val (.int (q2.toInt32)), .val (.int (((q2.toUInt64 >>> ((32 : Int32) &&& 0x3f).toInt64.toUInt64).toInt64).toInt32)), .val (.int (q3.toInt32)), .unset, .unset, .unset, .unset, .unset, .unset, .unset, .unset, .unset, .unset, .unset, .unset] [(.long q3)])) _
  refine XS.bipush X0.here hx rfl (hb hby at_35) ?_
  show Steps p.tables e below (s₁.setTop (mkF m 37 #[.val (.int p1), .val (.long q2), .second, .val (.long q3), .second, .val (.long q4), .second, .val (.long q5), .second, .val (.int p6), .val (.int ((p1 &&& (2147483647 : Int32)) % (5 : Int32))), .val (.int (1 : Int32)), .val (.int (q2.toInt32)), .val (.int (((q2.toUInt64 >>> ((32 : Int32) &&& 0x3f).toInt64.toUInt64).toInt64).toInt32)), .val (.int (q3.toInt32)), .unset, .unset, .unset, .unset, .unset, .unset, .unset, .unset, .unset, .unset, .unset, .unset] [(.int (32 : Int32)), (.long q3)])) _
  refine XS.lushr X0.here hx rfl (hb hby at_37) rfl ?_
  show Steps p.tables e below (s₁.setTop (mkF m 38 #[.val (.int p1), .val (.long q2), .second, .val (.long q3), .second, .val (.long q4), .second, .val (.long q5), .second, .val (.int p6), .val (.int ((p1 &&& (2147483647 : Int32)) % (5 : Int32))), .val (.int (1 : Int32)), .val (.int (q2.toInt32)), .val (.int (((q2.toUInt64 >>> ((32 : Int32) &&& 0x3f).toInt64.toUInt64).toInt64).toInt32)), .val (.int (q3.toInt32)), .unset, .unset, .unset, .unset, .unset, .unset, .unset, .unset, .unset, .unset, .unset, .unset] [(.long ((q3.toUInt64 >>> ((32 : Int32) &&& 0x3f).toInt64.toUInt64).toInt64))])) _
  refine XS.l2i X0.here hx rfl (hb hby at_38) rfl ?_
  show Steps p.tables e below (s₁.setTop (mkF m 39 #[.val (.int p1), .val (.long q2), .second, .val (.long q3), .second, .val (.long q4), .second, .val (.long q5), .second, .val (.int p6), .val (.int ((p1 &&& (2147483647 : Int32)) % (5 : Int32))), .val (.int (1 : Int32)), .val (.int (q2.toInt32)), .val (.int (((q2.toUInt64 >>> ((32 : Int32) &&& 0x3f).toInt64.toUInt64).toInt64).toInt32)), .val (.int (q3.toInt32)), .unset, .unset, .unset, .unset, .unset, .unset, .unset, .unset, .unset, .unset, .unset, .unset] [(.int (((q3.toUInt64 >>> ((32 : Int32) &&& 0x3f).toInt64.toUInt64).toInt64).toInt32))])) _
  refine XS.istore X0.here hx rfl (hb hby at_39) rfl (l' := #[.val (.int p1), .val (.long q2), .second, .val (.long q3), .second, .val (.long q4), .second, .val (.long q5), .second, .val (.int p6), .val (.int ((p1 &&& (2147483647 : Int32)) % (5 : Int32))), .val (.int (1 : Int32)), .val (.int (q2.toInt32)), .val (.int (((q2.toUInt64 >>> ((32 : Int32) &&& 0x3f).toInt64.toUInt64).toInt64).toInt32)), .val (.int (q3.toInt32)), .val (.int (((q3.toUInt64 >>> ((32 : Int32) &&& 0x3f).toInt64.toUInt64).toInt64).toInt32)), .unset, .unset, .unset, .unset, .unset, .unset, .unset, .unset, .unset, .unset, .unset]) rfl ?_
  show Steps p.tables e below (s₁.setTop (mkF m 41 #[.val (.int p1), .val (.long q2), .second, .val (.long q3), .second, .val (.long q4), .second, .val (.long q5), .second, .val (.int p6), .val (.int ((p1 &&& (2147483647 : Int32)) % (5 : Int32))), .val (.int (1 : Int32)), .val (.int (q2.toInt32)), .val (.int (((q2.toUInt64 >>> ((32 : Int32) &&& 0x3f).toInt64.toUInt64).toInt64).toInt32)), .val (.int (q3.toInt32)), .val (.int (((q3.toUInt64 >>> ((32 : Int32) &&& 0x3f).toInt64.toUInt64).toInt64).toInt32)), .unset, .unset, .unset, .unset, .unset, .unset, .unset, .unset, .unset, .unset, .unset] [])) _
  refine XS.lload X0.here hx rfl (hb hby at_41) rfl ?_
  show Steps p.tables e below (s₁.setTop (mkF m 43 #[.val (.int p1), .val (.long q2), .second, .val (.long q3), .second, .val (.long q4), .second, .val (.long q5), .second, .val (.int p6), .val (.int ((p1 &&& (2147483647 : Int32)) % (5 : Int32))), .val (.int (1 : Int32)), .val (.int (q2.toInt32)), .val (.int (((q2.toUInt64 >>> ((32 : Int32) &&& 0x3f).toInt64.toUInt64).toInt64).toInt32)), .val (.int (q3.toInt32)), .val (.int (((q3.toUInt64 >>> ((32 : Int32) &&& 0x3f).toInt64.toUInt64).toInt64).toInt32)), .unset, .unset, .unset, .unset, .unset, .unset, .unset, .unset, .unset, .unset, .unset] [(.long q4)])) _
  refine XS.l2i X0.here hx rfl (hb hby at_43) rfl ?_
  show Steps p.tables e below (s₁.setTop (mkF m 44 #[.val (.int p1), .val (.long q2), .second, .val (.long q3), .second, .val (.long q4), .second, .val (.long q5), .second, .val (.int p6), .val (.int ((p1 &&& (2147483647 : Int32)) % (5 : Int32))), .val (.int (1 : Int32)), .val (.int (q2.toInt32)), .val (.int (((q2.toUInt64 >>> ((32 : Int32) &&& 0x3f).toInt64.toUInt64).toInt64).toInt32)), .val (.int (q3.toInt32)), .val (.int (((q3.toUInt64 >>> ((32 : Int32) &&& 0x3f).toInt64.toUInt64).toInt64).toInt32)), .unset, .unset, .unset, .unset, .unset, .unset, .unset, .unset, .unset, .unset, .unset] [(.int (q4.toInt32))])) _
  refine XS.istore X0.here hx rfl (hb hby at_44) rfl (l' := #[.val (.int p1), .val (.long q2), .second, .val (.long q3), .second, .val (.long q4), .second, .val (.long q5), .second, .val (.int p6), .val (.int ((p1 &&& (2147483647 : Int32)) % (5 : Int32))), .val (.int (1 : Int32)), .val (.int (q2.toInt32)), .val (.int (((q2.toUInt64 >>> ((32 : Int32) &&& 0x3f).toInt64.toUInt64).toInt64).toInt32)), .val (.int (q3.toInt32)), .val (.int (((q3.toUInt64 >>> ((32 : Int32) &&& 0x3f).toInt64.toUInt64).toInt64).toInt32)), .val (.int (q4.toInt32)), .unset, .unset, .unset, .unset, .unset, .unset, .unset, .unset, .unset, .unset]) rfl ?_
  show Steps p.tables e below (s₁.setTop (mkF m 46 #[.val (.int p1), .val (.long q2), .second, .val (.long q3), .second, .val (.long q4), .second, .val (.long q5), .second, .val (.int p6), .val (.int ((p1 &&& (2147483647 : Int32)) % (5 : Int32))), .val (.int (1 : Int32)), .val (.int (q2.toInt32)), .val (.int (((q2.toUInt64 >>> ((32 : Int32) &&& 0x3f).toInt64.toUInt64).toInt64).toInt32)), .val (.int (q3.toInt32)), .val (.int (((q3.toUInt64 >>> ((32 : Int32) &&& 0x3f).toInt64.toUInt64).toInt64).toInt32)), .val (.int (q4.toInt32)), .unset, .unset, .unset, .unset, .unset, .unset, .unset, .unset, .unset, .unset] [])) _
  refine XS.lload X0.here hx rfl (hb hby at_46) rfl ?_
  show Steps p.tables e below (s₁.setTop (mkF m 48 #[.val (.int p1), .val (.long q2), .second, .val (.long q3), .second, .val (.long q4), .second, .val (.long q5), .second, .val (.int p6), .val (.int ((p1 &&& (2147483647 : Int32)) % (5 : Int32))), .val (.int (1 : Int32)), .val (.int (q2.toInt32)), .val (.int (((q2.toUInt64 >>> ((32 : Int32) &&& 0x3f).toInt64.toUInt64).toInt64).toInt32)), .val (.int (q3.toInt32)), .val (.int (((q3.toUInt64 >>> ((32 : Int32) &&& 0x3f).toInt64.toUInt64).toInt64).toInt32)), .val (.int (q4.toInt32)), .unset, .unset, .unset, .unset, .unset, .unset, .unset, .unset, .unset, .unset] [(.long q4)])) _
  refine XS.bipush X0.here hx rfl (hb hby at_48) ?_
  show Steps p.tables e below (s₁.setTop (mkF m 50 #[.val (.int p1), .val (.long q2), .second, .val (.long q3), .second, .val (.long q4), .second, .val (.long q5), .second, .val (.int p6), .val (.int ((p1 &&& (2147483647 : Int32)) % (5 : Int32))), .val (.int (1 : Int32)), .val (.int (q2.toInt32)), .val (.int (((q2.toUInt64 >>> ((32 : Int32) &&& 0x3f).toInt64.toUInt64).toInt64).toInt32)), .val (.int (q3.toInt32)), .val (.int (((q3.toUInt64 >>> ((32 : Int32) &&& 0x3f).toInt64.toUInt64).toInt64).toInt32)), .val (.int (q4.toInt32)), .unset, .unset, .unset, .unset, .unset, .unset, .unset, .unset, .unset, .unset] [(.int (32 : Int32)), (.long q4)])) _
  refine XS.lushr X0.here hx rfl (hb hby at_50) rfl ?_
  show Steps p.tables e below (s₁.setTop (mkF m 51 #[.val (.int p1), .val (.long q2), .second, .val (.long q3), .second, .val (.long q4), .second, .val (.long q5), .second, .val (.int p6), .val (.int ((p1 &&& (2147483647 : Int32)) % (5 : Int32))), .val (.int (1 : Int32)), .val (.int (q2.toInt32)), .val (.int (((q2.toUInt64 >>> ((32 : Int32) &&& 0x3f).toInt64.toUInt64).toInt64).toInt32)), .val (.int (q3.toInt32)), .val (.int (((q3.toUInt64 >>> ((32 : Int32) &&& 0x3f).toInt64.toUInt64).toInt64).toInt32)), .val (.int (q4.toInt32)), .unset, .unset, .unset, .unset, .unset, .unset, .unset, .unset, .unset, .unset] [(.long ((q4.toUInt64 >>> ((32 : Int32) &&& 0x3f).toInt64.toUInt64).toInt64))])) _
  refine XS.l2i X0.here hx rfl (hb hby at_51) rfl ?_
  show Steps p.tables e below (s₁.setTop (mkF m 52 #[.val (.int p1), .val (.long q2), .second, .val (.long q3), .second, .val (.long q4), .second, .val (.long q5), .second, .val (.int p6), .val (.int ((p1 &&& (2147483647 : Int32)) % (5 : Int32))), .val (.int (1 : Int32)), .val (.int (q2.toInt32)), .val (.int (((q2.toUInt64 >>> ((32 : Int32) &&& 0x3f).toInt64.toUInt64).toInt64).toInt32)), .val (.int (q3.toInt32)), .val (.int (((q3.toUInt64 >>> ((32 : Int32) &&& 0x3f).toInt64.toUInt64).toInt64).toInt32)), .val (.int (q4.toInt32)), .unset, .unset, .unset, .unset, .unset, .unset, .unset, .unset, .unset, .unset] [(.int (((q4.toUInt64 >>> ((32 : Int32) &&& 0x3f).toInt64.toUInt64).toInt64).toInt32))])) _
  refine XS.istore X0.here hx rfl (hb hby at_52) rfl (l' := #[.val (.int p1), .val (.long q2), .second, .val (.long q3), .second, .val (.long q4), .second, .val (.long q5), .second, .val (.int p6), .val (.int ((p1 &&& (2147483647 : Int32)) % (5 : Int32))), .val (.int (1 : Int32)), .val (.int (q2.toInt32)), .val (.int (((q2.toUInt64 >>> ((32 : Int32) &&& 0x3f).toInt64.toUInt64).toInt64).toInt32)), .val (.int (q3.toInt32)), .val (.int (((q3.toUInt64 >>> ((32 : Int32) &&& 0x3f).toInt64.toUInt64).toInt64).toInt32)), .val (.int (q4.toInt32)), .val (.int (((q4.toUInt64 >>> ((32 : Int32) &&& 0x3f).toInt64.toUInt64).toInt64).toInt32)), .unset, .unset, .unset, .unset, .unset, .unset, .unset, .unset, .unset]) rfl ?_
  show Steps p.tables e below (s₁.setTop (mkF m 54 #[.val (.int p1), .val (.long q2), .second, .val (.long q3), .second, .val (.long q4), .second, .val (.long q5), .second, .val (.int p6), .val (.int ((p1 &&& (2147483647 : Int32)) % (5 : Int32))), .val (.int (1 : Int32)), .val (.int (q2.toInt32)), .val (.int (((q2.toUInt64 >>> ((32 : Int32) &&& 0x3f).toInt64.toUInt64).toInt64).toInt32)), .val (.int (q3.toInt32)), .val (.int (((q3.toUInt64 >>> ((32 : Int32) &&& 0x3f).toInt64.toUInt64).toInt64).toInt32)), .val (.int (q4.toInt32)), .val (.int (((q4.toUInt64 >>> ((32 : Int32) &&& 0x3f).toInt64.toUInt64).toInt64).toInt32)), .unset, .unset, .unset, .unset, .unset, .unset, .unset, .unset, .unset] [])) _
  refine XS.lload X0.here hx rfl (hb hby at_54) rfl ?_
  show Steps p.tables e below (s₁.setTop (mkF m 56 #[.val (.int p1), .val (.long q2), .second, .val (.long q3), .second, .val (.long q4), .second, .val (.long q5), .second, .val (.int p6), .val (.int ((p1 &&& (2147483647 : Int32)) % (5 : Int32))), .val (.int (1 : Int32)), .val (.int (q2.toInt32)), .val (.int (((q2.toUInt64 >>> ((32 : Int32) &&& 0x3f).toInt64.toUInt64).toInt64).toInt32)), .val (.int (q3.toInt32)), .val (.int (((q3.toUInt64 >>> ((32 : Int32) &&& 0x3f).toInt64.toUInt64).toInt64).toInt32)), .val (.int (q4.toInt32)), .val (.int (((q4.toUInt64 >>> ((32 : Int32) &&& 0x3f).toInt64.toUInt64).toInt64).toInt32)), .unset, .unset, .unset, .unset, .unset, .unset, .unset, .unset, .unset] [(.long q5)])) _
  refine XS.l2i X0.here hx rfl (hb hby at_56) rfl ?_
  show Steps p.tables e below (s₁.setTop (mkF m 57 #[.val (.int p1), .val (.long q2), .second, .val (.long q3), .second, .val (.long q4), .second, .val (.long q5), .second, .val (.int p6), .val (.int ((p1 &&& (2147483647 : Int32)) % (5 : Int32))), .val (.int (1 : Int32)), .val (.int (q2.toInt32)), .val (.int (((q2.toUInt64 >>> ((32 : Int32) &&& 0x3f).toInt64.toUInt64).toInt64).toInt32)), .val (.int (q3.toInt32)), .val (.int (((q3.toUInt64 >>> ((32 : Int32) &&& 0x3f).toInt64.toUInt64).toInt64).toInt32)), .val (.int (q4.toInt32)), .val (.int (((q4.toUInt64 >>> ((32 : Int32) &&& 0x3f).toInt64.toUInt64).toInt64).toInt32)), .unset, .unset, .unset, .unset, .unset, .unset, .unset, .unset, .unset] [(.int (q5.toInt32))])) _
  refine XS.istore X0.here hx rfl (hb hby at_57) rfl (l' := #[.val (.int p1), .val (.long q2), .second, .val (.long q3), .second, .val (.long q4), .second, .val (.long q5), .second, .val (.int p6), .val (.int ((p1 &&& (2147483647 : Int32)) % (5 : Int32))), .val (.int (1 : Int32)), .val (.int (q2.toInt32)), .val (.int (((q2.toUInt64 >>> ((32 : Int32) &&& 0x3f).toInt64.toUInt64).toInt64).toInt32)), .val (.int (q3.toInt32)), .val (.int (((q3.toUInt64 >>> ((32 : Int32) &&& 0x3f).toInt64.toUInt64).toInt64).toInt32)), .val (.int (q4.toInt32)), .val (.int (((q4.toUInt64 >>> ((32 : Int32) &&& 0x3f).toInt64.toUInt64).toInt64).toInt32)), .val (.int (q5.toInt32)), .unset, .unset, .unset, .unset, .unset, .unset, .unset, .unset]) rfl ?_
  show Steps p.tables e below (s₁.setTop (mkF m 59 #[.val (.int p1), .val (.long q2), .second, .val (.long q3), .second, .val (.long q4), .second, .val (.long q5), .second, .val (.int p6), .val (.int ((p1 &&& (2147483647 : Int32)) % (5 : Int32))), .val (.int (1 : Int32)), .val (.int (q2.toInt32)), .val (.int (((q2.toUInt64 >>> ((32 : Int32) &&& 0x3f).toInt64.toUInt64).toInt64).toInt32)), .val (.int (q3.toInt32)), .val (.int (((q3.toUInt64 >>> ((32 : Int32) &&& 0x3f).toInt64.toUInt64).toInt64).toInt32)), .val (.int (q4.toInt32)), .val (.int (((q4.toUInt64 >>> ((32 : Int32) &&& 0x3f).toInt64.toUInt64).toInt64).toInt32)), .val (.int (q5.toInt32)), .unset, .unset, .unset, .unset, .unset, .unset, .unset, .unset] [])) _
  refine XS.lload X0.here hx rfl (hb hby at_59) rfl ?_
  show Steps p.tables e below (s₁.setTop (mkF m 61 #[.val (.int p1), .val (.long q2), .second, .val (.long q3), .second, .val (.long q4), .second, .val (.long q5), .second, .val (.int p6), .val (.int ((p1 &&& (2147483647 : Int32)) % (5 : Int32))), .val (.int (1 : Int32)), .val (.int (q2.toInt32)), .val (.int (((q2.toUInt64 >>> ((32 : Int32) &&& 0x3f).toInt64.toUInt64).toInt64).toInt32)), .val (.int (q3.toInt32)), .val (.int (((q3.toUInt64 >>> ((32 : Int32) &&& 0x3f).toInt64.toUInt64).toInt64).toInt32)), .val (.int (q4.toInt32)), .val (.int (((q4.toUInt64 >>> ((32 : Int32) &&& 0x3f).toInt64.toUInt64).toInt64).toInt32)), .val (.int (q5.toInt32)), .unset, .unset, .unset, .unset, .unset, .unset, .unset, .unset] [(.long q5)])) _
  refine XS.bipush X0.here hx rfl (hb hby at_61) ?_
  show Steps p.tables e below (s₁.setTop (mkF m 63 #[.val (.int p1), .val (.long q2), .second, .val (.long q3), .second, .val (.long q4), .second, .val (.long q5), .second, .val (.int p6), .val (.int ((p1 &&& (2147483647 : Int32)) % (5 : Int32))), .val (.int (1 : Int32)), .val (.int (q2.toInt32)), .val (.int (((q2.toUInt64 >>> ((32 : Int32) &&& 0x3f).toInt64.toUInt64).toInt64).toInt32)), .val (.int (q3.toInt32)), .val (.int (((q3.toUInt64 >>> ((32 : Int32) &&& 0x3f).toInt64.toUInt64).toInt64).toInt32)), .val (.int (q4.toInt32)), .val (.int (((q4.toUInt64 >>> ((32 : Int32) &&& 0x3f).toInt64.toUInt64).toInt64).toInt32)), .val (.int (q5.toInt32)), .unset, .unset, .unset, .unset, .unset, .unset, .unset, .unset] [(.int (32 : Int32)), (.long q5)])) _
  refine XS.lushr X0.here hx rfl (hb hby at_63) rfl ?_
  show Steps p.tables e below (s₁.setTop (mkF m 64 #[.val (.int p1), .val (.long q2), .second, .val (.long q3), .second, .val (.long q4), .second, .val (.long q5), .second, .val (.int p6), .val (.int ((p1 &&& (2147483647 : Int32)) % (5 : Int32))), .val (.int (1 : Int32)), .val (.int (q2.toInt32)), .val (.int (((q2.toUInt64 >>> ((32 : Int32) &&& 0x3f).toInt64.toUInt64).toInt64).toInt32)), .val (.int (q3.toInt32)), .val (.int (((q3.toUInt64 >>> ((32 : Int32) &&& 0x3f).toInt64.toUInt64).toInt64).toInt32)), .val (.int (q4.toInt32)), .val (.int (((q4.toUInt64 >>> ((32 : Int32) &&& 0x3f).toInt64.toUInt64).toInt64).toInt32)), .val (.int (q5.toInt32)), .unset, .unset, .unset, .unset, .unset, .unset, .unset, .unset] [(.long ((q5.toUInt64 >>> ((32 : Int32) &&& 0x3f).toInt64.toUInt64).toInt64))])) _
  refine XS.l2i X0.here hx rfl (hb hby at_64) rfl ?_
  show Steps p.tables e below (s₁.setTop (mkF m 65 #[.val (.int p1), .val (.long q2), .second, .val (.long q3), .second, .val (.long q4), .second, .val (.long q5), .second, .val (.int p6), .val (.int ((p1 &&& (2147483647 : Int32)) % (5 : Int32))), .val (.int (1 : Int32)), .val (.int (q2.toInt32)), .val (.int (((q2.toUInt64 >>> ((32 : Int32) &&& 0x3f).toInt64.toUInt64).toInt64).toInt32)), .val (.int (q3.toInt32)), .val (.int (((q3.toUInt64 >>> ((32 : Int32) &&& 0x3f).toInt64.toUInt64).toInt64).toInt32)), .val (.int (q4.toInt32)), .val (.int (((q4.toUInt64 >>> ((32 : Int32) &&& 0x3f).toInt64.toUInt64).toInt64).toInt32)), .val (.int (q5.toInt32)), .unset, .unset, .unset, .unset, .unset, .unset, .unset, .unset] [(.int (((q5.toUInt64 >>> ((32 : Int32) &&& 0x3f).toInt64.toUInt64).toInt64).toInt32))])) _
  refine XS.istore X0.here hx rfl (hb hby at_65) rfl (l' := #[.val (.int p1), .val (.long q2), .second, .val (.long q3), .second, .val (.long q4), .second, .val (.long q5), .second, .val (.int p6), .val (.int ((p1 &&& (2147483647 : Int32)) % (5 : Int32))), .val (.int (1 : Int32)), .val (.int (q2.toInt32)), .val (.int (((q2.toUInt64 >>> ((32 : Int32) &&& 0x3f).toInt64.toUInt64).toInt64).toInt32)), .val (.int (q3.toInt32)), .val (.int (((q3.toUInt64 >>> ((32 : Int32) &&& 0x3f).toInt64.toUInt64).toInt64).toInt32)), .val (.int (q4.toInt32)), .val (.int (((q4.toUInt64 >>> ((32 : Int32) &&& 0x3f).toInt64.toUInt64).toInt64).toInt32)), .val (.int (q5.toInt32)), .val (.int (((q5.toUInt64 >>> ((32 : Int32) &&& 0x3f).toInt64.toUInt64).toInt64).toInt32)), .unset, .unset, .unset, .unset, .unset, .unset, .unset]) rfl ?_
  show Steps p.tables e below (s₁.setTop (mkF m 67 #[.val (.int p1), .val (.long q2), .second, .val (.long q3), .second, .val (.long q4), .second, .val (.long q5), .second, .val (.int p6), .val (.int ((p1 &&& (2147483647 : Int32)) % (5 : Int32))), .val (.int (1 : Int32)), .val (.int (q2.toInt32)), .val (.int (((q2.toUInt64 >>> ((32 : Int32) &&& 0x3f).toInt64.toUInt64).toInt64).toInt32)), .val (.int (q3.toInt32)), .val (.int (((q3.toUInt64 >>> ((32 : Int32) &&& 0x3f).toInt64.toUInt64).toInt64).toInt32)), .val (.int (q4.toInt32)), .val (.int (((q4.toUInt64 >>> ((32 : Int32) &&& 0x3f).toInt64.toUInt64).toInt64).toInt32)), .val (.int (q5.toInt32)), .val (.int (((q5.toUInt64 >>> ((32 : Int32) &&& 0x3f).toInt64.toUInt64).toInt64).toInt32)), .unset, .unset, .unset, .unset, .unset, .unset, .unset] [])) _
  refine XS.iload X0.here hx rfl (hb hby at_67) rfl ?_
  show Steps p.tables e below (s₁.setTop (mkF m 69 #[.val (.int p1), .val (.long q2), .second, .val (.long q3), .second, .val (.long q4), .second, .val (.long q5), .second, .val (.int p6), .val (.int ((p1 &&& (2147483647 : Int32)) % (5 : Int32))), .val (.int (1 : Int32)), .val (.int (q2.toInt32)), .val (.int (((q2.toUInt64 >>> ((32 : Int32) &&& 0x3f).toInt64.toUInt64).toInt64).toInt32)), .val (.int (q3.toInt32)), .val (.int (((q3.toUInt64 >>> ((32 : Int32) &&& 0x3f).toInt64.toUInt64).toInt64).toInt32)), .val (.int (q4.toInt32)), .val (.int (((q4.toUInt64 >>> ((32 : Int32) &&& 0x3f).toInt64.toUInt64).toInt64).toInt32)), .val (.int (q5.toInt32)), .val (.int (((q5.toUInt64 >>> ((32 : Int32) &&& 0x3f).toInt64.toUInt64).toInt64).toInt32)), .unset, .unset, .unset, .unset, .unset, .unset, .unset] [(.int p6)])) _
  refine XS.istore X0.here hx rfl (hb hby at_69) rfl (l' := #[.val (.int p1), .val (.long q2), .second, .val (.long q3), .second, .val (.long q4), .second, .val (.long q5), .second, .val (.int p6), .val (.int ((p1 &&& (2147483647 : Int32)) % (5 : Int32))), .val (.int (1 : Int32)), .val (.int (q2.toInt32)), .val (.int (((q2.toUInt64 >>> ((32 : Int32) &&& 0x3f).toInt64.toUInt64).toInt64).toInt32)), .val (.int (q3.toInt32)), .val (.int (((q3.toUInt64 >>> ((32 : Int32) &&& 0x3f).toInt64.toUInt64).toInt64).toInt32)), .val (.int (q4.toInt32)), .val (.int (((q4.toUInt64 >>> ((32 : Int32) &&& 0x3f).toInt64.toUInt64).toInt64).toInt32)), .val (.int (q5.toInt32)), .val (.int (((q5.toUInt64 >>> ((32 : Int32) &&& 0x3f).toInt64.toUInt64).toInt64).toInt32)), .val (.int p6), .unset, .unset, .unset, .unset, .unset, .unset]) rfl ?_
  exact kt
theorem pn_0 : plainName "com/example/stagecraft/stagecraft/examples/GenericDotProductApplyPinLaw" = true := by first | (simp [plainName, overriddenIn]; done) | decide +kernel
theorem pd_0_0 : parseMethodDescriptor "([I)V" = some ⟨[(.array .int)], none⟩ := by decide +kernel
theorem pd_0_3 : parseMethodDescriptor "([I)I" = some ⟨[(.array .int)], some .int⟩ := by decide +kernel
theorem ef_0 (m : MethodId) (x0 : Int32) (x1 : Int64) (x2 : Int64) (x3 : Int64) (x4 : Int64) (x5 : Int32) : entryFrame m #[(.int x0), (.long x1), (.long x2), (.long x3), (.long x4), (.int x5)] maxLocals = mkF m 0 #[.val (.int x0), .val (.long x1), .second, .val (.long x2), .second, .val (.long x3), .second, .val (.long x4), .second, .val (.int x5), .unset, .unset, .unset, .unset, .unset, .unset, .unset, .unset, .unset, .unset, .unset, .unset, .unset, .unset, .unset, .unset, .unset] [] := by first | (simp [entryFrame, mkF, argsToLocals, Value.category, maxLocals]; done) | rfl
def Q0 (Z : State) (p1 : Int32) (q2 : Int64) (q3 : Int64) (q4 : Int64) (q5 : Int64) (p6 : Int32) (h0 : Heap) (n0 : Nat) (v : Option Value) (h : Heap) (L : List Loc) : Prop := v = some (.int (1 : Int32)) ∧ Fr n0 L
set_option maxRecDepth 65536 in
set_option maxHeartbeats 40000000 in
theorem rm0_0_0 (l : Launch) (Z : State) (a0 : Array Value) (hw : ∀ d ∈ tables_1, d.before a0 Z = true) (ws : List Jvm.Cond) (p1 : Int32) (q2 : Int64) (q3 : Int64) (q4 : Int64) (q5 : Int64) (p6 : Int32) (h0 : Heap) (n0 : Nat) (Z0 : n0 ≤ h0.size) (v0 v1 v2 v3 w0 w1 w2 w3 : Int32) (h_v0 : (q2.toInt32) = v0) (h_v1 : (((q2.toUInt64 >>> ((32 : Int32) &&& 0x3f).toInt64.toUInt64).toInt64).toInt32) = v1) (h_v2 : (q3.toInt32) = v2) (h_v3 : (((q3.toUInt64 >>> ((32 : Int32) &&& 0x3f).toInt64.toUInt64).toInt64).toInt32) = v3) (h_w0 : (q4.toInt32) = w0) (h_w1 : (((q4.toUInt64 >>> ((32 : Int32) &&& 0x3f).toInt64.toUInt64).toInt64).toInt32) = w1) (h_w2 : (q5.toInt32) = w2) (h_w3 : (((q5.toUInt64 >>> ((32 : Int32) &&& 0x3f).toInt64.toUInt64).toInt64).toInt32) = w3) (hk : ((p1 &&& (2147483647 : Int32)) % (5 : Int32)) = (0 : Int32)) (hc9 : ¬ (p1 < (0 : Int32))) :
    MetFree l x (head1 (Jvm.Cond.code x code maxLocals ret :: ws) room_1) (fun a U => a = #[(.int p1), (.long q2), (.long q3), (.long q4), (.long q5), (.int p6)] ∧ Z.Warmed39 U.vm ∧ U.heap = h0) (fun _ _ _ _ _ => True) (fun _ U o U' => ∃ v L, o = .returned v ∧ Q0 Z p1 q2 q3 q4 q5 p6 h0 n0 v U'.heap L ∧ FrameEnd U o U' L room_1.cells room_1.slots) := by
  refine MetFree.of_bodySF (plainFor_of_name pn_0) hisR ?_
  intro p e s m args below meth c s₁ Bd hml0 hP hK
  obtain ⟨rfl, hZ, hh⟩ := hP
  have hx := Bd.exec
  have hby := Bd.bytes
  have hml : c.maxLocals = 27 := hml0
  have hown : s.vm.findClass "com/example/stagecraft/stagecraft/examples/GenericDotProductApplyPinLaw" = some m.cls := findClass_of_methodNamed Bd.named
  have hnm := (name_of_methodNamed Bd.named Bd.method).1
  have X0 : Stand p l e room_1 s m #[(.int p1), (.long q2), (.long q3), (.long q4), (.long q5), (.int p6)] below meth c s₁ [] 0 0 := Stand.of_body Bd
  have e0 : s₁.heap = h0 := by rw [← hh, Bd.state]; rfl
  have N0 := Fr.nil n0
  have pre0 : ∀ t, Steps p.tables e below (s₁.setTop (mkF m 0 #[.val (.int p1), .val (.long q2), .second, .val (.long q3), .second, .val (.long q4), .second, .val (.long q5), .second, .val (.int p6), .unset, .unset, .unset, .unset, .unset, .unset, .unset, .unset, .unset, .unset, .unset, .unset, .unset, .unset, .unset, .unset, .unset] [])) t → Steps p.tables e below (s₁.setTop (entryFrame m #[(.int p1), (.long q2), (.long q3), (.long q4), (.long q5), (.int p6)] maxLocals)) t := fun t k => castTop (ef_0 m p1 q2 q3 q4 q5 p6) k
  -- 3. LAWS
  have jmp_0 : ∀ target, Steps p.tables e below (s₁.setTop (mkF m 71 (own_L p1 q2 q3 q4 q5 p6 (0 : Int32) (0 : Int32) v0 v1 v2 v3 w0 w1 w2 w3 [.unset, .unset, .unset, .unset, .unset, .unset]) [])) target → Steps p.tables e below (s₁.setTop (mkF m 0 #[.val (.int p1), .val (.long q2), .second, .val (.long q3), .second, .val (.long q4), .second, .val (.long q5), .second, .val (.int p6), .unset, .unset, .unset, .unset, .unset, .unset, .unset, .unset, .unset, .unset, .unset, .unset, .unset, .unset, .unset, .unset, .unset] [])) target := fun target kt => own_j0 p1 q2 q3 q4 q5 p6 X0 hx hZ hw hby hown hc9 target (castTop (by rw [hk, h_v0, h_v1, h_v2, h_v3, h_w0, h_w1, h_w2, h_w3]) kt)
  obtain ⟨T7, h7, k7, X7, e7, E7, A7, I7, st7⟩ := newPE X0 hx hZ (hw _ (List.mem_of_getElem? (i := 1) rfl)) e0 (g := (mkF m 73 (own_L p1 q2 q3 q4 q5 p6 (0 : Int32) (0 : Int32) v0 v1 v2 v3 w0 w1 w2 w3 [.unset, .unset, .unset, .unset, .unset, .unset]) [(.int (0 : Int32))])) rfl (hb hby at_73) rfl (by decide) (cap := 0) (by decide) (by decide) (by decide) (by decide) (ad := "[I") rfl
  obtain ⟨b7, g7⟩ : ∃ z, z = h0.size := ⟨_, rfl⟩      -- the fresh array's address
  have Z7 : n0 ≤ h7.size := Nat.le_trans Z0 E7.1
  rw [← g7] at A7 I7 st7
  have V_b7 := Arv.new A7 (by decide)      -- Arv Z h7 b7 k7 .int (0 : Int32) [] (its first value); a place must be in the list before it's written: Arv.pad with pad_rep
  have g_b7 : n0 ≤ b7 := Nat.le_trans Z0 (Nat.le_of_eq g7.symm)
  have sz_b7 : h0.size ≤ b7 := (Nat.le_trans (Keep.refl h0 []).1 (Nat.le_of_eq g7.symm))
  have K7 : Keep h0 h7 [] := (Keep.refl h0 []).ext E7
  have jmp_124 : ∀ target, Steps p.tables e below (T7.setTop (mkF m 131 (own_L p1 q2 q3 q4 q5 p6 (0 : Int32) (0 : Int32) v0 v1 v2 v3 w0 w1 w2 w3 [.val (.ref b7), .val (.int (0 : Int32)), .unset, .unset, .unset, .unset]) [])) target → Steps p.tables e below (T7.setTop (mkF m 124 (own_L p1 q2 q3 q4 q5 p6 (0 : Int32) (0 : Int32) v0 v1 v2 v3 w0 w1 w2 w3 [.val (.ref b7), .unset, .unset, .unset, .unset, .unset]) [])) target := by
    intro target kt
    · have hm : (0 : Int32) + (0 : Int32) = (0 : Int32) := by decide
      show Steps p.tables e below (T7.setTop (mkF m 124 (own_L p1 q2 q3 q4 q5 p6 (0 : Int32) (0 : Int32) v0 v1 v2 v3 w0 w1 w2 w3 [.val (.ref b7), .unset, .unset, .unset, .unset, .unset]) [])) _
      refine XS.iload X7.here hx rfl (hb hby at_124) rfl ?_
      show Steps p.tables e below (T7.setTop (mkF m 126 (own_L p1 q2 q3 q4 q5 p6 (0 : Int32) (0 : Int32) v0 v1 v2 v3 w0 w1 w2 w3 [.val (.ref b7), .unset, .unset, .unset, .unset, .unset]) [(.int (0 : Int32))])) _
      refine XS.iload X7.here hx rfl (hb hby at_126) rfl ?_
      show Steps p.tables e below (T7.setTop (mkF m 128 (own_L p1 q2 q3 q4 q5 p6 (0 : Int32) (0 : Int32) v0 v1 v2 v3 w0 w1 w2 w3 [.val (.ref b7), .unset, .unset, .unset, .unset, .unset]) [(.int (0 : Int32)), (.int (0 : Int32))])) _
      refine XS.iadd X7.here hx rfl (hb hby at_128) rfl ?_
      show Steps p.tables e below (T7.setTop (mkF m 129 (own_L p1 q2 q3 q4 q5 p6 (0 : Int32) (0 : Int32) v0 v1 v2 v3 w0 w1 w2 w3 [.val (.ref b7), .unset, .unset, .unset, .unset, .unset]) [(.int ((0 : Int32) + (0 : Int32)))])) _
      refine XS.istore X7.here hx rfl (hb hby at_129) rfl (l' := (own_L p1 q2 q3 q4 q5 p6 (0 : Int32) (0 : Int32) v0 v1 v2 v3 w0 w1 w2 w3 [.val (.ref b7), .val (.int ((0 : Int32) + (0 : Int32))), .unset, .unset, .unset, .unset])) rfl ?_
      exact castTop (by rw [hm]) kt
  obtain ⟨T8, h8, k8, X8, e8, E8, A8, I8, st8⟩ := newPE X7 hx hZ (hw _ (List.mem_of_getElem? (i := 1) rfl)) e7 (g := (mkF m 133 (own_L p1 q2 q3 q4 q5 p6 (0 : Int32) (0 : Int32) v0 v1 v2 v3 w0 w1 w2 w3 [.val (.ref b7), .val (.int (0 : Int32)), .unset, .unset, .unset, .unset]) [(.int (0 : Int32))])) rfl (hb hby at_133) rfl (by decide) (cap := 0) (by decide) (by decide) (by decide) (by decide) (ad := "[I") rfl
  obtain ⟨b8, g8⟩ : ∃ z, z = h7.size := ⟨_, rfl⟩      -- the fresh array's address
  have Z8 : n0 ≤ h8.size := Nat.le_trans Z7 E8.1
  rw [← g8] at A8 I8 st8
  have V_b8 := Arv.new A8 (by decide)      -- Arv Z h8 b8 k8 .int (0 : Int32) [] (its first value); a place must be in the list before it's written: Arv.pad with pad_rep
  have g_b8 : n0 ≤ b8 := Nat.le_trans (Nat.le_trans Z0 E7.1) (Nat.le_of_eq g8.symm)
  have sz_b8 : h0.size ≤ b8 := (Nat.le_trans K7.1 (Nat.le_of_eq g8.symm))
  have K8 : Keep h0 h8 [] := K7.ext E8
  obtain ⟨T9, h9, X9, e9, E9, A9, D9, -, st9⟩ := newO X8 hx hZ hown (hw _ (List.mem_of_getElem? (i := 2) rfl)) (hw _ (List.mem_of_getElem? (i := 3) rfl)) (hw _ (List.mem_of_getElem? (i := 4) rfl)) e8 (g := (mkF m 196 (own_L p1 q2 q3 q4 q5 p6 (0 : Int32) (0 : Int32) v0 v1 v2 v3 w0 w1 w2 w3 [.val (.ref b7), .val (.int (0 : Int32)), .val (.ref b8), .unset, .unset, .unset]) [])) rfl (hb hby at_196) (by decide) (by decide)
  obtain ⟨b9, g9⟩ : ∃ z, z = h8.size := ⟨_, rfl⟩      -- the fresh object's address
  have Z9 : n0 ≤ h9.size := Nat.le_trans Z8 E9.1
  rw [← g9] at A9 D9 st9      -- A9 : Exa Z h9 b9 "com/example/stagecraft/stagecraft/examples/GenericDotProduct"; E9 : Ext h8 h9 (carries every older fact: .ext E9)
  have F_fixed_b9 : Fld Z h9 b9 "com/example/stagecraft/stagecraft/examples/GenericDotProduct" "fixed" "[I" .null := D9 (Or.inr (hw _ (List.mem_of_getElem? (i := 21) rfl))) (ty := (.array .int)) (by decide)
  have E_b9 := A9
  have g_b9 : n0 ≤ b9 := Nat.le_trans (Nat.le_trans (Nat.le_trans Z0 E7.1) E8.1) (Nat.le_of_eq g9.symm)
  have sz_b9 : h0.size ≤ b9 := (Nat.le_trans K8.1 (Nat.le_of_eq g9.symm))
  have K9 : Keep h0 h9 [] := K8.ext E9
  have CV1_b7 := ((V_b7.ext E8).ext E9)
  have CE1_b7 := ((I7.ext E8).ext E9)
  have CV1_b8 := (V_b8.ext E9)
  have CE1_b8 := (I8.ext E9)
  have CE1_b9 := E_b9
  -- pc 202: the constructor of com/example/stagecraft/stagecraft/examples/GenericDotProduct by its contract rm1
  obtain ⟨_, _, ⟨T10, L10, k10, n10⟩, -, X10, ⟨Lc10, hQ10, l10, y10, z10⟩, st10⟩ := X9.specialBack hx (y := (⟨"com/example/stagecraft/stagecraft/examples/GenericDotProduct", "<init>", "([I)V"⟩ : MethodName)) rfl hown (mvT hZ (hw _ (List.mem_of_getElem? (i := 5) rfl))) (mvT hZ (hw _ (List.mem_of_getElem? (i := 6) rfl))) (mvT hZ (hw _ (List.mem_of_getElem? (i := 7) rfl))) (by decide) (backOf (W := 1) (rm1 l Z a0 hw [] b9 b7 k7 (0 : Int32) [] .null h9 n0 Z9 CV1_b7 (by decide) CE1_b7 E_b9 F_fixed_b9 g_b9) hZ (hw _ (List.mem_of_getElem? (i := 7) rfl)) (hw _ (List.mem_of_getElem? (i := 4) rfl)) (by decide) (by decide)) (g := (mkF m 202 (own_L p1 q2 q3 q4 q5 p6 (0 : Int32) (0 : Int32) v0 v1 v2 v3 w0 w1 w2 w3 [.val (.ref b7), .val (.int (0 : Int32)), .val (.ref b8), .unset, .unset, .unset]) [(.ref b7), (.ref b9), (.ref b9)])) rfl (by rw [hml]; rfl) (Steps.refl _) (a := b9) (argsL := [(.ref b7)]) (rest := [(.ref b9)]) (lenOf pd_0_0 rfl) rfl (by show 2 * 0 + _ ≤ _; exact Nat.le_of_eq rfl) (hb hby at_202) (fun _ _ => ⟨rfl, e9, (by decide : 3 + 1 ≤ _), (by decide : 1 + 4 ≤ _)⟩)
  dsimp only [Pt.U, Pt.locs, Pt.cells, Pt.slots] at X10 l10 y10 z10 st10 hQ10
  subst l10 y10 z10
  obtain ⟨rfl, N10q, K10q, E10x, t10, F10a, V10a⟩ := hQ10
  have Z10 : n0 ≤ T10.heap.size := Nat.le_trans Z9 K10q.1
  have N10 := Fr.app N0 N10q
  have CE2_b7 := (((I7.ext E8).ext E9).keep K10q)
  have CE2_b8 := ((I8.ext E9).keep K10q)
  have CE2_b9 := (E_b9.keep K10q)
  -- pc 211: com/example/stagecraft/stagecraft/examples/GenericDotProduct.apply by the contract of the body that the receiver's class selects, rm3
  obtain ⟨cq11, kq11, q11a, q11b, q11c⟩ := isOf hZ rfl (E_b9.keep K10q)
  obtain ⟨_, _, ⟨T11, L11, k11, n11⟩, -, X11, ⟨Lc11, hQ11, l11, y11, z11⟩, st11⟩ := X10.virtualBack hx (y := (⟨"com/example/stagecraft/stagecraft/examples/GenericDotProduct", "apply", "([I)I"⟩ : MethodName)) (z := (⟨"com/example/stagecraft/stagecraft/examples/GenericDotProduct", "apply", "([I)I"⟩ : MethodName)) hown (mvT hZ (hw _ (List.mem_of_getElem? (i := 22) rfl))) (mvT hZ (hw _ (List.mem_of_getElem? (i := 23) rfl))) (notFace_of_selects (args := #[]) (mvT hZ (hw _ (List.mem_of_getElem? (i := 25) rfl)))) (mvT hZ (hw _ (List.mem_of_getElem? (i := 25) rfl))) (mvT hZ (hw _ (List.mem_of_getElem? (i := 24) rfl))) (by decide) (backOf (W := 0) (rm3 l Z a0 hw [] b9 b8 t10 k7 k8 (0 : Int32) (0 : Int32) [] [] (fun j => [v0, v1, v2, v3].getD j 0) (fun j => [w0, w1, w2, w3].getD j 0) 0 T10.heap n0 Z10 (by decide) rfl (by decide) F10a V10a (CV1_b8.keep K10q (ninS (Nat.ne_of_lt (Nat.lt_of_lt_of_le V_b8.lt (Nat.le_of_eq g9.symm))) nin0)) (fun j hj => by rcases j with _ | _ | _ | _ | j <;> first | rfl | (exfalso; omega)) (fun j hj => by rcases j with _ | _ | _ | _ | j <;> first | rfl | (exfalso; omega))) hZ (hw _ (List.mem_of_getElem? (i := 26) rfl)) (hw _ (List.mem_of_getElem? (i := 4) rfl)) (by decide) (by decide)) q11a q11c (g := (mkF m 211 (own_L p1 q2 q3 q4 q5 p6 (0 : Int32) (0 : Int32) v0 v1 v2 v3 w0 w1 w2 w3 [.val (.ref b7), .val (.int (0 : Int32)), .val (.ref b8), .val (.ref b9), .unset, .unset]) [(.ref b8), (.ref b9)])) rfl (by rw [hml]; rfl) (Steps.refl _) (argsL := [(.ref b8)]) (rest := []) (lenOf pd_0_3 rfl) rfl (by show 2 * 0 + _ ≤ _; exact Nat.le_of_eq rfl) (hb hby at_211) (fun _ _ => ⟨rfl, rfl, (by decide : 4 + 0 ≤ _), (by decide : 5 + 0 ≤ _)⟩)
  dsimp only [Pt.U, Pt.locs, Pt.cells, Pt.slots] at X11 l11 y11 z11 st11 hQ11
  subst l11 y11 z11
  obtain ⟨rfl, N11q, E11q⟩ := hQ11
  have K11q : Keep T10.heap T11.heap [] := by rw [E11q]; exact Keep.refl _ _
  have Z11 : n0 ≤ T11.heap.size := Nat.le_trans Z10 K11q.1
  have N11 := Fr.app N10 N11q
  obtain ⟨fs, hr, hrun, hended, hW, hsame⟩ := X11.leave (v := some (.int (1 : Int32))) (fun h => by rw [Bd.returns] at h; cases h)
  refine ⟨_, _, pre0 _ ?_, hrun, hended, _, _, rfl, ?_, ⟨_, rfl⟩, hW, hsame.mono (by decide) (by decide)⟩
  -- 4. STEPS
  · show Steps p.tables e below (s₁.setTop (mkF m 0 #[.val (.int p1), .val (.long q2), .second, .val (.long q3), .second, .val (.long q4), .second, .val (.long q5), .second, .val (.int p6), .unset, .unset, .unset, .unset, .unset, .unset, .unset, .unset, .unset, .unset, .unset, .unset, .unset, .unset, .unset, .unset, .unset] [])) _
    refine jmp_0 _ ?_
    show Steps p.tables e below (s₁.setTop (mkF m 71 (own_L p1 q2 q3 q4 q5 p6 (0 : Int32) (0 : Int32) v0 v1 v2 v3 w0 w1 w2 w3 [.unset, .unset, .unset, .unset, .unset, .unset]) [])) _
    refine XS.iload X0.here hx rfl (hb hby at_71) rfl ?_
    show Steps p.tables e below (s₁.setTop (mkF m 73 (own_L p1 q2 q3 q4 q5 p6 (0 : Int32) (0 : Int32) v0 v1 v2 v3 w0 w1 w2 w3 [.unset, .unset, .unset, .unset, .unset, .unset]) [(.int (0 : Int32))])) _
    refine st7 _ ?_
    show Steps p.tables e below (T7.setTop (mkF m 75 (own_L p1 q2 q3 q4 q5 p6 (0 : Int32) (0 : Int32) v0 v1 v2 v3 w0 w1 w2 w3 [.unset, .unset, .unset, .unset, .unset, .unset]) [(.ref b7)])) _
    refine XS.astore X7.here hx rfl (hb hby at_75) rfl rfl (l' := (own_L p1 q2 q3 q4 q5 p6 (0 : Int32) (0 : Int32) v0 v1 v2 v3 w0 w1 w2 w3 [.val (.ref b7), .unset, .unset, .unset, .unset, .unset])) rfl ?_
    show Steps p.tables e below (T7.setTop (mkF m 77 (own_L p1 q2 q3 q4 q5 p6 (0 : Int32) (0 : Int32) v0 v1 v2 v3 w0 w1 w2 w3 [.val (.ref b7), .unset, .unset, .unset, .unset, .unset]) [])) _
    refine XS.iload X7.here hx rfl (hb hby at_77) rfl ?_
    show Steps p.tables e below (T7.setTop (mkF m 79 (own_L p1 q2 q3 q4 q5 p6 (0 : Int32) (0 : Int32) v0 v1 v2 v3 w0 w1 w2 w3 [.val (.ref b7), .unset, .unset, .unset, .unset, .unset]) [(.int (0 : Int32))])) _
    refine XS.ifYes X7.here hx rfl (pc0 := 79) (pc' := 88) rfl (hb hby at_79) rfl ((if0 _ _).trans (flt (by decide : ¬ ((0 : Int32) < (0 : Int32)))).2.2.2) (by decide) (by decide) ?_
    show Steps p.tables e below (T7.setTop (mkF m 88 (own_L p1 q2 q3 q4 q5 p6 (0 : Int32) (0 : Int32) v0 v1 v2 v3 w0 w1 w2 w3 [.val (.ref b7), .unset, .unset, .unset, .unset, .unset]) [])) _
    refine XS.iload X7.here hx rfl (hb hby at_88) rfl ?_
    show Steps p.tables e below (T7.setTop (mkF m 90 (own_L p1 q2 q3 q4 q5 p6 (0 : Int32) (0 : Int32) v0 v1 v2 v3 w0 w1 w2 w3 [.val (.ref b7), .unset, .unset, .unset, .unset, .unset]) [(.int (0 : Int32))])) _
    refine XS.iconst X7.here hx rfl (hb hby at_90) ?_
    show Steps p.tables e below (T7.setTop (mkF m 91 (own_L p1 q2 q3 q4 q5 p6 (0 : Int32) (0 : Int32) v0 v1 v2 v3 w0 w1 w2 w3 [.val (.ref b7), .unset, .unset, .unset, .unset, .unset]) [(.int (1 : Int32)), (.int (0 : Int32))])) _
    refine XS.icmpYes X7.here hx rfl (pc0 := 91) (pc' := 100) rfl (hb hby at_91) rfl (flt (by decide : ¬ ((1 : Int32) < (0 : Int32)))).2.2.2 (by decide) (by decide) ?_
    show Steps p.tables e below (T7.setTop (mkF m 100 (own_L p1 q2 q3 q4 q5 p6 (0 : Int32) (0 : Int32) v0 v1 v2 v3 w0 w1 w2 w3 [.val (.ref b7), .unset, .unset, .unset, .unset, .unset]) [])) _
    refine XS.iload X7.here hx rfl (hb hby at_100) rfl ?_
    show Steps p.tables e below (T7.setTop (mkF m 102 (own_L p1 q2 q3 q4 q5 p6 (0 : Int32) (0 : Int32) v0 v1 v2 v3 w0 w1 w2 w3 [.val (.ref b7), .unset, .unset, .unset, .unset, .unset]) [(.int (0 : Int32))])) _
    refine XS.iconst X7.here hx rfl (hb hby at_102) ?_
    show Steps p.tables e below (T7.setTop (mkF m 103 (own_L p1 q2 q3 q4 q5 p6 (0 : Int32) (0 : Int32) v0 v1 v2 v3 w0 w1 w2 w3 [.val (.ref b7), .unset, .unset, .unset, .unset, .unset]) [(.int (2 : Int32)), (.int (0 : Int32))])) _
    refine XS.icmpYes X7.here hx rfl (pc0 := 103) (pc' := 112) rfl (hb hby at_103) rfl (flt (by decide : ¬ ((2 : Int32) < (0 : Int32)))).2.2.2 (by decide) (by decide) ?_
    show Steps p.tables e below (T7.setTop (mkF m 112 (own_L p1 q2 q3 q4 q5 p6 (0 : Int32) (0 : Int32) v0 v1 v2 v3 w0 w1 w2 w3 [.val (.ref b7), .unset, .unset, .unset, .unset, .unset]) [])) _
    refine XS.iload X7.here hx rfl (hb hby at_112) rfl ?_
    show Steps p.tables e below (T7.setTop (mkF m 114 (own_L p1 q2 q3 q4 q5 p6 (0 : Int32) (0 : Int32) v0 v1 v2 v3 w0 w1 w2 w3 [.val (.ref b7), .unset, .unset, .unset, .unset, .unset]) [(.int (0 : Int32))])) _
    refine XS.iconst X7.here hx rfl (hb hby at_114) ?_
    show Steps p.tables e below (T7.setTop (mkF m 115 (own_L p1 q2 q3 q4 q5 p6 (0 : Int32) (0 : Int32) v0 v1 v2 v3 w0 w1 w2 w3 [.val (.ref b7), .unset, .unset, .unset, .unset, .unset]) [(.int (3 : Int32)), (.int (0 : Int32))])) _
    refine XS.icmpYes X7.here hx rfl (pc0 := 115) (pc' := 124) rfl (hb hby at_115) rfl (flt (by decide : ¬ ((3 : Int32) < (0 : Int32)))).2.2.2 (by decide) (by decide) ?_
    show Steps p.tables e below (T7.setTop (mkF m 124 (own_L p1 q2 q3 q4 q5 p6 (0 : Int32) (0 : Int32) v0 v1 v2 v3 w0 w1 w2 w3 [.val (.ref b7), .unset, .unset, .unset, .unset, .unset]) [])) _
    refine jmp_124 _ ?_
    show Steps p.tables e below (T7.setTop (mkF m 131 (own_L p1 q2 q3 q4 q5 p6 (0 : Int32) (0 : Int32) v0 v1 v2 v3 w0 w1 w2 w3 [.val (.ref b7), .val (.int (0 : Int32)), .unset, .unset, .unset, .unset]) [])) _
    refine XS.iload X7.here hx rfl (hb hby at_131) rfl ?_
    show Steps p.tables e below (T7.setTop (mkF m 133 (own_L p1 q2 q3 q4 q5 p6 (0 : Int32) (0 : Int32) v0 v1 v2 v3 w0 w1 w2 w3 [.val (.ref b7), .val (.int (0 : Int32)), .unset, .unset, .unset, .unset]) [(.int (0 : Int32))])) _
    refine st8 _ ?_
    show Steps p.tables e below (T8.setTop (mkF m 135 (own_L p1 q2 q3 q4 q5 p6 (0 : Int32) (0 : Int32) v0 v1 v2 v3 w0 w1 w2 w3 [.val (.ref b7), .val (.int (0 : Int32)), .unset, .unset, .unset, .unset]) [(.ref b8)])) _
    refine XS.astore X8.here hx rfl (hb hby at_135) rfl rfl (l' := (own_L p1 q2 q3 q4 q5 p6 (0 : Int32) (0 : Int32) v0 v1 v2 v3 w0 w1 w2 w3 [.val (.ref b7), .val (.int (0 : Int32)), .val (.ref b8), .unset, .unset, .unset])) rfl ?_
    show Steps p.tables e below (T8.setTop (mkF m 137 (own_L p1 q2 q3 q4 q5 p6 (0 : Int32) (0 : Int32) v0 v1 v2 v3 w0 w1 w2 w3 [.val (.ref b7), .val (.int (0 : Int32)), .val (.ref b8), .unset, .unset, .unset]) [])) _
    refine XS.iload X8.here hx rfl (hb hby at_137) rfl ?_
    show Steps p.tables e below (T8.setTop (mkF m 139 (own_L p1 q2 q3 q4 q5 p6 (0 : Int32) (0 : Int32) v0 v1 v2 v3 w0 w1 w2 w3 [.val (.ref b7), .val (.int (0 : Int32)), .val (.ref b8), .unset, .unset, .unset]) [(.int (0 : Int32))])) _
    refine XS.ifYes X8.here hx rfl (pc0 := 139) (pc' := 148) rfl (hb hby at_139) rfl ((if0 _ _).trans (flt (by decide : ¬ ((0 : Int32) < (0 : Int32)))).2.2.2) (by decide) (by decide) ?_
    show Steps p.tables e below (T8.setTop (mkF m 148 (own_L p1 q2 q3 q4 q5 p6 (0 : Int32) (0 : Int32) v0 v1 v2 v3 w0 w1 w2 w3 [.val (.ref b7), .val (.int (0 : Int32)), .val (.ref b8), .unset, .unset, .unset]) [])) _
    refine XS.iload X8.here hx rfl (hb hby at_148) rfl ?_
    show Steps p.tables e below (T8.setTop (mkF m 150 (own_L p1 q2 q3 q4 q5 p6 (0 : Int32) (0 : Int32) v0 v1 v2 v3 w0 w1 w2 w3 [.val (.ref b7), .val (.int (0 : Int32)), .val (.ref b8), .unset, .unset, .unset]) [(.int (0 : Int32))])) _
    refine XS.iconst X8.here hx rfl (hb hby at_150) ?_
    show Steps p.tables e below (T8.setTop (mkF m 151 (own_L p1 q2 q3 q4 q5 p6 (0 : Int32) (0 : Int32) v0 v1 v2 v3 w0 w1 w2 w3 [.val (.ref b7), .val (.int (0 : Int32)), .val (.ref b8), .unset, .unset, .unset]) [(.int (1 : Int32)), (.int (0 : Int32))])) _
    refine XS.icmpYes X8.here hx rfl (pc0 := 151) (pc' := 160) rfl (hb hby at_151) rfl (flt (by decide : ¬ ((1 : Int32) < (0 : Int32)))).2.2.2 (by decide) (by decide) ?_
    show Steps p.tables e below (T8.setTop (mkF m 160 (own_L p1 q2 q3 q4 q5 p6 (0 : Int32) (0 : Int32) v0 v1 v2 v3 w0 w1 w2 w3 [.val (.ref b7), .val (.int (0 : Int32)), .val (.ref b8), .unset, .unset, .unset]) [])) _
    refine XS.iload X8.here hx rfl (hb hby at_160) rfl ?_
    show Steps p.tables e below (T8.setTop (mkF m 162 (own_L p1 q2 q3 q4 q5 p6 (0 : Int32) (0 : Int32) v0 v1 v2 v3 w0 w1 w2 w3 [.val (.ref b7), .val (.int (0 : Int32)), .val (.ref b8), .unset, .unset, .unset]) [(.int (0 : Int32))])) _
    refine XS.iconst X8.here hx rfl (hb hby at_162) ?_
    show Steps p.tables e below (T8.setTop (mkF m 163 (own_L p1 q2 q3 q4 q5 p6 (0 : Int32) (0 : Int32) v0 v1 v2 v3 w0 w1 w2 w3 [.val (.ref b7), .val (.int (0 : Int32)), .val (.ref b8), .unset, .unset, .unset]) [(.int (2 : Int32)), (.int (0 : Int32))])) _
    refine XS.icmpYes X8.here hx rfl (pc0 := 163) (pc' := 172) rfl (hb hby at_163) rfl (flt (by decide : ¬ ((2 : Int32) < (0 : Int32)))).2.2.2 (by decide) (by decide) ?_
    show Steps p.tables e below (T8.setTop (mkF m 172 (own_L p1 q2 q3 q4 q5 p6 (0 : Int32) (0 : Int32) v0 v1 v2 v3 w0 w1 w2 w3 [.val (.ref b7), .val (.int (0 : Int32)), .val (.ref b8), .unset, .unset, .unset]) [])) _
    refine XS.iload X8.here hx rfl (hb hby at_172) rfl ?_
    show Steps p.tables e below (T8.setTop (mkF m 174 (own_L p1 q2 q3 q4 q5 p6 (0 : Int32) (0 : Int32) v0 v1 v2 v3 w0 w1 w2 w3 [.val (.ref b7), .val (.int (0 : Int32)), .val (.ref b8), .unset, .unset, .unset]) [(.int (0 : Int32))])) _
    refine XS.iconst X8.here hx rfl (hb hby at_174) ?_
    show Steps p.tables e below (T8.setTop (mkF m 175 (own_L p1 q2 q3 q4 q5 p6 (0 : Int32) (0 : Int32) v0 v1 v2 v3 w0 w1 w2 w3 [.val (.ref b7), .val (.int (0 : Int32)), .val (.ref b8), .unset, .unset, .unset]) [(.int (3 : Int32)), (.int (0 : Int32))])) _
    refine XS.icmpYes X8.here hx rfl (pc0 := 175) (pc' := 184) rfl (hb hby at_175) rfl (flt (by decide : ¬ ((3 : Int32) < (0 : Int32)))).2.2.2 (by decide) (by decide) ?_
    show Steps p.tables e below (T8.setTop (mkF m 184 (own_L p1 q2 q3 q4 q5 p6 (0 : Int32) (0 : Int32) v0 v1 v2 v3 w0 w1 w2 w3 [.val (.ref b7), .val (.int (0 : Int32)), .val (.ref b8), .unset, .unset, .unset]) [])) _
    refine XS.iload X8.here hx rfl (hb hby at_184) rfl ?_
    show Steps p.tables e below (T8.setTop (mkF m 186 (own_L p1 q2 q3 q4 q5 p6 (0 : Int32) (0 : Int32) v0 v1 v2 v3 w0 w1 w2 w3 [.val (.ref b7), .val (.int (0 : Int32)), .val (.ref b8), .unset, .unset, .unset]) [(.int (0 : Int32))])) _
    refine XS.iconst X8.here hx rfl (hb hby at_186) ?_
    show Steps p.tables e below (T8.setTop (mkF m 187 (own_L p1 q2 q3 q4 q5 p6 (0 : Int32) (0 : Int32) v0 v1 v2 v3 w0 w1 w2 w3 [.val (.ref b7), .val (.int (0 : Int32)), .val (.ref b8), .unset, .unset, .unset]) [(.int (4 : Int32)), (.int (0 : Int32))])) _
    refine XS.icmpYes X8.here hx rfl (pc0 := 187) (pc' := 196) rfl (hb hby at_187) rfl (flt (by decide : ¬ ((4 : Int32) < (0 : Int32)))).2.2.2 (by decide) (by decide) ?_
    show Steps p.tables e below (T8.setTop (mkF m 196 (own_L p1 q2 q3 q4 q5 p6 (0 : Int32) (0 : Int32) v0 v1 v2 v3 w0 w1 w2 w3 [.val (.ref b7), .val (.int (0 : Int32)), .val (.ref b8), .unset, .unset, .unset]) [])) _
    refine st9 _ ?_
    show Steps p.tables e below (T9.setTop (mkF m 199 (own_L p1 q2 q3 q4 q5 p6 (0 : Int32) (0 : Int32) v0 v1 v2 v3 w0 w1 w2 w3 [.val (.ref b7), .val (.int (0 : Int32)), .val (.ref b8), .unset, .unset, .unset]) [(.ref b9)])) _
    refine XS.dup X9.here hx rfl (hb hby at_199) rfl rfl ?_
    show Steps p.tables e below (T9.setTop (mkF m 200 (own_L p1 q2 q3 q4 q5 p6 (0 : Int32) (0 : Int32) v0 v1 v2 v3 w0 w1 w2 w3 [.val (.ref b7), .val (.int (0 : Int32)), .val (.ref b8), .unset, .unset, .unset]) [(.ref b9), (.ref b9)])) _
    refine XS.aload X9.here hx rfl (hb hby at_200) rfl rfl ?_
    show Steps p.tables e below (T9.setTop (mkF m 202 (own_L p1 q2 q3 q4 q5 p6 (0 : Int32) (0 : Int32) v0 v1 v2 v3 w0 w1 w2 w3 [.val (.ref b7), .val (.int (0 : Int32)), .val (.ref b8), .unset, .unset, .unset]) [(.ref b7), (.ref b9), (.ref b9)])) _
    refine st10.trans ?_
    show Steps p.tables e below (T10.setTop (mkF m 205 (own_L p1 q2 q3 q4 q5 p6 (0 : Int32) (0 : Int32) v0 v1 v2 v3 w0 w1 w2 w3 [.val (.ref b7), .val (.int (0 : Int32)), .val (.ref b8), .unset, .unset, .unset]) [(.ref b9)])) _
    refine XS.astore X10.here hx rfl (hb hby at_205) rfl rfl (l' := (own_L p1 q2 q3 q4 q5 p6 (0 : Int32) (0 : Int32) v0 v1 v2 v3 w0 w1 w2 w3 [.val (.ref b7), .val (.int (0 : Int32)), .val (.ref b8), .val (.ref b9), .unset, .unset])) rfl ?_
    show Steps p.tables e below (T10.setTop (mkF m 207 (own_L p1 q2 q3 q4 q5 p6 (0 : Int32) (0 : Int32) v0 v1 v2 v3 w0 w1 w2 w3 [.val (.ref b7), .val (.int (0 : Int32)), .val (.ref b8), .val (.ref b9), .unset, .unset]) [])) _
    refine XS.aload X10.here hx rfl (hb hby at_207) rfl rfl ?_
    show Steps p.tables e below (T10.setTop (mkF m 209 (own_L p1 q2 q3 q4 q5 p6 (0 : Int32) (0 : Int32) v0 v1 v2 v3 w0 w1 w2 w3 [.val (.ref b7), .val (.int (0 : Int32)), .val (.ref b8), .val (.ref b9), .unset, .unset]) [(.ref b9)])) _
    refine XS.aload X10.here hx rfl (hb hby at_209) rfl rfl ?_
    show Steps p.tables e below (T10.setTop (mkF m 211 (own_L p1 q2 q3 q4 q5 p6 (0 : Int32) (0 : Int32) v0 v1 v2 v3 w0 w1 w2 w3 [.val (.ref b7), .val (.int (0 : Int32)), .val (.ref b8), .val (.ref b9), .unset, .unset]) [(.ref b8), (.ref b9)])) _
    refine st11.trans ?_
    show Steps p.tables e below (T11.setTop (mkF m 214 (own_L p1 q2 q3 q4 q5 p6 (0 : Int32) (0 : Int32) v0 v1 v2 v3 w0 w1 w2 w3 [.val (.ref b7), .val (.int (0 : Int32)), .val (.ref b8), .val (.ref b9), .unset, .unset]) [(.int (own_acc (fun j => [v0, v1, v2, v3].getD j 0) (fun j => [w0, w1, w2, w3].getD j 0) 0 0 0))])) _
    refine XS.istore X11.here hx rfl (hb hby at_214) rfl (l' := (own_L p1 q2 q3 q4 q5 p6 (0 : Int32) (0 : Int32) v0 v1 v2 v3 w0 w1 w2 w3 [.val (.ref b7), .val (.int (0 : Int32)), .val (.ref b8), .val (.ref b9), .val (.int (own_acc (fun j => [v0, v1, v2, v3].getD j 0) (fun j => [w0, w1, w2, w3].getD j 0) 0 0 0)), .unset])) rfl ?_
    show Steps p.tables e below (T11.setTop (mkF m 216 (own_L p1 q2 q3 q4 q5 p6 (0 : Int32) (0 : Int32) v0 v1 v2 v3 w0 w1 w2 w3 [.val (.ref b7), .val (.int (0 : Int32)), .val (.ref b8), .val (.ref b9), .val (.int (own_acc (fun j => [v0, v1, v2, v3].getD j 0) (fun j => [w0, w1, w2, w3].getD j 0) 0 0 0)), .unset]) [])) _
    refine XS.iconst X11.here hx rfl (hb hby at_216) ?_
    show Steps p.tables e below (T11.setTop (mkF m 217 (own_L p1 q2 q3 q4 q5 p6 (0 : Int32) (0 : Int32) v0 v1 v2 v3 w0 w1 w2 w3 [.val (.ref b7), .val (.int (0 : Int32)), .val (.ref b8), .val (.ref b9), .val (.int (own_acc (fun j => [v0, v1, v2, v3].getD j 0) (fun j => [w0, w1, w2, w3].getD j 0) 0 0 0)), .unset]) [(.int (0 : Int32))])) _
    refine XS.istore X11.here hx rfl (hb hby at_217) rfl (l' := (own_L p1 q2 q3 q4 q5 p6 (0 : Int32) (0 : Int32) v0 v1 v2 v3 w0 w1 w2 w3 [.val (.ref b7), .val (.int (0 : Int32)), .val (.ref b8), .val (.ref b9), .val (.int (own_acc (fun j => [v0, v1, v2, v3].getD j 0) (fun j => [w0, w1, w2, w3].getD j 0) 0 0 0)), .val (.int (0 : Int32))])) rfl ?_
    show Steps p.tables e below (T11.setTop (mkF m 219 (own_L p1 q2 q3 q4 q5 p6 (0 : Int32) (0 : Int32) v0 v1 v2 v3 w0 w1 w2 w3 [.val (.ref b7), .val (.int (0 : Int32)), .val (.ref b8), .val (.ref b9), .val (.int (own_acc (fun j => [v0, v1, v2, v3].getD j 0) (fun j => [w0, w1, w2, w3].getD j 0) 0 0 0)), .val (.int (0 : Int32))]) [])) _
    refine XS.iload X11.here hx rfl (hb hby at_219) rfl ?_
    show Steps p.tables e below (T11.setTop (mkF m 221 (own_L p1 q2 q3 q4 q5 p6 (0 : Int32) (0 : Int32) v0 v1 v2 v3 w0 w1 w2 w3 [.val (.ref b7), .val (.int (0 : Int32)), .val (.ref b8), .val (.ref b9), .val (.int (own_acc (fun j => [v0, v1, v2, v3].getD j 0) (fun j => [w0, w1, w2, w3].getD j 0) 0 0 0)), .val (.int (0 : Int32))]) [(.int (0 : Int32))])) _
    refine XS.ifYes X11.here hx rfl (pc0 := 221) (pc' := 234) rfl (hb hby at_221) rfl ((if0 _ _).trans (flt (by decide : ¬ ((0 : Int32) < (0 : Int32)))).2.2.2) (by decide) (by decide) ?_
    show Steps p.tables e below (T11.setTop (mkF m 234 (own_L p1 q2 q3 q4 q5 p6 (0 : Int32) (0 : Int32) v0 v1 v2 v3 w0 w1 w2 w3 [.val (.ref b7), .val (.int (0 : Int32)), .val (.ref b8), .val (.ref b9), .val (.int (own_acc (fun j => [v0, v1, v2, v3].getD j 0) (fun j => [w0, w1, w2, w3].getD j 0) 0 0 0)), .val (.int (0 : Int32))]) [])) _
    refine XS.iload X11.here hx rfl (hb hby at_234) rfl ?_
    show Steps p.tables e below (T11.setTop (mkF m 236 (own_L p1 q2 q3 q4 q5 p6 (0 : Int32) (0 : Int32) v0 v1 v2 v3 w0 w1 w2 w3 [.val (.ref b7), .val (.int (0 : Int32)), .val (.ref b8), .val (.ref b9), .val (.int (own_acc (fun j => [v0, v1, v2, v3].getD j 0) (fun j => [w0, w1, w2, w3].getD j 0) 0 0 0)), .val (.int (0 : Int32))]) [(.int (0 : Int32))])) _
    refine XS.iconst X11.here hx rfl (hb hby at_236) ?_
    show Steps p.tables e below (T11.setTop (mkF m 237 (own_L p1 q2 q3 q4 q5 p6 (0 : Int32) (0 : Int32) v0 v1 v2 v3 w0 w1 w2 w3 [.val (.ref b7), .val (.int (0 : Int32)), .val (.ref b8), .val (.ref b9), .val (.int (own_acc (fun j => [v0, v1, v2, v3].getD j 0) (fun j => [w0, w1, w2, w3].getD j 0) 0 0 0)), .val (.int (0 : Int32))]) [(.int (1 : Int32)), (.int (0 : Int32))])) _
    refine XS.icmpYes X11.here hx rfl (pc0 := 237) (pc' := 250) rfl (hb hby at_237) rfl (flt (by decide : ¬ ((1 : Int32) < (0 : Int32)))).2.2.2 (by decide) (by decide) ?_
    show Steps p.tables e below (T11.setTop (mkF m 250 (own_L p1 q2 q3 q4 q5 p6 (0 : Int32) (0 : Int32) v0 v1 v2 v3 w0 w1 w2 w3 [.val (.ref b7), .val (.int (0 : Int32)), .val (.ref b8), .val (.ref b9), .val (.int (own_acc (fun j => [v0, v1, v2, v3].getD j 0) (fun j => [w0, w1, w2, w3].getD j 0) 0 0 0)), .val (.int (0 : Int32))]) [])) _
    refine XS.iload X11.here hx rfl (hb hby at_250) rfl ?_
    show Steps p.tables e below (T11.setTop (mkF m 252 (own_L p1 q2 q3 q4 q5 p6 (0 : Int32) (0 : Int32) v0 v1 v2 v3 w0 w1 w2 w3 [.val (.ref b7), .val (.int (0 : Int32)), .val (.ref b8), .val (.ref b9), .val (.int (own_acc (fun j => [v0, v1, v2, v3].getD j 0) (fun j => [w0, w1, w2, w3].getD j 0) 0 0 0)), .val (.int (0 : Int32))]) [(.int (0 : Int32))])) _
    refine XS.iconst X11.here hx rfl (hb hby at_252) ?_
    show Steps p.tables e below (T11.setTop (mkF m 253 (own_L p1 q2 q3 q4 q5 p6 (0 : Int32) (0 : Int32) v0 v1 v2 v3 w0 w1 w2 w3 [.val (.ref b7), .val (.int (0 : Int32)), .val (.ref b8), .val (.ref b9), .val (.int (own_acc (fun j => [v0, v1, v2, v3].getD j 0) (fun j => [w0, w1, w2, w3].getD j 0) 0 0 0)), .val (.int (0 : Int32))]) [(.int (2 : Int32)), (.int (0 : Int32))])) _
    refine XS.icmpYes X11.here hx rfl (pc0 := 253) (pc' := 266) rfl (hb hby at_253) rfl (flt (by decide : ¬ ((2 : Int32) < (0 : Int32)))).2.2.2 (by decide) (by decide) ?_
    show Steps p.tables e below (T11.setTop (mkF m 266 (own_L p1 q2 q3 q4 q5 p6 (0 : Int32) (0 : Int32) v0 v1 v2 v3 w0 w1 w2 w3 [.val (.ref b7), .val (.int (0 : Int32)), .val (.ref b8), .val (.ref b9), .val (.int (own_acc (fun j => [v0, v1, v2, v3].getD j 0) (fun j => [w0, w1, w2, w3].getD j 0) 0 0 0)), .val (.int (0 : Int32))]) [])) _
    refine XS.iload X11.here hx rfl (hb hby at_266) rfl ?_
    show Steps p.tables e below (T11.setTop (mkF m 268 (own_L p1 q2 q3 q4 q5 p6 (0 : Int32) (0 : Int32) v0 v1 v2 v3 w0 w1 w2 w3 [.val (.ref b7), .val (.int (0 : Int32)), .val (.ref b8), .val (.ref b9), .val (.int (own_acc (fun j => [v0, v1, v2, v3].getD j 0) (fun j => [w0, w1, w2, w3].getD j 0) 0 0 0)), .val (.int (0 : Int32))]) [(.int (0 : Int32))])) _
    refine XS.iconst X11.here hx rfl (hb hby at_268) ?_
    show Steps p.tables e below (T11.setTop (mkF m 269 (own_L p1 q2 q3 q4 q5 p6 (0 : Int32) (0 : Int32) v0 v1 v2 v3 w0 w1 w2 w3 [.val (.ref b7), .val (.int (0 : Int32)), .val (.ref b8), .val (.ref b9), .val (.int (own_acc (fun j => [v0, v1, v2, v3].getD j 0) (fun j => [w0, w1, w2, w3].getD j 0) 0 0 0)), .val (.int (0 : Int32))]) [(.int (3 : Int32)), (.int (0 : Int32))])) _
    refine XS.icmpYes X11.here hx rfl (pc0 := 269) (pc' := 282) rfl (hb hby at_269) rfl (flt (by decide : ¬ ((3 : Int32) < (0 : Int32)))).2.2.2 (by decide) (by decide) ?_
    show Steps p.tables e below (T11.setTop (mkF m 282 (own_L p1 q2 q3 q4 q5 p6 (0 : Int32) (0 : Int32) v0 v1 v2 v3 w0 w1 w2 w3 [.val (.ref b7), .val (.int (0 : Int32)), .val (.ref b8), .val (.ref b9), .val (.int (own_acc (fun j => [v0, v1, v2, v3].getD j 0) (fun j => [w0, w1, w2, w3].getD j 0) 0 0 0)), .val (.int (0 : Int32))]) [])) _
    refine XS.iload X11.here hx rfl (hb hby at_282) rfl ?_
    show Steps p.tables e below (T11.setTop (mkF m 284 (own_L p1 q2 q3 q4 q5 p6 (0 : Int32) (0 : Int32) v0 v1 v2 v3 w0 w1 w2 w3 [.val (.ref b7), .val (.int (0 : Int32)), .val (.ref b8), .val (.ref b9), .val (.int (own_acc (fun j => [v0, v1, v2, v3].getD j 0) (fun j => [w0, w1, w2, w3].getD j 0) 0 0 0)), .val (.int (0 : Int32))]) [(.int (own_acc (fun j => [v0, v1, v2, v3].getD j 0) (fun j => [w0, w1, w2, w3].getD j 0) 0 0 0))])) _
    refine XS.iload X11.here hx rfl (hb hby at_284) rfl ?_
    show Steps p.tables e below (T11.setTop (mkF m 286 (own_L p1 q2 q3 q4 q5 p6 (0 : Int32) (0 : Int32) v0 v1 v2 v3 w0 w1 w2 w3 [.val (.ref b7), .val (.int (0 : Int32)), .val (.ref b8), .val (.ref b9), .val (.int (own_acc (fun j => [v0, v1, v2, v3].getD j 0) (fun j => [w0, w1, w2, w3].getD j 0) 0 0 0)), .val (.int (0 : Int32))]) [(.int (0 : Int32)), (.int (own_acc (fun j => [v0, v1, v2, v3].getD j 0) (fun j => [w0, w1, w2, w3].getD j 0) 0 0 0))])) _
    refine XS.icmpNo X11.here hx rfl (hb hby at_286) rfl (teq (rfl : (own_acc (fun j => [v0, v1, v2, v3].getD j 0) (fun j => [w0, w1, w2, w3].getD j 0) 0 0 0) = (0 : Int32))).2 ?_
    show Steps p.tables e below (T11.setTop (mkF m 289 (own_L p1 q2 q3 q4 q5 p6 (0 : Int32) (0 : Int32) v0 v1 v2 v3 w0 w1 w2 w3 [.val (.ref b7), .val (.int (0 : Int32)), .val (.ref b8), .val (.ref b9), .val (.int (own_acc (fun j => [v0, v1, v2, v3].getD j 0) (fun j => [w0, w1, w2, w3].getD j 0) 0 0 0)), .val (.int (0 : Int32))]) [])) _
    refine XS.iconst X11.here hx rfl (hb hby at_289) ?_
    show Steps p.tables e below (T11.setTop (mkF m 290 (own_L p1 q2 q3 q4 q5 p6 (0 : Int32) (0 : Int32) v0 v1 v2 v3 w0 w1 w2 w3 [.val (.ref b7), .val (.int (0 : Int32)), .val (.ref b8), .val (.ref b9), .val (.int (own_acc (fun j => [v0, v1, v2, v3].getD j 0) (fun j => [w0, w1, w2, w3].getD j 0) 0 0 0)), .val (.int (0 : Int32))]) [(.int (1 : Int32))])) _
    refine XS.goto X11.here hx rfl (pc0 := 290) (pc' := 294) rfl (hb hby at_290) (by decide) (by decide) ?_
    show Steps p.tables e below (T11.setTop (mkF m 294 (own_L p1 q2 q3 q4 q5 p6 (0 : Int32) (0 : Int32) v0 v1 v2 v3 w0 w1 w2 w3 [.val (.ref b7), .val (.int (0 : Int32)), .val (.ref b8), .val (.ref b9), .val (.int (own_acc (fun j => [v0, v1, v2, v3].getD j 0) (fun j => [w0, w1, w2, w3].getD j 0) 0 0 0)), .val (.int (0 : Int32))]) [(.int (1 : Int32))])) _
    exact retN X11 hx (t := .boolean) Bd.returns (by simp) (hb hby at_294) hr
  · show Q0 Z p1 q2 q3 q4 q5 p6 h0 n0 _ T11.heap _
    exact ⟨rfl, N11⟩
set_option maxRecDepth 65536 in
set_option maxHeartbeats 40000000 in
theorem rm0_0_1 (l : Launch) (Z : State) (a0 : Array Value) (hw : ∀ d ∈ tables_1, d.before a0 Z = true) (ws : List Jvm.Cond) (p1 : Int32) (q2 : Int64) (q3 : Int64) (q4 : Int64) (q5 : Int64) (p6 : Int32) (h0 : Heap) (n0 : Nat) (Z0 : n0 ≤ h0.size) (v0 v1 v2 v3 w0 w1 w2 w3 : Int32) (h_v0 : (q2.toInt32) = v0) (h_v1 : (((q2.toUInt64 >>> ((32 : Int32) &&& 0x3f).toInt64.toUInt64).toInt64).toInt32) = v1) (h_v2 : (q3.toInt32) = v2) (h_v3 : (((q3.toUInt64 >>> ((32 : Int32) &&& 0x3f).toInt64.toUInt64).toInt64).toInt32) = v3) (h_w0 : (q4.toInt32) = w0) (h_w1 : (((q4.toUInt64 >>> ((32 : Int32) &&& 0x3f).toInt64.toUInt64).toInt64).toInt32) = w1) (h_w2 : (q5.toInt32) = w2) (h_w3 : (((q5.toUInt64 >>> ((32 : Int32) &&& 0x3f).toInt64.toUInt64).toInt64).toInt32) = w3) (hk : ((p1 &&& (2147483647 : Int32)) % (5 : Int32)) = (0 : Int32)) (hc9 : p1 < (0 : Int32)) :
    MetFree l x (head1 (Jvm.Cond.code x code maxLocals ret :: ws) room_1) (fun a U => a = #[(.int p1), (.long q2), (.long q3), (.long q4), (.long q5), (.int p6)] ∧ Z.Warmed39 U.vm ∧ U.heap = h0) (fun _ _ _ _ _ => True) (fun _ U o U' => ∃ v L, o = .returned v ∧ Q0 Z p1 q2 q3 q4 q5 p6 h0 n0 v U'.heap L ∧ FrameEnd U o U' L room_1.cells room_1.slots) := by
  refine MetFree.of_bodySF (plainFor_of_name pn_0) hisR ?_
  intro p e s m args below meth c s₁ Bd hml0 hP hK
  obtain ⟨rfl, hZ, hh⟩ := hP
  have hx := Bd.exec
  have hby := Bd.bytes
  have hml : c.maxLocals = 27 := hml0
  have hown : s.vm.findClass "com/example/stagecraft/stagecraft/examples/GenericDotProductApplyPinLaw" = some m.cls := findClass_of_methodNamed Bd.named
  have hnm := (name_of_methodNamed Bd.named Bd.method).1
  have X0 : Stand p l e room_1 s m #[(.int p1), (.long q2), (.long q3), (.long q4), (.long q5), (.int p6)] below meth c s₁ [] 0 0 := Stand.of_body Bd
  have e0 : s₁.heap = h0 := by rw [← hh, Bd.state]; rfl
  have N0 := Fr.nil n0
  have pre0 : ∀ t, Steps p.tables e below (s₁.setTop (mkF m 0 #[.val (.int p1), .val (.long q2), .second, .val (.long q3), .second, .val (.long q4), .second, .val (.long q5), .second, .val (.int p6), .unset, .unset, .unset, .unset, .unset, .unset, .unset, .unset, .unset, .unset, .unset, .unset, .unset, .unset, .unset, .unset, .unset] [])) t → Steps p.tables e below (s₁.setTop (entryFrame m #[(.int p1), (.long q2), (.long q3), (.long q4), (.long q5), (.int p6)] maxLocals)) t := fun t k => castTop (ef_0 m p1 q2 q3 q4 q5 p6) k
  -- 3. LAWS
  have jmp_0 : ∀ target, Steps p.tables e below (s₁.setTop (mkF m 71 (own_L p1 q2 q3 q4 q5 p6 (0 : Int32) (1 : Int32) v0 v1 v2 v3 w0 w1 w2 w3 [.unset, .unset, .unset, .unset, .unset, .unset]) [])) target → Steps p.tables e below (s₁.setTop (mkF m 0 #[.val (.int p1), .val (.long q2), .second, .val (.long q3), .second, .val (.long q4), .second, .val (.long q5), .second, .val (.int p6), .unset, .unset, .unset, .unset, .unset, .unset, .unset, .unset, .unset, .unset, .unset, .unset, .unset, .unset, .unset, .unset, .unset] [])) target := fun target kt => own_j1 p1 q2 q3 q4 q5 p6 X0 hx hZ hw hby hown hc9 target (castTop (by rw [hk, h_v0, h_v1, h_v2, h_v3, h_w0, h_w1, h_w2, h_w3]) kt)
  obtain ⟨T7, h7, k7, X7, e7, E7, A7, I7, st7⟩ := newPE X0 hx hZ (hw _ (List.mem_of_getElem? (i := 1) rfl)) e0 (g := (mkF m 73 (own_L p1 q2 q3 q4 q5 p6 (0 : Int32) (1 : Int32) v0 v1 v2 v3 w0 w1 w2 w3 [.unset, .unset, .unset, .unset, .unset, .unset]) [(.int (0 : Int32))])) rfl (hb hby at_73) rfl (by decide) (cap := 0) (by decide) (by decide) (by decide) (by decide) (ad := "[I") rfl
  obtain ⟨b7, g7⟩ : ∃ z, z = h0.size := ⟨_, rfl⟩      -- the fresh array's address
  have Z7 : n0 ≤ h7.size := Nat.le_trans Z0 E7.1
  rw [← g7] at A7 I7 st7
  have V_b7 := Arv.new A7 (by decide)      -- Arv Z h7 b7 k7 .int (0 : Int32) [] (its first value); a place must be in the list before it's written: Arv.pad with pad_rep
  have g_b7 : n0 ≤ b7 := Nat.le_trans Z0 (Nat.le_of_eq g7.symm)
  have sz_b7 : h0.size ≤ b7 := (Nat.le_trans (Keep.refl h0 []).1 (Nat.le_of_eq g7.symm))
  have K7 : Keep h0 h7 [] := (Keep.refl h0 []).ext E7
  have jmp_124 : ∀ target, Steps p.tables e below (T7.setTop (mkF m 131 (own_L p1 q2 q3 q4 q5 p6 (0 : Int32) (1 : Int32) v0 v1 v2 v3 w0 w1 w2 w3 [.val (.ref b7), .val (.int (1 : Int32)), .unset, .unset, .unset, .unset]) [])) target → Steps p.tables e below (T7.setTop (mkF m 124 (own_L p1 q2 q3 q4 q5 p6 (0 : Int32) (1 : Int32) v0 v1 v2 v3 w0 w1 w2 w3 [.val (.ref b7), .unset, .unset, .unset, .unset, .unset]) [])) target := by
    intro target kt
    · have hm : (0 : Int32) + (1 : Int32) = (1 : Int32) := by decide
      show Steps p.tables e below (T7.setTop (mkF m 124 (own_L p1 q2 q3 q4 q5 p6 (0 : Int32) (1 : Int32) v0 v1 v2 v3 w0 w1 w2 w3 [.val (.ref b7), .unset, .unset, .unset, .unset, .unset]) [])) _
      refine XS.iload X7.here hx rfl (hb hby at_124) rfl ?_
      show Steps p.tables e below (T7.setTop (mkF m 126 (own_L p1 q2 q3 q4 q5 p6 (0 : Int32) (1 : Int32) v0 v1 v2 v3 w0 w1 w2 w3 [.val (.ref b7), .unset, .unset, .unset, .unset, .unset]) [(.int (0 : Int32))])) _
      refine XS.iload X7.here hx rfl (hb hby at_126) rfl ?_
      show Steps p.tables e below (T7.setTop (mkF m 128 (own_L p1 q2 q3 q4 q5 p6 (0 : Int32) (1 : Int32) v0 v1 v2 v3 w0 w1 w2 w3 [.val (.ref b7), .unset, .unset, .unset, .unset, .unset]) [(.int (1 : Int32)), (.int (0 : Int32))])) _
      refine XS.iadd X7.here hx rfl (hb hby at_128) rfl ?_
      show Steps p.tables e below (T7.setTop (mkF m 129 (own_L p1 q2 q3 q4 q5 p6 (0 : Int32) (1 : Int32) v0 v1 v2 v3 w0 w1 w2 w3 [.val (.ref b7), .unset, .unset, .unset, .unset, .unset]) [(.int ((0 : Int32) + (1 : Int32)))])) _
      refine XS.istore X7.here hx rfl (hb hby at_129) rfl (l' := (own_L p1 q2 q3 q4 q5 p6 (0 : Int32) (1 : Int32) v0 v1 v2 v3 w0 w1 w2 w3 [.val (.ref b7), .val (.int ((0 : Int32) + (1 : Int32))), .unset, .unset, .unset, .unset])) rfl ?_
      exact castTop (by rw [hm]) kt
  obtain ⟨T8, h8, k8, X8, e8, E8, A8, I8, st8⟩ := newPE X7 hx hZ (hw _ (List.mem_of_getElem? (i := 1) rfl)) e7 (g := (mkF m 133 (own_L p1 q2 q3 q4 q5 p6 (0 : Int32) (1 : Int32) v0 v1 v2 v3 w0 w1 w2 w3 [.val (.ref b7), .val (.int (1 : Int32)), .unset, .unset, .unset, .unset]) [(.int (1 : Int32))])) rfl (hb hby at_133) rfl (by decide) (cap := 1) (by decide) (by decide) (by decide) (by decide) (ad := "[I") rfl
  obtain ⟨b8, g8⟩ : ∃ z, z = h7.size := ⟨_, rfl⟩      -- the fresh array's address
  have Z8 : n0 ≤ h8.size := Nat.le_trans Z7 E8.1
  rw [← g8] at A8 I8 st8
  have V_b8 : Arv Z h8 b8 k8 .int (1 : Int32) [(.int (0 : Int32))] (.int (0 : Int32)) := (Arv.new A8 (by decide)).pad (pad_rep [] (.int (0 : Int32)) 1)
  have g_b8 : n0 ≤ b8 := Nat.le_trans (Nat.le_trans Z0 E7.1) (Nat.le_of_eq g8.symm)
  have sz_b8 : h0.size ≤ b8 := (Nat.le_trans K7.1 (Nat.le_of_eq g8.symm))
  have K8 : Keep h0 h8 [] := K7.ext E8
  obtain ⟨cl_b8_147, Ar_b8, q_b8, S_b8, N_b8, H_b8, G_b8⟩ := V_b8      -- open the array's fact as it stands now (its cell, kind, length, elements)
  have hin147 : ¬ ((0 : Int32) < 0 ∨ cl_b8_147.slots.size ≤ ((0 : Int32)).toNatClampNeg) := inb_of S_b8 ⟨by decide, by decide⟩
  obtain ⟨T9, h9, X9, e9, W9, st9⟩ := stI X8 hx hZ e8 Ar_b8 (j := (0 : Int32)) hin147 (g := (mkF m 147 (own_L p1 q2 q3 q4 q5 p6 (0 : Int32) (1 : Int32) v0 v1 v2 v3 w0 w1 w2 w3 [.val (.ref b7), .val (.int (1 : Int32)), .val (.ref b8), .unset, .unset, .unset]) [(.int w0), (.int (0 : Int32)), (.ref b8)])) rfl rfl (hb hby at_147)
  have Z9 : n0 ≤ h9.size := Nat.le_trans Z8 (Keep.of_wr W9).1
  have V_b8_9 := Arv.set Ar_b8 q_b8 S_b8 N_b8 H_b8 G_b8 rfl W9 0 rfl (Nat.le_of_ble_eq_true rfl)      -- the array as it stands now (the place must lie among its first values: Arv.pad with pad_rep lengthens them)
  have K9 : Keep h0 h9 [] := K8.wr W9 (Or.inr sz_b8)
  have N9 := Fr.snoc X9 N0 g_b8
  obtain ⟨T10, h10, X10, e10, E10, A10, D10, -, st10⟩ := newO X9 hx hZ hown (hw _ (List.mem_of_getElem? (i := 2) rfl)) (hw _ (List.mem_of_getElem? (i := 3) rfl)) (hw _ (List.mem_of_getElem? (i := 4) rfl)) e9 (g := (mkF m 196 (own_L p1 q2 q3 q4 q5 p6 (0 : Int32) (1 : Int32) v0 v1 v2 v3 w0 w1 w2 w3 [.val (.ref b7), .val (.int (1 : Int32)), .val (.ref b8), .unset, .unset, .unset]) [])) rfl (hb hby at_196) (by decide) (by decide)
  obtain ⟨b10, g10⟩ : ∃ z, z = h9.size := ⟨_, rfl⟩      -- the fresh object's address
  have Z10 : n0 ≤ h10.size := Nat.le_trans Z9 E10.1
  rw [← g10] at A10 D10 st10      -- A10 : Exa Z h10 b10 "com/example/stagecraft/stagecraft/examples/GenericDotProduct"; E10 : Ext h9 h10 (carries every older fact: .ext E10)
  have F_fixed_b10 : Fld Z h10 b10 "com/example/stagecraft/stagecraft/examples/GenericDotProduct" "fixed" "[I" .null := D10 (Or.inr (hw _ (List.mem_of_getElem? (i := 21) rfl))) (ty := (.array .int)) (by decide)
  have E_b10 := A10
  have g_b10 : n0 ≤ b10 := Nat.le_trans (Nat.le_trans (Nat.le_trans (Nat.le_trans Z0 E7.1) E8.1) (Keep.of_wr W9).1) (Nat.le_of_eq g10.symm)
  have sz_b10 : h0.size ≤ b10 := (Nat.le_trans K9.1 (Nat.le_of_eq g10.symm))
  have K10 : Keep h0 h10 [] := K9.ext E10
  have CV1_b7 := (((V_b7.ext E8).other W9 (Nat.ne_of_lt (Nat.lt_of_lt_of_le V_b7.lt (Nat.le_of_eq g8.symm)))).ext E10)
  have CE1_b7 := (((I7.ext E8).wr W9).ext E10)
  have CV1_b8 := (V_b8_9.ext E10)
  have CE1_b8 := ((I8.wr W9).ext E10)
  have CE1_b10 := E_b10
  -- pc 202: the constructor of com/example/stagecraft/stagecraft/examples/GenericDotProduct by its contract rm1
  obtain ⟨_, _, ⟨T11, L11, k11, n11⟩, -, X11, ⟨Lc11, hQ11, l11, y11, z11⟩, st11⟩ := X10.specialBack hx (y := (⟨"com/example/stagecraft/stagecraft/examples/GenericDotProduct", "<init>", "([I)V"⟩ : MethodName)) rfl hown (mvT hZ (hw _ (List.mem_of_getElem? (i := 5) rfl))) (mvT hZ (hw _ (List.mem_of_getElem? (i := 6) rfl))) (mvT hZ (hw _ (List.mem_of_getElem? (i := 7) rfl))) (by decide) (backOf (W := 1) (rm1 l Z a0 hw [] b10 b7 k7 (0 : Int32) [] .null h10 n0 Z10 CV1_b7 (by decide) CE1_b7 E_b10 F_fixed_b10 g_b10) hZ (hw _ (List.mem_of_getElem? (i := 7) rfl)) (hw _ (List.mem_of_getElem? (i := 4) rfl)) (by decide) (by decide)) (g := (mkF m 202 (own_L p1 q2 q3 q4 q5 p6 (0 : Int32) (1 : Int32) v0 v1 v2 v3 w0 w1 w2 w3 [.val (.ref b7), .val (.int (1 : Int32)), .val (.ref b8), .unset, .unset, .unset]) [(.ref b7), (.ref b10), (.ref b10)])) rfl (by rw [hml]; rfl) (Steps.refl _) (a := b10) (argsL := [(.ref b7)]) (rest := [(.ref b10)]) (lenOf pd_0_0 rfl) rfl (by show 2 * 0 + _ ≤ _; exact Nat.le_of_eq rfl) (hb hby at_202) (fun _ _ => ⟨rfl, e10, (by decide : 3 + 1 ≤ _), (by decide : 2 + 4 ≤ _)⟩)
  dsimp only [Pt.U, Pt.locs, Pt.cells, Pt.slots] at X11 l11 y11 z11 st11 hQ11
  subst l11 y11 z11
  obtain ⟨rfl, N11q, K11q, E11x, t11, F11a, V11a⟩ := hQ11
  have Z11 : n0 ≤ T11.heap.size := Nat.le_trans Z10 K11q.1
  have N11 := Fr.app N9 N11q
  have CE2_b7 := ((((I7.ext E8).wr W9).ext E10).keep K11q)
  have CE2_b8 := (((I8.wr W9).ext E10).keep K11q)
  have CE2_b10 := (E_b10.keep K11q)
  -- pc 211: com/example/stagecraft/stagecraft/examples/GenericDotProduct.apply by the contract of the body that the receiver's class selects, rm3
  obtain ⟨cq12, kq12, q12a, q12b, q12c⟩ := isOf hZ rfl (E_b10.keep K11q)
  obtain ⟨_, _, ⟨T12, L12, k12, n12⟩, -, X12, ⟨Lc12, hQ12, l12, y12, z12⟩, st12⟩ := X11.virtualBack hx (y := (⟨"com/example/stagecraft/stagecraft/examples/GenericDotProduct", "apply", "([I)I"⟩ : MethodName)) (z := (⟨"com/example/stagecraft/stagecraft/examples/GenericDotProduct", "apply", "([I)I"⟩ : MethodName)) hown (mvT hZ (hw _ (List.mem_of_getElem? (i := 22) rfl))) (mvT hZ (hw _ (List.mem_of_getElem? (i := 23) rfl))) (notFace_of_selects (args := #[]) (mvT hZ (hw _ (List.mem_of_getElem? (i := 25) rfl)))) (mvT hZ (hw _ (List.mem_of_getElem? (i := 25) rfl))) (mvT hZ (hw _ (List.mem_of_getElem? (i := 24) rfl))) (by decide) (backOf (W := 0) (rm3 l Z a0 hw [] b10 b8 t11 k7 k8 (0 : Int32) (1 : Int32) [] [(.int w0)] (fun j => [v0, v1, v2, v3].getD j 0) (fun j => [w0, w1, w2, w3].getD j 0) 0 T11.heap n0 Z11 (by decide) rfl (by decide) F11a V11a (CV1_b8.keep K11q (ninS (Nat.ne_of_lt (Nat.lt_of_lt_of_le V_b8_9.lt (Nat.le_of_eq g10.symm))) nin0)) (fun j hj => by rcases j with _ | _ | _ | _ | j <;> first | rfl | (exfalso; omega)) (fun j hj => by rcases j with _ | _ | _ | _ | j <;> first | rfl | (exfalso; omega))) hZ (hw _ (List.mem_of_getElem? (i := 26) rfl)) (hw _ (List.mem_of_getElem? (i := 4) rfl)) (by decide) (by decide)) q12a q12c (g := (mkF m 211 (own_L p1 q2 q3 q4 q5 p6 (0 : Int32) (1 : Int32) v0 v1 v2 v3 w0 w1 w2 w3 [.val (.ref b7), .val (.int (1 : Int32)), .val (.ref b8), .val (.ref b10), .unset, .unset]) [(.ref b8), (.ref b10)])) rfl (by rw [hml]; rfl) (Steps.refl _) (argsL := [(.ref b8)]) (rest := []) (lenOf pd_0_3 rfl) rfl (by show 2 * 0 + _ ≤ _; exact Nat.le_of_eq rfl) (hb hby at_211) (fun _ _ => ⟨rfl, rfl, (by decide : 4 + 0 ≤ _), (by decide : 6 + 0 ≤ _)⟩)
  dsimp only [Pt.U, Pt.locs, Pt.cells, Pt.slots] at X12 l12 y12 z12 st12 hQ12
  subst l12 y12 z12
  obtain ⟨rfl, N12q, E12q⟩ := hQ12
  have K12q : Keep T11.heap T12.heap [] := by rw [E12q]; exact Keep.refl _ _
  have Z12 : n0 ≤ T12.heap.size := Nat.le_trans Z11 K12q.1
  have N12 := Fr.app N11 N12q
  obtain ⟨fs, hr, hrun, hended, hW, hsame⟩ := X12.leave (v := some (.int (1 : Int32))) (fun h => by rw [Bd.returns] at h; cases h)
  refine ⟨_, _, pre0 _ ?_, hrun, hended, _, _, rfl, ?_, ⟨_, rfl⟩, hW, hsame.mono (by decide) (by decide)⟩
  -- 4. STEPS
  · show Steps p.tables e below (s₁.setTop (mkF m 0 #[.val (.int p1), .val (.long q2), .second, .val (.long q3), .second, .val (.long q4), .second, .val (.long q5), .second, .val (.int p6), .unset, .unset, .unset, .unset, .unset, .unset, .unset, .unset, .unset, .unset, .unset, .unset, .unset, .unset, .unset, .unset, .unset] [])) _
    refine jmp_0 _ ?_
    show Steps p.tables e below (s₁.setTop (mkF m 71 (own_L p1 q2 q3 q4 q5 p6 (0 : Int32) (1 : Int32) v0 v1 v2 v3 w0 w1 w2 w3 [.unset, .unset, .unset, .unset, .unset, .unset]) [])) _
    refine XS.iload X0.here hx rfl (hb hby at_71) rfl ?_
    show Steps p.tables e below (s₁.setTop (mkF m 73 (own_L p1 q2 q3 q4 q5 p6 (0 : Int32) (1 : Int32) v0 v1 v2 v3 w0 w1 w2 w3 [.unset, .unset, .unset, .unset, .unset, .unset]) [(.int (0 : Int32))])) _
    refine st7 _ ?_
    show Steps p.tables e below (T7.setTop (mkF m 75 (own_L p1 q2 q3 q4 q5 p6 (0 : Int32) (1 : Int32) v0 v1 v2 v3 w0 w1 w2 w3 [.unset, .unset, .unset, .unset, .unset, .unset]) [(.ref b7)])) _
    refine XS.astore X7.here hx rfl (hb hby at_75) rfl rfl (l' := (own_L p1 q2 q3 q4 q5 p6 (0 : Int32) (1 : Int32) v0 v1 v2 v3 w0 w1 w2 w3 [.val (.ref b7), .unset, .unset, .unset, .unset, .unset])) rfl ?_
    show Steps p.tables e below (T7.setTop (mkF m 77 (own_L p1 q2 q3 q4 q5 p6 (0 : Int32) (1 : Int32) v0 v1 v2 v3 w0 w1 w2 w3 [.val (.ref b7), .unset, .unset, .unset, .unset, .unset]) [])) _
    refine XS.iload X7.here hx rfl (hb hby at_77) rfl ?_
    show Steps p.tables e below (T7.setTop (mkF m 79 (own_L p1 q2 q3 q4 q5 p6 (0 : Int32) (1 : Int32) v0 v1 v2 v3 w0 w1 w2 w3 [.val (.ref b7), .unset, .unset, .unset, .unset, .unset]) [(.int (0 : Int32))])) _
    refine XS.ifYes X7.here hx rfl (pc0 := 79) (pc' := 88) rfl (hb hby at_79) rfl ((if0 _ _).trans (flt (by decide : ¬ ((0 : Int32) < (0 : Int32)))).2.2.2) (by decide) (by decide) ?_
    show Steps p.tables e below (T7.setTop (mkF m 88 (own_L p1 q2 q3 q4 q5 p6 (0 : Int32) (1 : Int32) v0 v1 v2 v3 w0 w1 w2 w3 [.val (.ref b7), .unset, .unset, .unset, .unset, .unset]) [])) _
    refine XS.iload X7.here hx rfl (hb hby at_88) rfl ?_
    show Steps p.tables e below (T7.setTop (mkF m 90 (own_L p1 q2 q3 q4 q5 p6 (0 : Int32) (1 : Int32) v0 v1 v2 v3 w0 w1 w2 w3 [.val (.ref b7), .unset, .unset, .unset, .unset, .unset]) [(.int (0 : Int32))])) _
    refine XS.iconst X7.here hx rfl (hb hby at_90) ?_
    show Steps p.tables e below (T7.setTop (mkF m 91 (own_L p1 q2 q3 q4 q5 p6 (0 : Int32) (1 : Int32) v0 v1 v2 v3 w0 w1 w2 w3 [.val (.ref b7), .unset, .unset, .unset, .unset, .unset]) [(.int (1 : Int32)), (.int (0 : Int32))])) _
    refine XS.icmpYes X7.here hx rfl (pc0 := 91) (pc' := 100) rfl (hb hby at_91) rfl (flt (by decide : ¬ ((1 : Int32) < (0 : Int32)))).2.2.2 (by decide) (by decide) ?_
    show Steps p.tables e below (T7.setTop (mkF m 100 (own_L p1 q2 q3 q4 q5 p6 (0 : Int32) (1 : Int32) v0 v1 v2 v3 w0 w1 w2 w3 [.val (.ref b7), .unset, .unset, .unset, .unset, .unset]) [])) _
    refine XS.iload X7.here hx rfl (hb hby at_100) rfl ?_
    show Steps p.tables e below (T7.setTop (mkF m 102 (own_L p1 q2 q3 q4 q5 p6 (0 : Int32) (1 : Int32) v0 v1 v2 v3 w0 w1 w2 w3 [.val (.ref b7), .unset, .unset, .unset, .unset, .unset]) [(.int (0 : Int32))])) _
    refine XS.iconst X7.here hx rfl (hb hby at_102) ?_
    show Steps p.tables e below (T7.setTop (mkF m 103 (own_L p1 q2 q3 q4 q5 p6 (0 : Int32) (1 : Int32) v0 v1 v2 v3 w0 w1 w2 w3 [.val (.ref b7), .unset, .unset, .unset, .unset, .unset]) [(.int (2 : Int32)), (.int (0 : Int32))])) _
    refine XS.icmpYes X7.here hx rfl (pc0 := 103) (pc' := 112) rfl (hb hby at_103) rfl (flt (by decide : ¬ ((2 : Int32) < (0 : Int32)))).2.2.2 (by decide) (by decide) ?_
    show Steps p.tables e below (T7.setTop (mkF m 112 (own_L p1 q2 q3 q4 q5 p6 (0 : Int32) (1 : Int32) v0 v1 v2 v3 w0 w1 w2 w3 [.val (.ref b7), .unset, .unset, .unset, .unset, .unset]) [])) _
    refine XS.iload X7.here hx rfl (hb hby at_112) rfl ?_
    show Steps p.tables e below (T7.setTop (mkF m 114 (own_L p1 q2 q3 q4 q5 p6 (0 : Int32) (1 : Int32) v0 v1 v2 v3 w0 w1 w2 w3 [.val (.ref b7), .unset, .unset, .unset, .unset, .unset]) [(.int (0 : Int32))])) _
    refine XS.iconst X7.here hx rfl (hb hby at_114) ?_
    show Steps p.tables e below (T7.setTop (mkF m 115 (own_L p1 q2 q3 q4 q5 p6 (0 : Int32) (1 : Int32) v0 v1 v2 v3 w0 w1 w2 w3 [.val (.ref b7), .unset, .unset, .unset, .unset, .unset]) [(.int (3 : Int32)), (.int (0 : Int32))])) _
    refine XS.icmpYes X7.here hx rfl (pc0 := 115) (pc' := 124) rfl (hb hby at_115) rfl (flt (by decide : ¬ ((3 : Int32) < (0 : Int32)))).2.2.2 (by decide) (by decide) ?_
    show Steps p.tables e below (T7.setTop (mkF m 124 (own_L p1 q2 q3 q4 q5 p6 (0 : Int32) (1 : Int32) v0 v1 v2 v3 w0 w1 w2 w3 [.val (.ref b7), .unset, .unset, .unset, .unset, .unset]) [])) _
    refine jmp_124 _ ?_
    show Steps p.tables e below (T7.setTop (mkF m 131 (own_L p1 q2 q3 q4 q5 p6 (0 : Int32) (1 : Int32) v0 v1 v2 v3 w0 w1 w2 w3 [.val (.ref b7), .val (.int (1 : Int32)), .unset, .unset, .unset, .unset]) [])) _
    refine XS.iload X7.here hx rfl (hb hby at_131) rfl ?_
    show Steps p.tables e below (T7.setTop (mkF m 133 (own_L p1 q2 q3 q4 q5 p6 (0 : Int32) (1 : Int32) v0 v1 v2 v3 w0 w1 w2 w3 [.val (.ref b7), .val (.int (1 : Int32)), .unset, .unset, .unset, .unset]) [(.int (1 : Int32))])) _
    refine st8 _ ?_
    show Steps p.tables e below (T8.setTop (mkF m 135 (own_L p1 q2 q3 q4 q5 p6 (0 : Int32) (1 : Int32) v0 v1 v2 v3 w0 w1 w2 w3 [.val (.ref b7), .val (.int (1 : Int32)), .unset, .unset, .unset, .unset]) [(.ref b8)])) _
    refine XS.astore X8.here hx rfl (hb hby at_135) rfl rfl (l' := (own_L p1 q2 q3 q4 q5 p6 (0 : Int32) (1 : Int32) v0 v1 v2 v3 w0 w1 w2 w3 [.val (.ref b7), .val (.int (1 : Int32)), .val (.ref b8), .unset, .unset, .unset])) rfl ?_
    show Steps p.tables e below (T8.setTop (mkF m 137 (own_L p1 q2 q3 q4 q5 p6 (0 : Int32) (1 : Int32) v0 v1 v2 v3 w0 w1 w2 w3 [.val (.ref b7), .val (.int (1 : Int32)), .val (.ref b8), .unset, .unset, .unset]) [])) _
    refine XS.iload X8.here hx rfl (hb hby at_137) rfl ?_
    show Steps p.tables e below (T8.setTop (mkF m 139 (own_L p1 q2 q3 q4 q5 p6 (0 : Int32) (1 : Int32) v0 v1 v2 v3 w0 w1 w2 w3 [.val (.ref b7), .val (.int (1 : Int32)), .val (.ref b8), .unset, .unset, .unset]) [(.int (1 : Int32))])) _
    refine XS.ifNo X8.here hx rfl (hb hby at_139) rfl ((if0 _ _).trans (tlt (by decide : (0 : Int32) < (1 : Int32))).2.2.2) ?_
    show Steps p.tables e below (T8.setTop (mkF m 142 (own_L p1 q2 q3 q4 q5 p6 (0 : Int32) (1 : Int32) v0 v1 v2 v3 w0 w1 w2 w3 [.val (.ref b7), .val (.int (1 : Int32)), .val (.ref b8), .unset, .unset, .unset]) [])) _
    refine XS.aload X8.here hx rfl (hb hby at_142) rfl rfl ?_
    show Steps p.tables e below (T8.setTop (mkF m 144 (own_L p1 q2 q3 q4 q5 p6 (0 : Int32) (1 : Int32) v0 v1 v2 v3 w0 w1 w2 w3 [.val (.ref b7), .val (.int (1 : Int32)), .val (.ref b8), .unset, .unset, .unset]) [(.ref b8)])) _
    refine XS.iconst X8.here hx rfl (hb hby at_144) ?_
    show Steps p.tables e below (T8.setTop (mkF m 145 (own_L p1 q2 q3 q4 q5 p6 (0 : Int32) (1 : Int32) v0 v1 v2 v3 w0 w1 w2 w3 [.val (.ref b7), .val (.int (1 : Int32)), .val (.ref b8), .unset, .unset, .unset]) [(.int (0 : Int32)), (.ref b8)])) _
    refine XS.iload X8.here hx rfl (hb hby at_145) rfl ?_
    show Steps p.tables e below (T8.setTop (mkF m 147 (own_L p1 q2 q3 q4 q5 p6 (0 : Int32) (1 : Int32) v0 v1 v2 v3 w0 w1 w2 w3 [.val (.ref b7), .val (.int (1 : Int32)), .val (.ref b8), .unset, .unset, .unset]) [(.int w0), (.int (0 : Int32)), (.ref b8)])) _
    refine st9 _ ?_
    show Steps p.tables e below (T9.setTop (mkF m 148 (own_L p1 q2 q3 q4 q5 p6 (0 : Int32) (1 : Int32) v0 v1 v2 v3 w0 w1 w2 w3 [.val (.ref b7), .val (.int (1 : Int32)), .val (.ref b8), .unset, .unset, .unset]) [])) _
    refine XS.iload X9.here hx rfl (hb hby at_148) rfl ?_
    show Steps p.tables e below (T9.setTop (mkF m 150 (own_L p1 q2 q3 q4 q5 p6 (0 : Int32) (1 : Int32) v0 v1 v2 v3 w0 w1 w2 w3 [.val (.ref b7), .val (.int (1 : Int32)), .val (.ref b8), .unset, .unset, .unset]) [(.int (1 : Int32))])) _
    refine XS.iconst X9.here hx rfl (hb hby at_150) ?_
    show Steps p.tables e below (T9.setTop (mkF m 151 (own_L p1 q2 q3 q4 q5 p6 (0 : Int32) (1 : Int32) v0 v1 v2 v3 w0 w1 w2 w3 [.val (.ref b7), .val (.int (1 : Int32)), .val (.ref b8), .unset, .unset, .unset]) [(.int (1 : Int32)), (.int (1 : Int32))])) _
    refine XS.icmpYes X9.here hx rfl (pc0 := 151) (pc' := 160) rfl (hb hby at_151) rfl (flt (by decide : ¬ ((1 : Int32) < (1 : Int32)))).2.2.2 (by decide) (by decide) ?_
    show Steps p.tables e below (T9.setTop (mkF m 160 (own_L p1 q2 q3 q4 q5 p6 (0 : Int32) (1 : Int32) v0 v1 v2 v3 w0 w1 w2 w3 [.val (.ref b7), .val (.int (1 : Int32)), .val (.ref b8), .unset, .unset, .unset]) [])) _
    refine XS.iload X9.here hx rfl (hb hby at_160) rfl ?_
    show Steps p.tables e below (T9.setTop (mkF m 162 (own_L p1 q2 q3 q4 q5 p6 (0 : Int32) (1 : Int32) v0 v1 v2 v3 w0 w1 w2 w3 [.val (.ref b7), .val (.int (1 : Int32)), .val (.ref b8), .unset, .unset, .unset]) [(.int (1 : Int32))])) _
    refine XS.iconst X9.here hx rfl (hb hby at_162) ?_
    show Steps p.tables e below (T9.setTop (mkF m 163 (own_L p1 q2 q3 q4 q5 p6 (0 : Int32) (1 : Int32) v0 v1 v2 v3 w0 w1 w2 w3 [.val (.ref b7), .val (.int (1 : Int32)), .val (.ref b8), .unset, .unset, .unset]) [(.int (2 : Int32)), (.int (1 : Int32))])) _
    refine XS.icmpYes X9.here hx rfl (pc0 := 163) (pc' := 172) rfl (hb hby at_163) rfl (flt (by decide : ¬ ((2 : Int32) < (1 : Int32)))).2.2.2 (by decide) (by decide) ?_
    show Steps p.tables e below (T9.setTop (mkF m 172 (own_L p1 q2 q3 q4 q5 p6 (0 : Int32) (1 : Int32) v0 v1 v2 v3 w0 w1 w2 w3 [.val (.ref b7), .val (.int (1 : Int32)), .val (.ref b8), .unset, .unset, .unset]) [])) _
    refine XS.iload X9.here hx rfl (hb hby at_172) rfl ?_
    show Steps p.tables e below (T9.setTop (mkF m 174 (own_L p1 q2 q3 q4 q5 p6 (0 : Int32) (1 : Int32) v0 v1 v2 v3 w0 w1 w2 w3 [.val (.ref b7), .val (.int (1 : Int32)), .val (.ref b8), .unset, .unset, .unset]) [(.int (1 : Int32))])) _
    refine XS.iconst X9.here hx rfl (hb hby at_174) ?_
    show Steps p.tables e below (T9.setTop (mkF m 175 (own_L p1 q2 q3 q4 q5 p6 (0 : Int32) (1 : Int32) v0 v1 v2 v3 w0 w1 w2 w3 [.val (.ref b7), .val (.int (1 : Int32)), .val (.ref b8), .unset, .unset, .unset]) [(.int (3 : Int32)), (.int (1 : Int32))])) _
    refine XS.icmpYes X9.here hx rfl (pc0 := 175) (pc' := 184) rfl (hb hby at_175) rfl (flt (by decide : ¬ ((3 : Int32) < (1 : Int32)))).2.2.2 (by decide) (by decide) ?_
    show Steps p.tables e below (T9.setTop (mkF m 184 (own_L p1 q2 q3 q4 q5 p6 (0 : Int32) (1 : Int32) v0 v1 v2 v3 w0 w1 w2 w3 [.val (.ref b7), .val (.int (1 : Int32)), .val (.ref b8), .unset, .unset, .unset]) [])) _
    refine XS.iload X9.here hx rfl (hb hby at_184) rfl ?_
    show Steps p.tables e below (T9.setTop (mkF m 186 (own_L p1 q2 q3 q4 q5 p6 (0 : Int32) (1 : Int32) v0 v1 v2 v3 w0 w1 w2 w3 [.val (.ref b7), .val (.int (1 : Int32)), .val (.ref b8), .unset, .unset, .unset]) [(.int (1 : Int32))])) _
    refine XS.iconst X9.here hx rfl (hb hby at_186) ?_
    show Steps p.tables e below (T9.setTop (mkF m 187 (own_L p1 q2 q3 q4 q5 p6 (0 : Int32) (1 : Int32) v0 v1 v2 v3 w0 w1 w2 w3 [.val (.ref b7), .val (.int (1 : Int32)), .val (.ref b8), .unset, .unset, .unset]) [(.int (4 : Int32)), (.int (1 : Int32))])) _
    refine XS.icmpYes X9.here hx rfl (pc0 := 187) (pc' := 196) rfl (hb hby at_187) rfl (flt (by decide : ¬ ((4 : Int32) < (1 : Int32)))).2.2.2 (by decide) (by decide) ?_
    show Steps p.tables e below (T9.setTop (mkF m 196 (own_L p1 q2 q3 q4 q5 p6 (0 : Int32) (1 : Int32) v0 v1 v2 v3 w0 w1 w2 w3 [.val (.ref b7), .val (.int (1 : Int32)), .val (.ref b8), .unset, .unset, .unset]) [])) _
    refine st10 _ ?_
    show Steps p.tables e below (T10.setTop (mkF m 199 (own_L p1 q2 q3 q4 q5 p6 (0 : Int32) (1 : Int32) v0 v1 v2 v3 w0 w1 w2 w3 [.val (.ref b7), .val (.int (1 : Int32)), .val (.ref b8), .unset, .unset, .unset]) [(.ref b10)])) _
    refine XS.dup X10.here hx rfl (hb hby at_199) rfl rfl ?_
    show Steps p.tables e below (T10.setTop (mkF m 200 (own_L p1 q2 q3 q4 q5 p6 (0 : Int32) (1 : Int32) v0 v1 v2 v3 w0 w1 w2 w3 [.val (.ref b7), .val (.int (1 : Int32)), .val (.ref b8), .unset, .unset, .unset]) [(.ref b10), (.ref b10)])) _
    refine XS.aload X10.here hx rfl (hb hby at_200) rfl rfl ?_
    show Steps p.tables e below (T10.setTop (mkF m 202 (own_L p1 q2 q3 q4 q5 p6 (0 : Int32) (1 : Int32) v0 v1 v2 v3 w0 w1 w2 w3 [.val (.ref b7), .val (.int (1 : Int32)), .val (.ref b8), .unset, .unset, .unset]) [(.ref b7), (.ref b10), (.ref b10)])) _
    refine st11.trans ?_
    show Steps p.tables e below (T11.setTop (mkF m 205 (own_L p1 q2 q3 q4 q5 p6 (0 : Int32) (1 : Int32) v0 v1 v2 v3 w0 w1 w2 w3 [.val (.ref b7), .val (.int (1 : Int32)), .val (.ref b8), .unset, .unset, .unset]) [(.ref b10)])) _
    refine XS.astore X11.here hx rfl (hb hby at_205) rfl rfl (l' := (own_L p1 q2 q3 q4 q5 p6 (0 : Int32) (1 : Int32) v0 v1 v2 v3 w0 w1 w2 w3 [.val (.ref b7), .val (.int (1 : Int32)), .val (.ref b8), .val (.ref b10), .unset, .unset])) rfl ?_
    show Steps p.tables e below (T11.setTop (mkF m 207 (own_L p1 q2 q3 q4 q5 p6 (0 : Int32) (1 : Int32) v0 v1 v2 v3 w0 w1 w2 w3 [.val (.ref b7), .val (.int (1 : Int32)), .val (.ref b8), .val (.ref b10), .unset, .unset]) [])) _
    refine XS.aload X11.here hx rfl (hb hby at_207) rfl rfl ?_
    show Steps p.tables e below (T11.setTop (mkF m 209 (own_L p1 q2 q3 q4 q5 p6 (0 : Int32) (1 : Int32) v0 v1 v2 v3 w0 w1 w2 w3 [.val (.ref b7), .val (.int (1 : Int32)), .val (.ref b8), .val (.ref b10), .unset, .unset]) [(.ref b10)])) _
    refine XS.aload X11.here hx rfl (hb hby at_209) rfl rfl ?_
    show Steps p.tables e below (T11.setTop (mkF m 211 (own_L p1 q2 q3 q4 q5 p6 (0 : Int32) (1 : Int32) v0 v1 v2 v3 w0 w1 w2 w3 [.val (.ref b7), .val (.int (1 : Int32)), .val (.ref b8), .val (.ref b10), .unset, .unset]) [(.ref b8), (.ref b10)])) _
    refine st12.trans ?_
    show Steps p.tables e below (T12.setTop (mkF m 214 (own_L p1 q2 q3 q4 q5 p6 (0 : Int32) (1 : Int32) v0 v1 v2 v3 w0 w1 w2 w3 [.val (.ref b7), .val (.int (1 : Int32)), .val (.ref b8), .val (.ref b10), .unset, .unset]) [(.int (own_acc (fun j => [v0, v1, v2, v3].getD j 0) (fun j => [w0, w1, w2, w3].getD j 0) 0 0 0))])) _
    refine XS.istore X12.here hx rfl (hb hby at_214) rfl (l' := (own_L p1 q2 q3 q4 q5 p6 (0 : Int32) (1 : Int32) v0 v1 v2 v3 w0 w1 w2 w3 [.val (.ref b7), .val (.int (1 : Int32)), .val (.ref b8), .val (.ref b10), .val (.int (own_acc (fun j => [v0, v1, v2, v3].getD j 0) (fun j => [w0, w1, w2, w3].getD j 0) 0 0 0)), .unset])) rfl ?_
    show Steps p.tables e below (T12.setTop (mkF m 216 (own_L p1 q2 q3 q4 q5 p6 (0 : Int32) (1 : Int32) v0 v1 v2 v3 w0 w1 w2 w3 [.val (.ref b7), .val (.int (1 : Int32)), .val (.ref b8), .val (.ref b10), .val (.int (own_acc (fun j => [v0, v1, v2, v3].getD j 0) (fun j => [w0, w1, w2, w3].getD j 0) 0 0 0)), .unset]) [])) _
    refine XS.iconst X12.here hx rfl (hb hby at_216) ?_
    show Steps p.tables e below (T12.setTop (mkF m 217 (own_L p1 q2 q3 q4 q5 p6 (0 : Int32) (1 : Int32) v0 v1 v2 v3 w0 w1 w2 w3 [.val (.ref b7), .val (.int (1 : Int32)), .val (.ref b8), .val (.ref b10), .val (.int (own_acc (fun j => [v0, v1, v2, v3].getD j 0) (fun j => [w0, w1, w2, w3].getD j 0) 0 0 0)), .unset]) [(.int (0 : Int32))])) _
    refine XS.istore X12.here hx rfl (hb hby at_217) rfl (l' := (own_L p1 q2 q3 q4 q5 p6 (0 : Int32) (1 : Int32) v0 v1 v2 v3 w0 w1 w2 w3 [.val (.ref b7), .val (.int (1 : Int32)), .val (.ref b8), .val (.ref b10), .val (.int (own_acc (fun j => [v0, v1, v2, v3].getD j 0) (fun j => [w0, w1, w2, w3].getD j 0) 0 0 0)), .val (.int (0 : Int32))])) rfl ?_
    show Steps p.tables e below (T12.setTop (mkF m 219 (own_L p1 q2 q3 q4 q5 p6 (0 : Int32) (1 : Int32) v0 v1 v2 v3 w0 w1 w2 w3 [.val (.ref b7), .val (.int (1 : Int32)), .val (.ref b8), .val (.ref b10), .val (.int (own_acc (fun j => [v0, v1, v2, v3].getD j 0) (fun j => [w0, w1, w2, w3].getD j 0) 0 0 0)), .val (.int (0 : Int32))]) [])) _
    refine XS.iload X12.here hx rfl (hb hby at_219) rfl ?_
    show Steps p.tables e below (T12.setTop (mkF m 221 (own_L p1 q2 q3 q4 q5 p6 (0 : Int32) (1 : Int32) v0 v1 v2 v3 w0 w1 w2 w3 [.val (.ref b7), .val (.int (1 : Int32)), .val (.ref b8), .val (.ref b10), .val (.int (own_acc (fun j => [v0, v1, v2, v3].getD j 0) (fun j => [w0, w1, w2, w3].getD j 0) 0 0 0)), .val (.int (0 : Int32))]) [(.int (0 : Int32))])) _
    refine XS.ifYes X12.here hx rfl (pc0 := 221) (pc' := 234) rfl (hb hby at_221) rfl ((if0 _ _).trans (flt (by decide : ¬ ((0 : Int32) < (0 : Int32)))).2.2.2) (by decide) (by decide) ?_
    show Steps p.tables e below (T12.setTop (mkF m 234 (own_L p1 q2 q3 q4 q5 p6 (0 : Int32) (1 : Int32) v0 v1 v2 v3 w0 w1 w2 w3 [.val (.ref b7), .val (.int (1 : Int32)), .val (.ref b8), .val (.ref b10), .val (.int (own_acc (fun j => [v0, v1, v2, v3].getD j 0) (fun j => [w0, w1, w2, w3].getD j 0) 0 0 0)), .val (.int (0 : Int32))]) [])) _
    refine XS.iload X12.here hx rfl (hb hby at_234) rfl ?_
    show Steps p.tables e below (T12.setTop (mkF m 236 (own_L p1 q2 q3 q4 q5 p6 (0 : Int32) (1 : Int32) v0 v1 v2 v3 w0 w1 w2 w3 [.val (.ref b7), .val (.int (1 : Int32)), .val (.ref b8), .val (.ref b10), .val (.int (own_acc (fun j => [v0, v1, v2, v3].getD j 0) (fun j => [w0, w1, w2, w3].getD j 0) 0 0 0)), .val (.int (0 : Int32))]) [(.int (0 : Int32))])) _
    refine XS.iconst X12.here hx rfl (hb hby at_236) ?_
    show Steps p.tables e below (T12.setTop (mkF m 237 (own_L p1 q2 q3 q4 q5 p6 (0 : Int32) (1 : Int32) v0 v1 v2 v3 w0 w1 w2 w3 [.val (.ref b7), .val (.int (1 : Int32)), .val (.ref b8), .val (.ref b10), .val (.int (own_acc (fun j => [v0, v1, v2, v3].getD j 0) (fun j => [w0, w1, w2, w3].getD j 0) 0 0 0)), .val (.int (0 : Int32))]) [(.int (1 : Int32)), (.int (0 : Int32))])) _
    refine XS.icmpYes X12.here hx rfl (pc0 := 237) (pc' := 250) rfl (hb hby at_237) rfl (flt (by decide : ¬ ((1 : Int32) < (0 : Int32)))).2.2.2 (by decide) (by decide) ?_
    show Steps p.tables e below (T12.setTop (mkF m 250 (own_L p1 q2 q3 q4 q5 p6 (0 : Int32) (1 : Int32) v0 v1 v2 v3 w0 w1 w2 w3 [.val (.ref b7), .val (.int (1 : Int32)), .val (.ref b8), .val (.ref b10), .val (.int (own_acc (fun j => [v0, v1, v2, v3].getD j 0) (fun j => [w0, w1, w2, w3].getD j 0) 0 0 0)), .val (.int (0 : Int32))]) [])) _
    refine XS.iload X12.here hx rfl (hb hby at_250) rfl ?_
    show Steps p.tables e below (T12.setTop (mkF m 252 (own_L p1 q2 q3 q4 q5 p6 (0 : Int32) (1 : Int32) v0 v1 v2 v3 w0 w1 w2 w3 [.val (.ref b7), .val (.int (1 : Int32)), .val (.ref b8), .val (.ref b10), .val (.int (own_acc (fun j => [v0, v1, v2, v3].getD j 0) (fun j => [w0, w1, w2, w3].getD j 0) 0 0 0)), .val (.int (0 : Int32))]) [(.int (0 : Int32))])) _
    refine XS.iconst X12.here hx rfl (hb hby at_252) ?_
    show Steps p.tables e below (T12.setTop (mkF m 253 (own_L p1 q2 q3 q4 q5 p6 (0 : Int32) (1 : Int32) v0 v1 v2 v3 w0 w1 w2 w3 [.val (.ref b7), .val (.int (1 : Int32)), .val (.ref b8), .val (.ref b10), .val (.int (own_acc (fun j => [v0, v1, v2, v3].getD j 0) (fun j => [w0, w1, w2, w3].getD j 0) 0 0 0)), .val (.int (0 : Int32))]) [(.int (2 : Int32)), (.int (0 : Int32))])) _
    refine XS.icmpYes X12.here hx rfl (pc0 := 253) (pc' := 266) rfl (hb hby at_253) rfl (flt (by decide : ¬ ((2 : Int32) < (0 : Int32)))).2.2.2 (by decide) (by decide) ?_
    show Steps p.tables e below (T12.setTop (mkF m 266 (own_L p1 q2 q3 q4 q5 p6 (0 : Int32) (1 : Int32) v0 v1 v2 v3 w0 w1 w2 w3 [.val (.ref b7), .val (.int (1 : Int32)), .val (.ref b8), .val (.ref b10), .val (.int (own_acc (fun j => [v0, v1, v2, v3].getD j 0) (fun j => [w0, w1, w2, w3].getD j 0) 0 0 0)), .val (.int (0 : Int32))]) [])) _
    refine XS.iload X12.here hx rfl (hb hby at_266) rfl ?_
    show Steps p.tables e below (T12.setTop (mkF m 268 (own_L p1 q2 q3 q4 q5 p6 (0 : Int32) (1 : Int32) v0 v1 v2 v3 w0 w1 w2 w3 [.val (.ref b7), .val (.int (1 : Int32)), .val (.ref b8), .val (.ref b10), .val (.int (own_acc (fun j => [v0, v1, v2, v3].getD j 0) (fun j => [w0, w1, w2, w3].getD j 0) 0 0 0)), .val (.int (0 : Int32))]) [(.int (0 : Int32))])) _
    refine XS.iconst X12.here hx rfl (hb hby at_268) ?_
    show Steps p.tables e below (T12.setTop (mkF m 269 (own_L p1 q2 q3 q4 q5 p6 (0 : Int32) (1 : Int32) v0 v1 v2 v3 w0 w1 w2 w3 [.val (.ref b7), .val (.int (1 : Int32)), .val (.ref b8), .val (.ref b10), .val (.int (own_acc (fun j => [v0, v1, v2, v3].getD j 0) (fun j => [w0, w1, w2, w3].getD j 0) 0 0 0)), .val (.int (0 : Int32))]) [(.int (3 : Int32)), (.int (0 : Int32))])) _
    refine XS.icmpYes X12.here hx rfl (pc0 := 269) (pc' := 282) rfl (hb hby at_269) rfl (flt (by decide : ¬ ((3 : Int32) < (0 : Int32)))).2.2.2 (by decide) (by decide) ?_
    show Steps p.tables e below (T12.setTop (mkF m 282 (own_L p1 q2 q3 q4 q5 p6 (0 : Int32) (1 : Int32) v0 v1 v2 v3 w0 w1 w2 w3 [.val (.ref b7), .val (.int (1 : Int32)), .val (.ref b8), .val (.ref b10), .val (.int (own_acc (fun j => [v0, v1, v2, v3].getD j 0) (fun j => [w0, w1, w2, w3].getD j 0) 0 0 0)), .val (.int (0 : Int32))]) [])) _
    refine XS.iload X12.here hx rfl (hb hby at_282) rfl ?_
    show Steps p.tables e below (T12.setTop (mkF m 284 (own_L p1 q2 q3 q4 q5 p6 (0 : Int32) (1 : Int32) v0 v1 v2 v3 w0 w1 w2 w3 [.val (.ref b7), .val (.int (1 : Int32)), .val (.ref b8), .val (.ref b10), .val (.int (own_acc (fun j => [v0, v1, v2, v3].getD j 0) (fun j => [w0, w1, w2, w3].getD j 0) 0 0 0)), .val (.int (0 : Int32))]) [(.int (own_acc (fun j => [v0, v1, v2, v3].getD j 0) (fun j => [w0, w1, w2, w3].getD j 0) 0 0 0))])) _
    refine XS.iload X12.here hx rfl (hb hby at_284) rfl ?_
    show Steps p.tables e below (T12.setTop (mkF m 286 (own_L p1 q2 q3 q4 q5 p6 (0 : Int32) (1 : Int32) v0 v1 v2 v3 w0 w1 w2 w3 [.val (.ref b7), .val (.int (1 : Int32)), .val (.ref b8), .val (.ref b10), .val (.int (own_acc (fun j => [v0, v1, v2, v3].getD j 0) (fun j => [w0, w1, w2, w3].getD j 0) 0 0 0)), .val (.int (0 : Int32))]) [(.int (0 : Int32)), (.int (own_acc (fun j => [v0, v1, v2, v3].getD j 0) (fun j => [w0, w1, w2, w3].getD j 0) 0 0 0))])) _
    refine XS.icmpNo X12.here hx rfl (hb hby at_286) rfl (teq (rfl : (own_acc (fun j => [v0, v1, v2, v3].getD j 0) (fun j => [w0, w1, w2, w3].getD j 0) 0 0 0) = (0 : Int32))).2 ?_
    show Steps p.tables e below (T12.setTop (mkF m 289 (own_L p1 q2 q3 q4 q5 p6 (0 : Int32) (1 : Int32) v0 v1 v2 v3 w0 w1 w2 w3 [.val (.ref b7), .val (.int (1 : Int32)), .val (.ref b8), .val (.ref b10), .val (.int (own_acc (fun j => [v0, v1, v2, v3].getD j 0) (fun j => [w0, w1, w2, w3].getD j 0) 0 0 0)), .val (.int (0 : Int32))]) [])) _
    refine XS.iconst X12.here hx rfl (hb hby at_289) ?_
    show Steps p.tables e below (T12.setTop (mkF m 290 (own_L p1 q2 q3 q4 q5 p6 (0 : Int32) (1 : Int32) v0 v1 v2 v3 w0 w1 w2 w3 [.val (.ref b7), .val (.int (1 : Int32)), .val (.ref b8), .val (.ref b10), .val (.int (own_acc (fun j => [v0, v1, v2, v3].getD j 0) (fun j => [w0, w1, w2, w3].getD j 0) 0 0 0)), .val (.int (0 : Int32))]) [(.int (1 : Int32))])) _
    refine XS.goto X12.here hx rfl (pc0 := 290) (pc' := 294) rfl (hb hby at_290) (by decide) (by decide) ?_
    show Steps p.tables e below (T12.setTop (mkF m 294 (own_L p1 q2 q3 q4 q5 p6 (0 : Int32) (1 : Int32) v0 v1 v2 v3 w0 w1 w2 w3 [.val (.ref b7), .val (.int (1 : Int32)), .val (.ref b8), .val (.ref b10), .val (.int (own_acc (fun j => [v0, v1, v2, v3].getD j 0) (fun j => [w0, w1, w2, w3].getD j 0) 0 0 0)), .val (.int (0 : Int32))]) [(.int (1 : Int32))])) _
    exact retN X12 hx (t := .boolean) Bd.returns (by simp) (hb hby at_294) hr
  · show Q0 Z p1 q2 q3 q4 q5 p6 h0 n0 _ T12.heap _
    exact ⟨rfl, N12⟩
set_option maxRecDepth 65536 in
set_option maxHeartbeats 40000000 in
theorem rm0_1_0 (l : Launch) (Z : State) (a0 : Array Value) (hw : ∀ d ∈ tables_1, d.before a0 Z = true) (ws : List Jvm.Cond) (p1 : Int32) (q2 : Int64) (q3 : Int64) (q4 : Int64) (q5 : Int64) (p6 : Int32) (h0 : Heap) (n0 : Nat) (Z0 : n0 ≤ h0.size) (v0 v1 v2 v3 w0 w1 w2 w3 : Int32) (h_v0 : (q2.toInt32) = v0) (h_v1 : (((q2.toUInt64 >>> ((32 : Int32) &&& 0x3f).toInt64.toUInt64).toInt64).toInt32) = v1) (h_v2 : (q3.toInt32) = v2) (h_v3 : (((q3.toUInt64 >>> ((32 : Int32) &&& 0x3f).toInt64.toUInt64).toInt64).toInt32) = v3) (h_w0 : (q4.toInt32) = w0) (h_w1 : (((q4.toUInt64 >>> ((32 : Int32) &&& 0x3f).toInt64.toUInt64).toInt64).toInt32) = w1) (h_w2 : (q5.toInt32) = w2) (h_w3 : (((q5.toUInt64 >>> ((32 : Int32) &&& 0x3f).toInt64.toUInt64).toInt64).toInt32) = w3) (hk : ((p1 &&& (2147483647 : Int32)) % (5 : Int32)) = (1 : Int32)) (hc9 : ¬ (p1 < (0 : Int32))) :
    MetFree l x (head1 (Jvm.Cond.code x code maxLocals ret :: ws) room_1) (fun a U => a = #[(.int p1), (.long q2), (.long q3), (.long q4), (.long q5), (.int p6)] ∧ Z.Warmed39 U.vm ∧ U.heap = h0) (fun _ _ _ _ _ => True) (fun _ U o U' => ∃ v L, o = .returned v ∧ Q0 Z p1 q2 q3 q4 q5 p6 h0 n0 v U'.heap L ∧ FrameEnd U o U' L room_1.cells room_1.slots) := by
  refine MetFree.of_bodySF (plainFor_of_name pn_0) hisR ?_
  intro p e s m args below meth c s₁ Bd hml0 hP hK
  obtain ⟨rfl, hZ, hh⟩ := hP
  have hx := Bd.exec
  have hby := Bd.bytes
  have hml : c.maxLocals = 27 := hml0
  have hown : s.vm.findClass "com/example/stagecraft/stagecraft/examples/GenericDotProductApplyPinLaw" = some m.cls := findClass_of_methodNamed Bd.named
  have hnm := (name_of_methodNamed Bd.named Bd.method).1
  have X0 : Stand p l e room_1 s m #[(.int p1), (.long q2), (.long q3), (.long q4), (.long q5), (.int p6)] below meth c s₁ [] 0 0 := Stand.of_body Bd
  have e0 : s₁.heap = h0 := by rw [← hh, Bd.state]; rfl
  have N0 := Fr.nil n0
  have pre0 : ∀ t, Steps p.tables e below (s₁.setTop (mkF m 0 #[.val (.int p1), .val (.long q2), .second, .val (.long q3), .second, .val (.long q4), .second, .val (.long q5), .second, .val (.int p6), .unset, .unset, .unset, .unset, .unset, .unset, .unset, .unset, .unset, .unset, .unset, .unset, .unset, .unset, .unset, .unset, .unset] [])) t → Steps p.tables e below (s₁.setTop (entryFrame m #[(.int p1), (.long q2), (.long q3), (.long q4), (.long q5), (.int p6)] maxLocals)) t := fun t k => castTop (ef_0 m p1 q2 q3 q4 q5 p6) k
  -- 3. LAWS
  have jmp_0 : ∀ target, Steps p.tables e below (s₁.setTop (mkF m 71 (own_L p1 q2 q3 q4 q5 p6 (1 : Int32) (0 : Int32) v0 v1 v2 v3 w0 w1 w2 w3 [.unset, .unset, .unset, .unset, .unset, .unset]) [])) target → Steps p.tables e below (s₁.setTop (mkF m 0 #[.val (.int p1), .val (.long q2), .second, .val (.long q3), .second, .val (.long q4), .second, .val (.long q5), .second, .val (.int p6), .unset, .unset, .unset, .unset, .unset, .unset, .unset, .unset, .unset, .unset, .unset, .unset, .unset, .unset, .unset, .unset, .unset] [])) target := fun target kt => own_j0 p1 q2 q3 q4 q5 p6 X0 hx hZ hw hby hown hc9 target (castTop (by rw [hk, h_v0, h_v1, h_v2, h_v3, h_w0, h_w1, h_w2, h_w3]) kt)
  obtain ⟨T7, h7, k7, X7, e7, E7, A7, I7, st7⟩ := newPE X0 hx hZ (hw _ (List.mem_of_getElem? (i := 1) rfl)) e0 (g := (mkF m 73 (own_L p1 q2 q3 q4 q5 p6 (1 : Int32) (0 : Int32) v0 v1 v2 v3 w0 w1 w2 w3 [.unset, .unset, .unset, .unset, .unset, .unset]) [(.int (1 : Int32))])) rfl (hb hby at_73) rfl (by decide) (cap := 1) (by decide) (by decide) (by decide) (by decide) (ad := "[I") rfl
  obtain ⟨b7, g7⟩ : ∃ z, z = h0.size := ⟨_, rfl⟩      -- the fresh array's address
  have Z7 : n0 ≤ h7.size := Nat.le_trans Z0 E7.1
  rw [← g7] at A7 I7 st7
  have V_b7 : Arv Z h7 b7 k7 .int (1 : Int32) [(.int (0 : Int32))] (.int (0 : Int32)) := (Arv.new A7 (by decide)).pad (pad_rep [] (.int (0 : Int32)) 1)
  have g_b7 : n0 ≤ b7 := Nat.le_trans Z0 (Nat.le_of_eq g7.symm)
  have sz_b7 : h0.size ≤ b7 := (Nat.le_trans (Keep.refl h0 []).1 (Nat.le_of_eq g7.symm))
  have K7 : Keep h0 h7 [] := (Keep.refl h0 []).ext E7
  obtain ⟨cl_b7_87, Ar_b7, q_b7, S_b7, N_b7, H_b7, G_b7⟩ := V_b7      -- open the array's fact as it stands now (its cell, kind, length, elements)
  have hin87 : ¬ ((0 : Int32) < 0 ∨ cl_b7_87.slots.size ≤ ((0 : Int32)).toNatClampNeg) := inb_of S_b7 ⟨by decide, by decide⟩
  obtain ⟨T8, h8, X8, e8, W8, st8⟩ := stI X7 hx hZ e7 Ar_b7 (j := (0 : Int32)) hin87 (g := (mkF m 87 (own_L p1 q2 q3 q4 q5 p6 (1 : Int32) (0 : Int32) v0 v1 v2 v3 w0 w1 w2 w3 [.val (.ref b7), .unset, .unset, .unset, .unset, .unset]) [(.int v0), (.int (0 : Int32)), (.ref b7)])) rfl rfl (hb hby at_87)
  have Z8 : n0 ≤ h8.size := Nat.le_trans Z7 (Keep.of_wr W8).1
  have V_b7_8 := Arv.set Ar_b7 q_b7 S_b7 N_b7 H_b7 G_b7 rfl W8 0 rfl (Nat.le_of_ble_eq_true rfl)      -- the array as it stands now (the place must lie among its first values: Arv.pad with pad_rep lengthens them)
  have K8 : Keep h0 h8 [] := K7.wr W8 (Or.inr sz_b7)
  have N8 := Fr.snoc X8 N0 g_b7
  have jmp_124 : ∀ target, Steps p.tables e below (T8.setTop (mkF m 131 (own_L p1 q2 q3 q4 q5 p6 (1 : Int32) (0 : Int32) v0 v1 v2 v3 w0 w1 w2 w3 [.val (.ref b7), .val (.int (1 : Int32)), .unset, .unset, .unset, .unset]) [])) target → Steps p.tables e below (T8.setTop (mkF m 124 (own_L p1 q2 q3 q4 q5 p6 (1 : Int32) (0 : Int32) v0 v1 v2 v3 w0 w1 w2 w3 [.val (.ref b7), .unset, .unset, .unset, .unset, .unset]) [])) target := by
    intro target kt
    · have hm : (1 : Int32) + (0 : Int32) = (1 : Int32) := by decide
      show Steps p.tables e below (T8.setTop (mkF m 124 (own_L p1 q2 q3 q4 q5 p6 (1 : Int32) (0 : Int32) v0 v1 v2 v3 w0 w1 w2 w3 [.val (.ref b7), .unset, .unset, .unset, .unset, .unset]) [])) _
      refine XS.iload X8.here hx rfl (hb hby at_124) rfl ?_
      show Steps p.tables e below (T8.setTop (mkF m 126 (own_L p1 q2 q3 q4 q5 p6 (1 : Int32) (0 : Int32) v0 v1 v2 v3 w0 w1 w2 w3 [.val (.ref b7), .unset, .unset, .unset, .unset, .unset]) [(.int (1 : Int32))])) _
      refine XS.iload X8.here hx rfl (hb hby at_126) rfl ?_
      show Steps p.tables e below (T8.setTop (mkF m 128 (own_L p1 q2 q3 q4 q5 p6 (1 : Int32) (0 : Int32) v0 v1 v2 v3 w0 w1 w2 w3 [.val (.ref b7), .unset, .unset, .unset, .unset, .unset]) [(.int (0 : Int32)), (.int (1 : Int32))])) _
      refine XS.iadd X8.here hx rfl (hb hby at_128) rfl ?_
      show Steps p.tables e below (T8.setTop (mkF m 129 (own_L p1 q2 q3 q4 q5 p6 (1 : Int32) (0 : Int32) v0 v1 v2 v3 w0 w1 w2 w3 [.val (.ref b7), .unset, .unset, .unset, .unset, .unset]) [(.int ((1 : Int32) + (0 : Int32)))])) _
      refine XS.istore X8.here hx rfl (hb hby at_129) rfl (l' := (own_L p1 q2 q3 q4 q5 p6 (1 : Int32) (0 : Int32) v0 v1 v2 v3 w0 w1 w2 w3 [.val (.ref b7), .val (.int ((1 : Int32) + (0 : Int32))), .unset, .unset, .unset, .unset])) rfl ?_
      exact castTop (by rw [hm]) kt
  obtain ⟨T9, h9, k9, X9, e9, E9, A9, I9, st9⟩ := newPE X8 hx hZ (hw _ (List.mem_of_getElem? (i := 1) rfl)) e8 (g := (mkF m 133 (own_L p1 q2 q3 q4 q5 p6 (1 : Int32) (0 : Int32) v0 v1 v2 v3 w0 w1 w2 w3 [.val (.ref b7), .val (.int (1 : Int32)), .unset, .unset, .unset, .unset]) [(.int (1 : Int32))])) rfl (hb hby at_133) rfl (by decide) (cap := 1) (by decide) (by decide) (by decide) (by decide) (ad := "[I") rfl
  obtain ⟨b9, g9⟩ : ∃ z, z = h8.size := ⟨_, rfl⟩      -- the fresh array's address
  have Z9 : n0 ≤ h9.size := Nat.le_trans Z8 E9.1
  rw [← g9] at A9 I9 st9
  have V_b9 : Arv Z h9 b9 k9 .int (1 : Int32) [(.int (0 : Int32))] (.int (0 : Int32)) := (Arv.new A9 (by decide)).pad (pad_rep [] (.int (0 : Int32)) 1)
  have g_b9 : n0 ≤ b9 := Nat.le_trans (Nat.le_trans (Nat.le_trans Z0 E7.1) (Keep.of_wr W8).1) (Nat.le_of_eq g9.symm)
  have sz_b9 : h0.size ≤ b9 := (Nat.le_trans K8.1 (Nat.le_of_eq g9.symm))
  have K9 : Keep h0 h9 [] := K8.ext E9
  obtain ⟨cl_b9_147, Ar_b9, q_b9, S_b9, N_b9, H_b9, G_b9⟩ := V_b9      -- open the array's fact as it stands now (its cell, kind, length, elements)
  have hin147 : ¬ ((0 : Int32) < 0 ∨ cl_b9_147.slots.size ≤ ((0 : Int32)).toNatClampNeg) := inb_of S_b9 ⟨by decide, by decide⟩
  obtain ⟨T10, h10, X10, e10, W10, st10⟩ := stI X9 hx hZ e9 Ar_b9 (j := (0 : Int32)) hin147 (g := (mkF m 147 (own_L p1 q2 q3 q4 q5 p6 (1 : Int32) (0 : Int32) v0 v1 v2 v3 w0 w1 w2 w3 [.val (.ref b7), .val (.int (1 : Int32)), .val (.ref b9), .unset, .unset, .unset]) [(.int w0), (.int (0 : Int32)), (.ref b9)])) rfl rfl (hb hby at_147)
  have Z10 : n0 ≤ h10.size := Nat.le_trans Z9 (Keep.of_wr W10).1
  have V_b9_10 := Arv.set Ar_b9 q_b9 S_b9 N_b9 H_b9 G_b9 rfl W10 0 rfl (Nat.le_of_ble_eq_true rfl)      -- the array as it stands now (the place must lie among its first values: Arv.pad with pad_rep lengthens them)
  have K10 : Keep h0 h10 [] := K9.wr W10 (Or.inr sz_b9)
  have N10 := Fr.snoc X10 N8 g_b9
  obtain ⟨T11, h11, X11, e11, E11, A11, D11, -, st11⟩ := newO X10 hx hZ hown (hw _ (List.mem_of_getElem? (i := 2) rfl)) (hw _ (List.mem_of_getElem? (i := 3) rfl)) (hw _ (List.mem_of_getElem? (i := 4) rfl)) e10 (g := (mkF m 196 (own_L p1 q2 q3 q4 q5 p6 (1 : Int32) (0 : Int32) v0 v1 v2 v3 w0 w1 w2 w3 [.val (.ref b7), .val (.int (1 : Int32)), .val (.ref b9), .unset, .unset, .unset]) [])) rfl (hb hby at_196) (by decide) (by decide)
  obtain ⟨b11, g11⟩ : ∃ z, z = h10.size := ⟨_, rfl⟩      -- the fresh object's address
  have Z11 : n0 ≤ h11.size := Nat.le_trans Z10 E11.1
  rw [← g11] at A11 D11 st11      -- A11 : Exa Z h11 b11 "com/example/stagecraft/stagecraft/examples/GenericDotProduct"; E11 : Ext h10 h11 (carries every older fact: .ext E11)
  have F_fixed_b11 : Fld Z h11 b11 "com/example/stagecraft/stagecraft/examples/GenericDotProduct" "fixed" "[I" .null := D11 (Or.inr (hw _ (List.mem_of_getElem? (i := 21) rfl))) (ty := (.array .int)) (by decide)
  have E_b11 := A11
  have g_b11 : n0 ≤ b11 := Nat.le_trans (Nat.le_trans (Nat.le_trans (Nat.le_trans (Nat.le_trans Z0 E7.1) (Keep.of_wr W8).1) E9.1) (Keep.of_wr W10).1) (Nat.le_of_eq g11.symm)
  have sz_b11 : h0.size ≤ b11 := (Nat.le_trans K10.1 (Nat.le_of_eq g11.symm))
  have K11 : Keep h0 h11 [] := K10.ext E11
  have CV1_b7 := (((V_b7_8.ext E9).other W10 (Nat.ne_of_lt (Nat.lt_of_lt_of_le V_b7_8.lt (Nat.le_of_eq g9.symm)))).ext E11)
  have CE1_b7 := ((((I7.wr W8).ext E9).wr W10).ext E11)
  have CV1_b9 := (V_b9_10.ext E11)
  have CE1_b9 := ((I9.wr W10).ext E11)
  have CE1_b11 := E_b11
  -- pc 202: the constructor of com/example/stagecraft/stagecraft/examples/GenericDotProduct by its contract rm1
  obtain ⟨_, _, ⟨T12, L12, k12, n12⟩, -, X12, ⟨Lc12, hQ12, l12, y12, z12⟩, st12⟩ := X11.specialBack hx (y := (⟨"com/example/stagecraft/stagecraft/examples/GenericDotProduct", "<init>", "([I)V"⟩ : MethodName)) rfl hown (mvT hZ (hw _ (List.mem_of_getElem? (i := 5) rfl))) (mvT hZ (hw _ (List.mem_of_getElem? (i := 6) rfl))) (mvT hZ (hw _ (List.mem_of_getElem? (i := 7) rfl))) (by decide) (backOf (W := 1) (rm1 l Z a0 hw [] b11 b7 k7 (1 : Int32) [(.int v0)] .null h11 n0 Z11 CV1_b7 (by decide) CE1_b7 E_b11 F_fixed_b11 g_b11) hZ (hw _ (List.mem_of_getElem? (i := 7) rfl)) (hw _ (List.mem_of_getElem? (i := 4) rfl)) (by decide) (by decide)) (g := (mkF m 202 (own_L p1 q2 q3 q4 q5 p6 (1 : Int32) (0 : Int32) v0 v1 v2 v3 w0 w1 w2 w3 [.val (.ref b7), .val (.int (1 : Int32)), .val (.ref b9), .unset, .unset, .unset]) [(.ref b7), (.ref b11), (.ref b11)])) rfl (by rw [hml]; rfl) (Steps.refl _) (a := b11) (argsL := [(.ref b7)]) (rest := [(.ref b11)]) (lenOf pd_0_0 rfl) rfl (by show 2 * 0 + _ ≤ _; exact Nat.le_of_eq rfl) (hb hby at_202) (fun _ _ => ⟨rfl, e11, (by decide : 3 + 1 ≤ _), (by decide : 3 + 4 ≤ _)⟩)
  dsimp only [Pt.U, Pt.locs, Pt.cells, Pt.slots] at X12 l12 y12 z12 st12 hQ12
  subst l12 y12 z12
  obtain ⟨rfl, N12q, K12q, E12x, t12, F12a, V12a⟩ := hQ12
  have Z12 : n0 ≤ T12.heap.size := Nat.le_trans Z11 K12q.1
  have N12 := Fr.app N10 N12q
  have CE2_b7 := (((((I7.wr W8).ext E9).wr W10).ext E11).keep K12q)
  have CE2_b9 := (((I9.wr W10).ext E11).keep K12q)
  have CE2_b11 := (E_b11.keep K12q)
  -- pc 211: com/example/stagecraft/stagecraft/examples/GenericDotProduct.apply by the contract of the body that the receiver's class selects, rm3
  obtain ⟨cq13, kq13, q13a, q13b, q13c⟩ := isOf hZ rfl (E_b11.keep K12q)
  obtain ⟨_, _, ⟨T13, L13, k13, n13⟩, -, X13, ⟨Lc13, hQ13, l13, y13, z13⟩, st13⟩ := X12.virtualBack hx (y := (⟨"com/example/stagecraft/stagecraft/examples/GenericDotProduct", "apply", "([I)I"⟩ : MethodName)) (z := (⟨"com/example/stagecraft/stagecraft/examples/GenericDotProduct", "apply", "([I)I"⟩ : MethodName)) hown (mvT hZ (hw _ (List.mem_of_getElem? (i := 22) rfl))) (mvT hZ (hw _ (List.mem_of_getElem? (i := 23) rfl))) (notFace_of_selects (args := #[]) (mvT hZ (hw _ (List.mem_of_getElem? (i := 25) rfl)))) (mvT hZ (hw _ (List.mem_of_getElem? (i := 25) rfl))) (mvT hZ (hw _ (List.mem_of_getElem? (i := 24) rfl))) (by decide) (backOf (W := 0) (rm3 l Z a0 hw [] b11 b9 t12 k7 k9 (1 : Int32) (1 : Int32) [(.int v0)] [(.int w0)] (fun j => [v0, v1, v2, v3].getD j 0) (fun j => [w0, w1, w2, w3].getD j 0) 1 T12.heap n0 Z12 (by decide) rfl (by decide) F12a V12a (CV1_b9.keep K12q (ninS (Nat.ne_of_lt (Nat.lt_of_lt_of_le V_b9_10.lt (Nat.le_of_eq g11.symm))) nin0)) (fun j hj => by rcases j with _ | _ | _ | _ | j <;> first | rfl | (exfalso; omega)) (fun j hj => by rcases j with _ | _ | _ | _ | j <;> first | rfl | (exfalso; omega))) hZ (hw _ (List.mem_of_getElem? (i := 26) rfl)) (hw _ (List.mem_of_getElem? (i := 4) rfl)) (by decide) (by decide)) q13a q13c (g := (mkF m 211 (own_L p1 q2 q3 q4 q5 p6 (1 : Int32) (0 : Int32) v0 v1 v2 v3 w0 w1 w2 w3 [.val (.ref b7), .val (.int (1 : Int32)), .val (.ref b9), .val (.ref b11), .unset, .unset]) [(.ref b9), (.ref b11)])) rfl (by rw [hml]; rfl) (Steps.refl _) (argsL := [(.ref b9)]) (rest := []) (lenOf pd_0_3 rfl) rfl (by show 2 * 0 + _ ≤ _; exact Nat.le_of_eq rfl) (hb hby at_211) (fun _ _ => ⟨rfl, rfl, (by decide : 4 + 0 ≤ _), (by decide : 7 + 0 ≤ _)⟩)
  dsimp only [Pt.U, Pt.locs, Pt.cells, Pt.slots] at X13 l13 y13 z13 st13 hQ13
  subst l13 y13 z13
  obtain ⟨rfl, N13q, E13q⟩ := hQ13
  have K13q : Keep T12.heap T13.heap [] := by rw [E13q]; exact Keep.refl _ _
  have Z13 : n0 ≤ T13.heap.size := Nat.le_trans Z12 K13q.1
  have N13 := Fr.app N12 N13q
  obtain ⟨fs, hr, hrun, hended, hW, hsame⟩ := X13.leave (v := some (.int (1 : Int32))) (fun h => by rw [Bd.returns] at h; cases h)
  refine ⟨_, _, pre0 _ ?_, hrun, hended, _, _, rfl, ?_, ⟨_, rfl⟩, hW, hsame.mono (by decide) (by decide)⟩
  -- 4. STEPS
  · show Steps p.tables e below (s₁.setTop (mkF m 0 #[.val (.int p1), .val (.long q2), .second, .val (.long q3), .second, .val (.long q4), .second, .val (.long q5), .second, .val (.int p6), .unset, .unset, .unset, .unset, .unset, .unset, .unset, .unset, .unset, .unset, .unset, .unset, .unset, .unset, .unset, .unset, .unset] [])) _
    refine jmp_0 _ ?_
    show Steps p.tables e below (s₁.setTop (mkF m 71 (own_L p1 q2 q3 q4 q5 p6 (1 : Int32) (0 : Int32) v0 v1 v2 v3 w0 w1 w2 w3 [.unset, .unset, .unset, .unset, .unset, .unset]) [])) _
    refine XS.iload X0.here hx rfl (hb hby at_71) rfl ?_
    show Steps p.tables e below (s₁.setTop (mkF m 73 (own_L p1 q2 q3 q4 q5 p6 (1 : Int32) (0 : Int32) v0 v1 v2 v3 w0 w1 w2 w3 [.unset, .unset, .unset, .unset, .unset, .unset]) [(.int (1 : Int32))])) _
    refine st7 _ ?_
    show Steps p.tables e below (T7.setTop (mkF m 75 (own_L p1 q2 q3 q4 q5 p6 (1 : Int32) (0 : Int32) v0 v1 v2 v3 w0 w1 w2 w3 [.unset, .unset, .unset, .unset, .unset, .unset]) [(.ref b7)])) _
    refine XS.astore X7.here hx rfl (hb hby at_75) rfl rfl (l' := (own_L p1 q2 q3 q4 q5 p6 (1 : Int32) (0 : Int32) v0 v1 v2 v3 w0 w1 w2 w3 [.val (.ref b7), .unset, .unset, .unset, .unset, .unset])) rfl ?_
    show Steps p.tables e below (T7.setTop (mkF m 77 (own_L p1 q2 q3 q4 q5 p6 (1 : Int32) (0 : Int32) v0 v1 v2 v3 w0 w1 w2 w3 [.val (.ref b7), .unset, .unset, .unset, .unset, .unset]) [])) _
    refine XS.iload X7.here hx rfl (hb hby at_77) rfl ?_
    show Steps p.tables e below (T7.setTop (mkF m 79 (own_L p1 q2 q3 q4 q5 p6 (1 : Int32) (0 : Int32) v0 v1 v2 v3 w0 w1 w2 w3 [.val (.ref b7), .unset, .unset, .unset, .unset, .unset]) [(.int (1 : Int32))])) _
    refine XS.ifNo X7.here hx rfl (hb hby at_79) rfl ((if0 _ _).trans (tlt (by decide : (0 : Int32) < (1 : Int32))).2.2.2) ?_
    show Steps p.tables e below (T7.setTop (mkF m 82 (own_L p1 q2 q3 q4 q5 p6 (1 : Int32) (0 : Int32) v0 v1 v2 v3 w0 w1 w2 w3 [.val (.ref b7), .unset, .unset, .unset, .unset, .unset]) [])) _
    refine XS.aload X7.here hx rfl (hb hby at_82) rfl rfl ?_
    show Steps p.tables e below (T7.setTop (mkF m 84 (own_L p1 q2 q3 q4 q5 p6 (1 : Int32) (0 : Int32) v0 v1 v2 v3 w0 w1 w2 w3 [.val (.ref b7), .unset, .unset, .unset, .unset, .unset]) [(.ref b7)])) _
    refine XS.iconst X7.here hx rfl (hb hby at_84) ?_
    show Steps p.tables e below (T7.setTop (mkF m 85 (own_L p1 q2 q3 q4 q5 p6 (1 : Int32) (0 : Int32) v0 v1 v2 v3 w0 w1 w2 w3 [.val (.ref b7), .unset, .unset, .unset, .unset, .unset]) [(.int (0 : Int32)), (.ref b7)])) _
    refine XS.iload X7.here hx rfl (hb hby at_85) rfl ?_
    show Steps p.tables e below (T7.setTop (mkF m 87 (own_L p1 q2 q3 q4 q5 p6 (1 : Int32) (0 : Int32) v0 v1 v2 v3 w0 w1 w2 w3 [.val (.ref b7), .unset, .unset, .unset, .unset, .unset]) [(.int v0), (.int (0 : Int32)), (.ref b7)])) _
    refine st8 _ ?_
    show Steps p.tables e below (T8.setTop (mkF m 88 (own_L p1 q2 q3 q4 q5 p6 (1 : Int32) (0 : Int32) v0 v1 v2 v3 w0 w1 w2 w3 [.val (.ref b7), .unset, .unset, .unset, .unset, .unset]) [])) _
    refine XS.iload X8.here hx rfl (hb hby at_88) rfl ?_
    show Steps p.tables e below (T8.setTop (mkF m 90 (own_L p1 q2 q3 q4 q5 p6 (1 : Int32) (0 : Int32) v0 v1 v2 v3 w0 w1 w2 w3 [.val (.ref b7), .unset, .unset, .unset, .unset, .unset]) [(.int (1 : Int32))])) _
    refine XS.iconst X8.here hx rfl (hb hby at_90) ?_
    show Steps p.tables e below (T8.setTop (mkF m 91 (own_L p1 q2 q3 q4 q5 p6 (1 : Int32) (0 : Int32) v0 v1 v2 v3 w0 w1 w2 w3 [.val (.ref b7), .unset, .unset, .unset, .unset, .unset]) [(.int (1 : Int32)), (.int (1 : Int32))])) _
    refine XS.icmpYes X8.here hx rfl (pc0 := 91) (pc' := 100) rfl (hb hby at_91) rfl (flt (by decide : ¬ ((1 : Int32) < (1 : Int32)))).2.2.2 (by decide) (by decide) ?_
    show Steps p.tables e below (T8.setTop (mkF m 100 (own_L p1 q2 q3 q4 q5 p6 (1 : Int32) (0 : Int32) v0 v1 v2 v3 w0 w1 w2 w3 [.val (.ref b7), .unset, .unset, .unset, .unset, .unset]) [])) _
    refine XS.iload X8.here hx rfl (hb hby at_100) rfl ?_
    show Steps p.tables e below (T8.setTop (mkF m 102 (own_L p1 q2 q3 q4 q5 p6 (1 : Int32) (0 : Int32) v0 v1 v2 v3 w0 w1 w2 w3 [.val (.ref b7), .unset, .unset, .unset, .unset, .unset]) [(.int (1 : Int32))])) _
    refine XS.iconst X8.here hx rfl (hb hby at_102) ?_
    show Steps p.tables e below (T8.setTop (mkF m 103 (own_L p1 q2 q3 q4 q5 p6 (1 : Int32) (0 : Int32) v0 v1 v2 v3 w0 w1 w2 w3 [.val (.ref b7), .unset, .unset, .unset, .unset, .unset]) [(.int (2 : Int32)), (.int (1 : Int32))])) _
    refine XS.icmpYes X8.here hx rfl (pc0 := 103) (pc' := 112) rfl (hb hby at_103) rfl (flt (by decide : ¬ ((2 : Int32) < (1 : Int32)))).2.2.2 (by decide) (by decide) ?_
    show Steps p.tables e below (T8.setTop (mkF m 112 (own_L p1 q2 q3 q4 q5 p6 (1 : Int32) (0 : Int32) v0 v1 v2 v3 w0 w1 w2 w3 [.val (.ref b7), .unset, .unset, .unset, .unset, .unset]) [])) _
    refine XS.iload X8.here hx rfl (hb hby at_112) rfl ?_
    show Steps p.tables e below (T8.setTop (mkF m 114 (own_L p1 q2 q3 q4 q5 p6 (1 : Int32) (0 : Int32) v0 v1 v2 v3 w0 w1 w2 w3 [.val (.ref b7), .unset, .unset, .unset, .unset, .unset]) [(.int (1 : Int32))])) _
    refine XS.iconst X8.here hx rfl (hb hby at_114) ?_
    show Steps p.tables e below (T8.setTop (mkF m 115 (own_L p1 q2 q3 q4 q5 p6 (1 : Int32) (0 : Int32) v0 v1 v2 v3 w0 w1 w2 w3 [.val (.ref b7), .unset, .unset, .unset, .unset, .unset]) [(.int (3 : Int32)), (.int (1 : Int32))])) _
    refine XS.icmpYes X8.here hx rfl (pc0 := 115) (pc' := 124) rfl (hb hby at_115) rfl (flt (by decide : ¬ ((3 : Int32) < (1 : Int32)))).2.2.2 (by decide) (by decide) ?_
    show Steps p.tables e below (T8.setTop (mkF m 124 (own_L p1 q2 q3 q4 q5 p6 (1 : Int32) (0 : Int32) v0 v1 v2 v3 w0 w1 w2 w3 [.val (.ref b7), .unset, .unset, .unset, .unset, .unset]) [])) _
    refine jmp_124 _ ?_
    show Steps p.tables e below (T8.setTop (mkF m 131 (own_L p1 q2 q3 q4 q5 p6 (1 : Int32) (0 : Int32) v0 v1 v2 v3 w0 w1 w2 w3 [.val (.ref b7), .val (.int (1 : Int32)), .unset, .unset, .unset, .unset]) [])) _
    refine XS.iload X8.here hx rfl (hb hby at_131) rfl ?_
    show Steps p.tables e below (T8.setTop (mkF m 133 (own_L p1 q2 q3 q4 q5 p6 (1 : Int32) (0 : Int32) v0 v1 v2 v3 w0 w1 w2 w3 [.val (.ref b7), .val (.int (1 : Int32)), .unset, .unset, .unset, .unset]) [(.int (1 : Int32))])) _
    refine st9 _ ?_
    show Steps p.tables e below (T9.setTop (mkF m 135 (own_L p1 q2 q3 q4 q5 p6 (1 : Int32) (0 : Int32) v0 v1 v2 v3 w0 w1 w2 w3 [.val (.ref b7), .val (.int (1 : Int32)), .unset, .unset, .unset, .unset]) [(.ref b9)])) _
    refine XS.astore X9.here hx rfl (hb hby at_135) rfl rfl (l' := (own_L p1 q2 q3 q4 q5 p6 (1 : Int32) (0 : Int32) v0 v1 v2 v3 w0 w1 w2 w3 [.val (.ref b7), .val (.int (1 : Int32)), .val (.ref b9), .unset, .unset, .unset])) rfl ?_
    show Steps p.tables e below (T9.setTop (mkF m 137 (own_L p1 q2 q3 q4 q5 p6 (1 : Int32) (0 : Int32) v0 v1 v2 v3 w0 w1 w2 w3 [.val (.ref b7), .val (.int (1 : Int32)), .val (.ref b9), .unset, .unset, .unset]) [])) _
    refine XS.iload X9.here hx rfl (hb hby at_137) rfl ?_
    show Steps p.tables e below (T9.setTop (mkF m 139 (own_L p1 q2 q3 q4 q5 p6 (1 : Int32) (0 : Int32) v0 v1 v2 v3 w0 w1 w2 w3 [.val (.ref b7), .val (.int (1 : Int32)), .val (.ref b9), .unset, .unset, .unset]) [(.int (1 : Int32))])) _
    refine XS.ifNo X9.here hx rfl (hb hby at_139) rfl ((if0 _ _).trans (tlt (by decide : (0 : Int32) < (1 : Int32))).2.2.2) ?_
    show Steps p.tables e below (T9.setTop (mkF m 142 (own_L p1 q2 q3 q4 q5 p6 (1 : Int32) (0 : Int32) v0 v1 v2 v3 w0 w1 w2 w3 [.val (.ref b7), .val (.int (1 : Int32)), .val (.ref b9), .unset, .unset, .unset]) [])) _
    refine XS.aload X9.here hx rfl (hb hby at_142) rfl rfl ?_
    show Steps p.tables e below (T9.setTop (mkF m 144 (own_L p1 q2 q3 q4 q5 p6 (1 : Int32) (0 : Int32) v0 v1 v2 v3 w0 w1 w2 w3 [.val (.ref b7), .val (.int (1 : Int32)), .val (.ref b9), .unset, .unset, .unset]) [(.ref b9)])) _
    refine XS.iconst X9.here hx rfl (hb hby at_144) ?_
    show Steps p.tables e below (T9.setTop (mkF m 145 (own_L p1 q2 q3 q4 q5 p6 (1 : Int32) (0 : Int32) v0 v1 v2 v3 w0 w1 w2 w3 [.val (.ref b7), .val (.int (1 : Int32)), .val (.ref b9), .unset, .unset, .unset]) [(.int (0 : Int32)), (.ref b9)])) _
    refine XS.iload X9.here hx rfl (hb hby at_145) rfl ?_
    show Steps p.tables e below (T9.setTop (mkF m 147 (own_L p1 q2 q3 q4 q5 p6 (1 : Int32) (0 : Int32) v0 v1 v2 v3 w0 w1 w2 w3 [.val (.ref b7), .val (.int (1 : Int32)), .val (.ref b9), .unset, .unset, .unset]) [(.int w0), (.int (0 : Int32)), (.ref b9)])) _
    refine st10 _ ?_
    show Steps p.tables e below (T10.setTop (mkF m 148 (own_L p1 q2 q3 q4 q5 p6 (1 : Int32) (0 : Int32) v0 v1 v2 v3 w0 w1 w2 w3 [.val (.ref b7), .val (.int (1 : Int32)), .val (.ref b9), .unset, .unset, .unset]) [])) _
    refine XS.iload X10.here hx rfl (hb hby at_148) rfl ?_
    show Steps p.tables e below (T10.setTop (mkF m 150 (own_L p1 q2 q3 q4 q5 p6 (1 : Int32) (0 : Int32) v0 v1 v2 v3 w0 w1 w2 w3 [.val (.ref b7), .val (.int (1 : Int32)), .val (.ref b9), .unset, .unset, .unset]) [(.int (1 : Int32))])) _
    refine XS.iconst X10.here hx rfl (hb hby at_150) ?_
    show Steps p.tables e below (T10.setTop (mkF m 151 (own_L p1 q2 q3 q4 q5 p6 (1 : Int32) (0 : Int32) v0 v1 v2 v3 w0 w1 w2 w3 [.val (.ref b7), .val (.int (1 : Int32)), .val (.ref b9), .unset, .unset, .unset]) [(.int (1 : Int32)), (.int (1 : Int32))])) _
    refine XS.icmpYes X10.here hx rfl (pc0 := 151) (pc' := 160) rfl (hb hby at_151) rfl (flt (by decide : ¬ ((1 : Int32) < (1 : Int32)))).2.2.2 (by decide) (by decide) ?_
    show Steps p.tables e below (T10.setTop (mkF m 160 (own_L p1 q2 q3 q4 q5 p6 (1 : Int32) (0 : Int32) v0 v1 v2 v3 w0 w1 w2 w3 [.val (.ref b7), .val (.int (1 : Int32)), .val (.ref b9), .unset, .unset, .unset]) [])) _
    refine XS.iload X10.here hx rfl (hb hby at_160) rfl ?_
    show Steps p.tables e below (T10.setTop (mkF m 162 (own_L p1 q2 q3 q4 q5 p6 (1 : Int32) (0 : Int32) v0 v1 v2 v3 w0 w1 w2 w3 [.val (.ref b7), .val (.int (1 : Int32)), .val (.ref b9), .unset, .unset, .unset]) [(.int (1 : Int32))])) _
    refine XS.iconst X10.here hx rfl (hb hby at_162) ?_
    show Steps p.tables e below (T10.setTop (mkF m 163 (own_L p1 q2 q3 q4 q5 p6 (1 : Int32) (0 : Int32) v0 v1 v2 v3 w0 w1 w2 w3 [.val (.ref b7), .val (.int (1 : Int32)), .val (.ref b9), .unset, .unset, .unset]) [(.int (2 : Int32)), (.int (1 : Int32))])) _
    refine XS.icmpYes X10.here hx rfl (pc0 := 163) (pc' := 172) rfl (hb hby at_163) rfl (flt (by decide : ¬ ((2 : Int32) < (1 : Int32)))).2.2.2 (by decide) (by decide) ?_
    show Steps p.tables e below (T10.setTop (mkF m 172 (own_L p1 q2 q3 q4 q5 p6 (1 : Int32) (0 : Int32) v0 v1 v2 v3 w0 w1 w2 w3 [.val (.ref b7), .val (.int (1 : Int32)), .val (.ref b9), .unset, .unset, .unset]) [])) _
    refine XS.iload X10.here hx rfl (hb hby at_172) rfl ?_
    show Steps p.tables e below (T10.setTop (mkF m 174 (own_L p1 q2 q3 q4 q5 p6 (1 : Int32) (0 : Int32) v0 v1 v2 v3 w0 w1 w2 w3 [.val (.ref b7), .val (.int (1 : Int32)), .val (.ref b9), .unset, .unset, .unset]) [(.int (1 : Int32))])) _
    refine XS.iconst X10.here hx rfl (hb hby at_174) ?_
    show Steps p.tables e below (T10.setTop (mkF m 175 (own_L p1 q2 q3 q4 q5 p6 (1 : Int32) (0 : Int32) v0 v1 v2 v3 w0 w1 w2 w3 [.val (.ref b7), .val (.int (1 : Int32)), .val (.ref b9), .unset, .unset, .unset]) [(.int (3 : Int32)), (.int (1 : Int32))])) _
    refine XS.icmpYes X10.here hx rfl (pc0 := 175) (pc' := 184) rfl (hb hby at_175) rfl (flt (by decide : ¬ ((3 : Int32) < (1 : Int32)))).2.2.2 (by decide) (by decide) ?_
    show Steps p.tables e below (T10.setTop (mkF m 184 (own_L p1 q2 q3 q4 q5 p6 (1 : Int32) (0 : Int32) v0 v1 v2 v3 w0 w1 w2 w3 [.val (.ref b7), .val (.int (1 : Int32)), .val (.ref b9), .unset, .unset, .unset]) [])) _
    refine XS.iload X10.here hx rfl (hb hby at_184) rfl ?_
    show Steps p.tables e below (T10.setTop (mkF m 186 (own_L p1 q2 q3 q4 q5 p6 (1 : Int32) (0 : Int32) v0 v1 v2 v3 w0 w1 w2 w3 [.val (.ref b7), .val (.int (1 : Int32)), .val (.ref b9), .unset, .unset, .unset]) [(.int (1 : Int32))])) _
    refine XS.iconst X10.here hx rfl (hb hby at_186) ?_
    show Steps p.tables e below (T10.setTop (mkF m 187 (own_L p1 q2 q3 q4 q5 p6 (1 : Int32) (0 : Int32) v0 v1 v2 v3 w0 w1 w2 w3 [.val (.ref b7), .val (.int (1 : Int32)), .val (.ref b9), .unset, .unset, .unset]) [(.int (4 : Int32)), (.int (1 : Int32))])) _
    refine XS.icmpYes X10.here hx rfl (pc0 := 187) (pc' := 196) rfl (hb hby at_187) rfl (flt (by decide : ¬ ((4 : Int32) < (1 : Int32)))).2.2.2 (by decide) (by decide) ?_
    show Steps p.tables e below (T10.setTop (mkF m 196 (own_L p1 q2 q3 q4 q5 p6 (1 : Int32) (0 : Int32) v0 v1 v2 v3 w0 w1 w2 w3 [.val (.ref b7), .val (.int (1 : Int32)), .val (.ref b9), .unset, .unset, .unset]) [])) _
    refine st11 _ ?_
    show Steps p.tables e below (T11.setTop (mkF m 199 (own_L p1 q2 q3 q4 q5 p6 (1 : Int32) (0 : Int32) v0 v1 v2 v3 w0 w1 w2 w3 [.val (.ref b7), .val (.int (1 : Int32)), .val (.ref b9), .unset, .unset, .unset]) [(.ref b11)])) _
    refine XS.dup X11.here hx rfl (hb hby at_199) rfl rfl ?_
    show Steps p.tables e below (T11.setTop (mkF m 200 (own_L p1 q2 q3 q4 q5 p6 (1 : Int32) (0 : Int32) v0 v1 v2 v3 w0 w1 w2 w3 [.val (.ref b7), .val (.int (1 : Int32)), .val (.ref b9), .unset, .unset, .unset]) [(.ref b11), (.ref b11)])) _
    refine XS.aload X11.here hx rfl (hb hby at_200) rfl rfl ?_
    show Steps p.tables e below (T11.setTop (mkF m 202 (own_L p1 q2 q3 q4 q5 p6 (1 : Int32) (0 : Int32) v0 v1 v2 v3 w0 w1 w2 w3 [.val (.ref b7), .val (.int (1 : Int32)), .val (.ref b9), .unset, .unset, .unset]) [(.ref b7), (.ref b11), (.ref b11)])) _
    refine st12.trans ?_
    show Steps p.tables e below (T12.setTop (mkF m 205 (own_L p1 q2 q3 q4 q5 p6 (1 : Int32) (0 : Int32) v0 v1 v2 v3 w0 w1 w2 w3 [.val (.ref b7), .val (.int (1 : Int32)), .val (.ref b9), .unset, .unset, .unset]) [(.ref b11)])) _
    refine XS.astore X12.here hx rfl (hb hby at_205) rfl rfl (l' := (own_L p1 q2 q3 q4 q5 p6 (1 : Int32) (0 : Int32) v0 v1 v2 v3 w0 w1 w2 w3 [.val (.ref b7), .val (.int (1 : Int32)), .val (.ref b9), .val (.ref b11), .unset, .unset])) rfl ?_
    show Steps p.tables e below (T12.setTop (mkF m 207 (own_L p1 q2 q3 q4 q5 p6 (1 : Int32) (0 : Int32) v0 v1 v2 v3 w0 w1 w2 w3 [.val (.ref b7), .val (.int (1 : Int32)), .val (.ref b9), .val (.ref b11), .unset, .unset]) [])) _
    refine XS.aload X12.here hx rfl (hb hby at_207) rfl rfl ?_
    show Steps p.tables e below (T12.setTop (mkF m 209 (own_L p1 q2 q3 q4 q5 p6 (1 : Int32) (0 : Int32) v0 v1 v2 v3 w0 w1 w2 w3 [.val (.ref b7), .val (.int (1 : Int32)), .val (.ref b9), .val (.ref b11), .unset, .unset]) [(.ref b11)])) _
    refine XS.aload X12.here hx rfl (hb hby at_209) rfl rfl ?_
    show Steps p.tables e below (T12.setTop (mkF m 211 (own_L p1 q2 q3 q4 q5 p6 (1 : Int32) (0 : Int32) v0 v1 v2 v3 w0 w1 w2 w3 [.val (.ref b7), .val (.int (1 : Int32)), .val (.ref b9), .val (.ref b11), .unset, .unset]) [(.ref b9), (.ref b11)])) _
    refine st13.trans ?_
    show Steps p.tables e below (T13.setTop (mkF m 214 (own_L p1 q2 q3 q4 q5 p6 (1 : Int32) (0 : Int32) v0 v1 v2 v3 w0 w1 w2 w3 [.val (.ref b7), .val (.int (1 : Int32)), .val (.ref b9), .val (.ref b11), .unset, .unset]) [(.int (own_acc (fun j => [v0, v1, v2, v3].getD j 0) (fun j => [w0, w1, w2, w3].getD j 0) 1 0 0))])) _
    refine XS.istore X13.here hx rfl (hb hby at_214) rfl (l' := (own_L p1 q2 q3 q4 q5 p6 (1 : Int32) (0 : Int32) v0 v1 v2 v3 w0 w1 w2 w3 [.val (.ref b7), .val (.int (1 : Int32)), .val (.ref b9), .val (.ref b11), .val (.int (own_acc (fun j => [v0, v1, v2, v3].getD j 0) (fun j => [w0, w1, w2, w3].getD j 0) 1 0 0)), .unset])) rfl ?_
    show Steps p.tables e below (T13.setTop (mkF m 216 (own_L p1 q2 q3 q4 q5 p6 (1 : Int32) (0 : Int32) v0 v1 v2 v3 w0 w1 w2 w3 [.val (.ref b7), .val (.int (1 : Int32)), .val (.ref b9), .val (.ref b11), .val (.int (own_acc (fun j => [v0, v1, v2, v3].getD j 0) (fun j => [w0, w1, w2, w3].getD j 0) 1 0 0)), .unset]) [])) _
    refine XS.iconst X13.here hx rfl (hb hby at_216) ?_
    show Steps p.tables e below (T13.setTop (mkF m 217 (own_L p1 q2 q3 q4 q5 p6 (1 : Int32) (0 : Int32) v0 v1 v2 v3 w0 w1 w2 w3 [.val (.ref b7), .val (.int (1 : Int32)), .val (.ref b9), .val (.ref b11), .val (.int (own_acc (fun j => [v0, v1, v2, v3].getD j 0) (fun j => [w0, w1, w2, w3].getD j 0) 1 0 0)), .unset]) [(.int (0 : Int32))])) _
    refine XS.istore X13.here hx rfl (hb hby at_217) rfl (l' := (own_L p1 q2 q3 q4 q5 p6 (1 : Int32) (0 : Int32) v0 v1 v2 v3 w0 w1 w2 w3 [.val (.ref b7), .val (.int (1 : Int32)), .val (.ref b9), .val (.ref b11), .val (.int (own_acc (fun j => [v0, v1, v2, v3].getD j 0) (fun j => [w0, w1, w2, w3].getD j 0) 1 0 0)), .val (.int (0 : Int32))])) rfl ?_
    show Steps p.tables e below (T13.setTop (mkF m 219 (own_L p1 q2 q3 q4 q5 p6 (1 : Int32) (0 : Int32) v0 v1 v2 v3 w0 w1 w2 w3 [.val (.ref b7), .val (.int (1 : Int32)), .val (.ref b9), .val (.ref b11), .val (.int (own_acc (fun j => [v0, v1, v2, v3].getD j 0) (fun j => [w0, w1, w2, w3].getD j 0) 1 0 0)), .val (.int (0 : Int32))]) [])) _
    refine XS.iload X13.here hx rfl (hb hby at_219) rfl ?_
    show Steps p.tables e below (T13.setTop (mkF m 221 (own_L p1 q2 q3 q4 q5 p6 (1 : Int32) (0 : Int32) v0 v1 v2 v3 w0 w1 w2 w3 [.val (.ref b7), .val (.int (1 : Int32)), .val (.ref b9), .val (.ref b11), .val (.int (own_acc (fun j => [v0, v1, v2, v3].getD j 0) (fun j => [w0, w1, w2, w3].getD j 0) 1 0 0)), .val (.int (0 : Int32))]) [(.int (1 : Int32))])) _
    refine XS.ifNo X13.here hx rfl (hb hby at_221) rfl ((if0 _ _).trans (tlt (by decide : (0 : Int32) < (1 : Int32))).2.2.2) ?_
    show Steps p.tables e below (T13.setTop (mkF m 224 (own_L p1 q2 q3 q4 q5 p6 (1 : Int32) (0 : Int32) v0 v1 v2 v3 w0 w1 w2 w3 [.val (.ref b7), .val (.int (1 : Int32)), .val (.ref b9), .val (.ref b11), .val (.int (own_acc (fun j => [v0, v1, v2, v3].getD j 0) (fun j => [w0, w1, w2, w3].getD j 0) 1 0 0)), .val (.int (0 : Int32))]) [])) _
    refine XS.iload X13.here hx rfl (hb hby at_224) rfl ?_
    show Steps p.tables e below (T13.setTop (mkF m 226 (own_L p1 q2 q3 q4 q5 p6 (1 : Int32) (0 : Int32) v0 v1 v2 v3 w0 w1 w2 w3 [.val (.ref b7), .val (.int (1 : Int32)), .val (.ref b9), .val (.ref b11), .val (.int (own_acc (fun j => [v0, v1, v2, v3].getD j 0) (fun j => [w0, w1, w2, w3].getD j 0) 1 0 0)), .val (.int (0 : Int32))]) [(.int (0 : Int32))])) _
    refine XS.iload X13.here hx rfl (hb hby at_226) rfl ?_
    show Steps p.tables e below (T13.setTop (mkF m 228 (own_L p1 q2 q3 q4 q5 p6 (1 : Int32) (0 : Int32) v0 v1 v2 v3 w0 w1 w2 w3 [.val (.ref b7), .val (.int (1 : Int32)), .val (.ref b9), .val (.ref b11), .val (.int (own_acc (fun j => [v0, v1, v2, v3].getD j 0) (fun j => [w0, w1, w2, w3].getD j 0) 1 0 0)), .val (.int (0 : Int32))]) [(.int v0), (.int (0 : Int32))])) _
    refine XS.iload X13.here hx rfl (hb hby at_228) rfl ?_
    show Steps p.tables e below (T13.setTop (mkF m 230 (own_L p1 q2 q3 q4 q5 p6 (1 : Int32) (0 : Int32) v0 v1 v2 v3 w0 w1 w2 w3 [.val (.ref b7), .val (.int (1 : Int32)), .val (.ref b9), .val (.ref b11), .val (.int (own_acc (fun j => [v0, v1, v2, v3].getD j 0) (fun j => [w0, w1, w2, w3].getD j 0) 1 0 0)), .val (.int (0 : Int32))]) [(.int w0), (.int v0), (.int (0 : Int32))])) _
    refine XS.imul X13.here hx rfl (hb hby at_230) rfl ?_
    show Steps p.tables e below (T13.setTop (mkF m 231 (own_L p1 q2 q3 q4 q5 p6 (1 : Int32) (0 : Int32) v0 v1 v2 v3 w0 w1 w2 w3 [.val (.ref b7), .val (.int (1 : Int32)), .val (.ref b9), .val (.ref b11), .val (.int (own_acc (fun j => [v0, v1, v2, v3].getD j 0) (fun j => [w0, w1, w2, w3].getD j 0) 1 0 0)), .val (.int (0 : Int32))]) [(.int (v0 * w0)), (.int (0 : Int32))])) _
    refine XS.iadd X13.here hx rfl (hb hby at_231) rfl ?_
    show Steps p.tables e below (T13.setTop (mkF m 232 (own_L p1 q2 q3 q4 q5 p6 (1 : Int32) (0 : Int32) v0 v1 v2 v3 w0 w1 w2 w3 [.val (.ref b7), .val (.int (1 : Int32)), .val (.ref b9), .val (.ref b11), .val (.int (own_acc (fun j => [v0, v1, v2, v3].getD j 0) (fun j => [w0, w1, w2, w3].getD j 0) 1 0 0)), .val (.int (0 : Int32))]) [(.int ((0 : Int32) + (v0 * w0)))])) _
    refine XS.istore X13.here hx rfl (hb hby at_232) rfl (l' := (own_L p1 q2 q3 q4 q5 p6 (1 : Int32) (0 : Int32) v0 v1 v2 v3 w0 w1 w2 w3 [.val (.ref b7), .val (.int (1 : Int32)), .val (.ref b9), .val (.ref b11), .val (.int (own_acc (fun j => [v0, v1, v2, v3].getD j 0) (fun j => [w0, w1, w2, w3].getD j 0) 1 0 0)), .val (.int ((0 : Int32) + (v0 * w0)))])) rfl ?_
    show Steps p.tables e below (T13.setTop (mkF m 234 (own_L p1 q2 q3 q4 q5 p6 (1 : Int32) (0 : Int32) v0 v1 v2 v3 w0 w1 w2 w3 [.val (.ref b7), .val (.int (1 : Int32)), .val (.ref b9), .val (.ref b11), .val (.int (own_acc (fun j => [v0, v1, v2, v3].getD j 0) (fun j => [w0, w1, w2, w3].getD j 0) 1 0 0)), .val (.int ((0 : Int32) + (v0 * w0)))]) [])) _
    refine XS.iload X13.here hx rfl (hb hby at_234) rfl ?_
    show Steps p.tables e below (T13.setTop (mkF m 236 (own_L p1 q2 q3 q4 q5 p6 (1 : Int32) (0 : Int32) v0 v1 v2 v3 w0 w1 w2 w3 [.val (.ref b7), .val (.int (1 : Int32)), .val (.ref b9), .val (.ref b11), .val (.int (own_acc (fun j => [v0, v1, v2, v3].getD j 0) (fun j => [w0, w1, w2, w3].getD j 0) 1 0 0)), .val (.int ((0 : Int32) + (v0 * w0)))]) [(.int (1 : Int32))])) _
    refine XS.iconst X13.here hx rfl (hb hby at_236) ?_
    show Steps p.tables e below (T13.setTop (mkF m 237 (own_L p1 q2 q3 q4 q5 p6 (1 : Int32) (0 : Int32) v0 v1 v2 v3 w0 w1 w2 w3 [.val (.ref b7), .val (.int (1 : Int32)), .val (.ref b9), .val (.ref b11), .val (.int (own_acc (fun j => [v0, v1, v2, v3].getD j 0) (fun j => [w0, w1, w2, w3].getD j 0) 1 0 0)), .val (.int ((0 : Int32) + (v0 * w0)))]) [(.int (1 : Int32)), (.int (1 : Int32))])) _
    refine XS.icmpYes X13.here hx rfl (pc0 := 237) (pc' := 250) rfl (hb hby at_237) rfl (flt (by decide : ¬ ((1 : Int32) < (1 : Int32)))).2.2.2 (by decide) (by decide) ?_
    show Steps p.tables e below (T13.setTop (mkF m 250 (own_L p1 q2 q3 q4 q5 p6 (1 : Int32) (0 : Int32) v0 v1 v2 v3 w0 w1 w2 w3 [.val (.ref b7), .val (.int (1 : Int32)), .val (.ref b9), .val (.ref b11), .val (.int (own_acc (fun j => [v0, v1, v2, v3].getD j 0) (fun j => [w0, w1, w2, w3].getD j 0) 1 0 0)), .val (.int ((0 : Int32) + (v0 * w0)))]) [])) _
    refine XS.iload X13.here hx rfl (hb hby at_250) rfl ?_
    show Steps p.tables e below (T13.setTop (mkF m 252 (own_L p1 q2 q3 q4 q5 p6 (1 : Int32) (0 : Int32) v0 v1 v2 v3 w0 w1 w2 w3 [.val (.ref b7), .val (.int (1 : Int32)), .val (.ref b9), .val (.ref b11), .val (.int (own_acc (fun j => [v0, v1, v2, v3].getD j 0) (fun j => [w0, w1, w2, w3].getD j 0) 1 0 0)), .val (.int ((0 : Int32) + (v0 * w0)))]) [(.int (1 : Int32))])) _
    refine XS.iconst X13.here hx rfl (hb hby at_252) ?_
    show Steps p.tables e below (T13.setTop (mkF m 253 (own_L p1 q2 q3 q4 q5 p6 (1 : Int32) (0 : Int32) v0 v1 v2 v3 w0 w1 w2 w3 [.val (.ref b7), .val (.int (1 : Int32)), .val (.ref b9), .val (.ref b11), .val (.int (own_acc (fun j => [v0, v1, v2, v3].getD j 0) (fun j => [w0, w1, w2, w3].getD j 0) 1 0 0)), .val (.int ((0 : Int32) + (v0 * w0)))]) [(.int (2 : Int32)), (.int (1 : Int32))])) _
    refine XS.icmpYes X13.here hx rfl (pc0 := 253) (pc' := 266) rfl (hb hby at_253) rfl (flt (by decide : ¬ ((2 : Int32) < (1 : Int32)))).2.2.2 (by decide) (by decide) ?_
    show Steps p.tables e below (T13.setTop (mkF m 266 (own_L p1 q2 q3 q4 q5 p6 (1 : Int32) (0 : Int32) v0 v1 v2 v3 w0 w1 w2 w3 [.val (.ref b7), .val (.int (1 : Int32)), .val (.ref b9), .val (.ref b11), .val (.int (own_acc (fun j => [v0, v1, v2, v3].getD j 0) (fun j => [w0, w1, w2, w3].getD j 0) 1 0 0)), .val (.int ((0 : Int32) + (v0 * w0)))]) [])) _
    refine XS.iload X13.here hx rfl (hb hby at_266) rfl ?_
    show Steps p.tables e below (T13.setTop (mkF m 268 (own_L p1 q2 q3 q4 q5 p6 (1 : Int32) (0 : Int32) v0 v1 v2 v3 w0 w1 w2 w3 [.val (.ref b7), .val (.int (1 : Int32)), .val (.ref b9), .val (.ref b11), .val (.int (own_acc (fun j => [v0, v1, v2, v3].getD j 0) (fun j => [w0, w1, w2, w3].getD j 0) 1 0 0)), .val (.int ((0 : Int32) + (v0 * w0)))]) [(.int (1 : Int32))])) _
    refine XS.iconst X13.here hx rfl (hb hby at_268) ?_
    show Steps p.tables e below (T13.setTop (mkF m 269 (own_L p1 q2 q3 q4 q5 p6 (1 : Int32) (0 : Int32) v0 v1 v2 v3 w0 w1 w2 w3 [.val (.ref b7), .val (.int (1 : Int32)), .val (.ref b9), .val (.ref b11), .val (.int (own_acc (fun j => [v0, v1, v2, v3].getD j 0) (fun j => [w0, w1, w2, w3].getD j 0) 1 0 0)), .val (.int ((0 : Int32) + (v0 * w0)))]) [(.int (3 : Int32)), (.int (1 : Int32))])) _
    refine XS.icmpYes X13.here hx rfl (pc0 := 269) (pc' := 282) rfl (hb hby at_269) rfl (flt (by decide : ¬ ((3 : Int32) < (1 : Int32)))).2.2.2 (by decide) (by decide) ?_
    show Steps p.tables e below (T13.setTop (mkF m 282 (own_L p1 q2 q3 q4 q5 p6 (1 : Int32) (0 : Int32) v0 v1 v2 v3 w0 w1 w2 w3 [.val (.ref b7), .val (.int (1 : Int32)), .val (.ref b9), .val (.ref b11), .val (.int (own_acc (fun j => [v0, v1, v2, v3].getD j 0) (fun j => [w0, w1, w2, w3].getD j 0) 1 0 0)), .val (.int ((0 : Int32) + (v0 * w0)))]) [])) _
    refine XS.iload X13.here hx rfl (hb hby at_282) rfl ?_
    show Steps p.tables e below (T13.setTop (mkF m 284 (own_L p1 q2 q3 q4 q5 p6 (1 : Int32) (0 : Int32) v0 v1 v2 v3 w0 w1 w2 w3 [.val (.ref b7), .val (.int (1 : Int32)), .val (.ref b9), .val (.ref b11), .val (.int (own_acc (fun j => [v0, v1, v2, v3].getD j 0) (fun j => [w0, w1, w2, w3].getD j 0) 1 0 0)), .val (.int ((0 : Int32) + (v0 * w0)))]) [(.int (own_acc (fun j => [v0, v1, v2, v3].getD j 0) (fun j => [w0, w1, w2, w3].getD j 0) 1 0 0))])) _
    refine XS.iload X13.here hx rfl (hb hby at_284) rfl ?_
    show Steps p.tables e below (T13.setTop (mkF m 286 (own_L p1 q2 q3 q4 q5 p6 (1 : Int32) (0 : Int32) v0 v1 v2 v3 w0 w1 w2 w3 [.val (.ref b7), .val (.int (1 : Int32)), .val (.ref b9), .val (.ref b11), .val (.int (own_acc (fun j => [v0, v1, v2, v3].getD j 0) (fun j => [w0, w1, w2, w3].getD j 0) 1 0 0)), .val (.int ((0 : Int32) + (v0 * w0)))]) [(.int ((0 : Int32) + (v0 * w0))), (.int (own_acc (fun j => [v0, v1, v2, v3].getD j 0) (fun j => [w0, w1, w2, w3].getD j 0) 1 0 0))])) _
    refine XS.icmpNo X13.here hx rfl (hb hby at_286) rfl (teq (rfl : (own_acc (fun j => [v0, v1, v2, v3].getD j 0) (fun j => [w0, w1, w2, w3].getD j 0) 1 0 0) = ((0 : Int32) + (v0 * w0)))).2 ?_
    show Steps p.tables e below (T13.setTop (mkF m 289 (own_L p1 q2 q3 q4 q5 p6 (1 : Int32) (0 : Int32) v0 v1 v2 v3 w0 w1 w2 w3 [.val (.ref b7), .val (.int (1 : Int32)), .val (.ref b9), .val (.ref b11), .val (.int (own_acc (fun j => [v0, v1, v2, v3].getD j 0) (fun j => [w0, w1, w2, w3].getD j 0) 1 0 0)), .val (.int ((0 : Int32) + (v0 * w0)))]) [])) _
    refine XS.iconst X13.here hx rfl (hb hby at_289) ?_
    show Steps p.tables e below (T13.setTop (mkF m 290 (own_L p1 q2 q3 q4 q5 p6 (1 : Int32) (0 : Int32) v0 v1 v2 v3 w0 w1 w2 w3 [.val (.ref b7), .val (.int (1 : Int32)), .val (.ref b9), .val (.ref b11), .val (.int (own_acc (fun j => [v0, v1, v2, v3].getD j 0) (fun j => [w0, w1, w2, w3].getD j 0) 1 0 0)), .val (.int ((0 : Int32) + (v0 * w0)))]) [(.int (1 : Int32))])) _
    refine XS.goto X13.here hx rfl (pc0 := 290) (pc' := 294) rfl (hb hby at_290) (by decide) (by decide) ?_
    show Steps p.tables e below (T13.setTop (mkF m 294 (own_L p1 q2 q3 q4 q5 p6 (1 : Int32) (0 : Int32) v0 v1 v2 v3 w0 w1 w2 w3 [.val (.ref b7), .val (.int (1 : Int32)), .val (.ref b9), .val (.ref b11), .val (.int (own_acc (fun j => [v0, v1, v2, v3].getD j 0) (fun j => [w0, w1, w2, w3].getD j 0) 1 0 0)), .val (.int ((0 : Int32) + (v0 * w0)))]) [(.int (1 : Int32))])) _
    exact retN X13 hx (t := .boolean) Bd.returns (by simp) (hb hby at_294) hr
  · show Q0 Z p1 q2 q3 q4 q5 p6 h0 n0 _ T13.heap _
    exact ⟨rfl, N13⟩
set_option maxRecDepth 65536 in
set_option maxHeartbeats 40000000 in
theorem rm0_1_1 (l : Launch) (Z : State) (a0 : Array Value) (hw : ∀ d ∈ tables_1, d.before a0 Z = true) (ws : List Jvm.Cond) (p1 : Int32) (q2 : Int64) (q3 : Int64) (q4 : Int64) (q5 : Int64) (p6 : Int32) (h0 : Heap) (n0 : Nat) (Z0 : n0 ≤ h0.size) (v0 v1 v2 v3 w0 w1 w2 w3 : Int32) (h_v0 : (q2.toInt32) = v0) (h_v1 : (((q2.toUInt64 >>> ((32 : Int32) &&& 0x3f).toInt64.toUInt64).toInt64).toInt32) = v1) (h_v2 : (q3.toInt32) = v2) (h_v3 : (((q3.toUInt64 >>> ((32 : Int32) &&& 0x3f).toInt64.toUInt64).toInt64).toInt32) = v3) (h_w0 : (q4.toInt32) = w0) (h_w1 : (((q4.toUInt64 >>> ((32 : Int32) &&& 0x3f).toInt64.toUInt64).toInt64).toInt32) = w1) (h_w2 : (q5.toInt32) = w2) (h_w3 : (((q5.toUInt64 >>> ((32 : Int32) &&& 0x3f).toInt64.toUInt64).toInt64).toInt32) = w3) (hk : ((p1 &&& (2147483647 : Int32)) % (5 : Int32)) = (1 : Int32)) (hc9 : p1 < (0 : Int32)) :
    MetFree l x (head1 (Jvm.Cond.code x code maxLocals ret :: ws) room_1) (fun a U => a = #[(.int p1), (.long q2), (.long q3), (.long q4), (.long q5), (.int p6)] ∧ Z.Warmed39 U.vm ∧ U.heap = h0) (fun _ _ _ _ _ => True) (fun _ U o U' => ∃ v L, o = .returned v ∧ Q0 Z p1 q2 q3 q4 q5 p6 h0 n0 v U'.heap L ∧ FrameEnd U o U' L room_1.cells room_1.slots) := by
  refine MetFree.of_bodySF (plainFor_of_name pn_0) hisR ?_
  intro p e s m args below meth c s₁ Bd hml0 hP hK
  obtain ⟨rfl, hZ, hh⟩ := hP
  have hx := Bd.exec
  have hby := Bd.bytes
  have hml : c.maxLocals = 27 := hml0
  have hown : s.vm.findClass "com/example/stagecraft/stagecraft/examples/GenericDotProductApplyPinLaw" = some m.cls := findClass_of_methodNamed Bd.named
  have hnm := (name_of_methodNamed Bd.named Bd.method).1
  have X0 : Stand p l e room_1 s m #[(.int p1), (.long q2), (.long q3), (.long q4), (.long q5), (.int p6)] below meth c s₁ [] 0 0 := Stand.of_body Bd
  have e0 : s₁.heap = h0 := by rw [← hh, Bd.state]; rfl
  have N0 := Fr.nil n0
  have pre0 : ∀ t, Steps p.tables e below (s₁.setTop (mkF m 0 #[.val (.int p1), .val (.long q2), .second, .val (.long q3), .second, .val (.long q4), .second, .val (.long q5), .second, .val (.int p6), .unset, .unset, .unset, .unset, .unset, .unset, .unset, .unset, .unset, .unset, .unset, .unset, .unset, .unset, .unset, .unset, .unset] [])) t → Steps p.tables e below (s₁.setTop (entryFrame m #[(.int p1), (.long q2), (.long q3), (.long q4), (.long q5), (.int p6)] maxLocals)) t := fun t k => castTop (ef_0 m p1 q2 q3 q4 q5 p6) k
  -- 3. LAWS
  have jmp_0 : ∀ target, Steps p.tables e below (s₁.setTop (mkF m 71 (own_L p1 q2 q3 q4 q5 p6 (1 : Int32) (1 : Int32) v0 v1 v2 v3 w0 w1 w2 w3 [.unset, .unset, .unset, .unset, .unset, .unset]) [])) target → Steps p.tables e below (s₁.setTop (mkF m 0 #[.val (.int p1), .val (.long q2), .second, .val (.long q3), .second, .val (.long q4), .second, .val (.long q5), .second, .val (.int p6), .unset, .unset, .unset, .unset, .unset, .unset, .unset, .unset, .unset, .unset, .unset, .unset, .unset, .unset, .unset, .unset, .unset] [])) target := fun target kt => own_j1 p1 q2 q3 q4 q5 p6 X0 hx hZ hw hby hown hc9 target (castTop (by rw [hk, h_v0, h_v1, h_v2, h_v3, h_w0, h_w1, h_w2, h_w3]) kt)
  obtain ⟨T7, h7, k7, X7, e7, E7, A7, I7, st7⟩ := newPE X0 hx hZ (hw _ (List.mem_of_getElem? (i := 1) rfl)) e0 (g := (mkF m 73 (own_L p1 q2 q3 q4 q5 p6 (1 : Int32) (1 : Int32) v0 v1 v2 v3 w0 w1 w2 w3 [.unset, .unset, .unset, .unset, .unset, .unset]) [(.int (1 : Int32))])) rfl (hb hby at_73) rfl (by decide) (cap := 1) (by decide) (by decide) (by decide) (by decide) (ad := "[I") rfl
  obtain ⟨b7, g7⟩ : ∃ z, z = h0.size := ⟨_, rfl⟩      -- the fresh array's address
  have Z7 : n0 ≤ h7.size := Nat.le_trans Z0 E7.1
  rw [← g7] at A7 I7 st7
  have V_b7 : Arv Z h7 b7 k7 .int (1 : Int32) [(.int (0 : Int32))] (.int (0 : Int32)) := (Arv.new A7 (by decide)).pad (pad_rep [] (.int (0 : Int32)) 1)
  have g_b7 : n0 ≤ b7 := Nat.le_trans Z0 (Nat.le_of_eq g7.symm)
  have sz_b7 : h0.size ≤ b7 := (Nat.le_trans (Keep.refl h0 []).1 (Nat.le_of_eq g7.symm))
  have K7 : Keep h0 h7 [] := (Keep.refl h0 []).ext E7
  obtain ⟨cl_b7_87, Ar_b7, q_b7, S_b7, N_b7, H_b7, G_b7⟩ := V_b7      -- open the array's fact as it stands now (its cell, kind, length, elements)
  have hin87 : ¬ ((0 : Int32) < 0 ∨ cl_b7_87.slots.size ≤ ((0 : Int32)).toNatClampNeg) := inb_of S_b7 ⟨by decide, by decide⟩
  obtain ⟨T8, h8, X8, e8, W8, st8⟩ := stI X7 hx hZ e7 Ar_b7 (j := (0 : Int32)) hin87 (g := (mkF m 87 (own_L p1 q2 q3 q4 q5 p6 (1 : Int32) (1 : Int32) v0 v1 v2 v3 w0 w1 w2 w3 [.val (.ref b7), .unset, .unset, .unset, .unset, .unset]) [(.int v0), (.int (0 : Int32)), (.ref b7)])) rfl rfl (hb hby at_87)
  have Z8 : n0 ≤ h8.size := Nat.le_trans Z7 (Keep.of_wr W8).1
  have V_b7_8 := Arv.set Ar_b7 q_b7 S_b7 N_b7 H_b7 G_b7 rfl W8 0 rfl (Nat.le_of_ble_eq_true rfl)      -- the array as it stands now (the place must lie among its first values: Arv.pad with pad_rep lengthens them)
  have K8 : Keep h0 h8 [] := K7.wr W8 (Or.inr sz_b7)
  have N8 := Fr.snoc X8 N0 g_b7
  have jmp_124 : ∀ target, Steps p.tables e below (T8.setTop (mkF m 131 (own_L p1 q2 q3 q4 q5 p6 (1 : Int32) (1 : Int32) v0 v1 v2 v3 w0 w1 w2 w3 [.val (.ref b7), .val (.int (2 : Int32)), .unset, .unset, .unset, .unset]) [])) target → Steps p.tables e below (T8.setTop (mkF m 124 (own_L p1 q2 q3 q4 q5 p6 (1 : Int32) (1 : Int32) v0 v1 v2 v3 w0 w1 w2 w3 [.val (.ref b7), .unset, .unset, .unset, .unset, .unset]) [])) target := by
    intro target kt
    · have hm : (1 : Int32) + (1 : Int32) = (2 : Int32) := by decide
      show Steps p.tables e below (T8.setTop (mkF m 124 (own_L p1 q2 q3 q4 q5 p6 (1 : Int32) (1 : Int32) v0 v1 v2 v3 w0 w1 w2 w3 [.val (.ref b7), .unset, .unset, .unset, .unset, .unset]) [])) _
      refine XS.iload X8.here hx rfl (hb hby at_124) rfl ?_
      show Steps p.tables e below (T8.setTop (mkF m 126 (own_L p1 q2 q3 q4 q5 p6 (1 : Int32) (1 : Int32) v0 v1 v2 v3 w0 w1 w2 w3 [.val (.ref b7), .unset, .unset, .unset, .unset, .unset]) [(.int (1 : Int32))])) _
      refine XS.iload X8.here hx rfl (hb hby at_126) rfl ?_
      show Steps p.tables e below (T8.setTop (mkF m 128 (own_L p1 q2 q3 q4 q5 p6 (1 : Int32) (1 : Int32) v0 v1 v2 v3 w0 w1 w2 w3 [.val (.ref b7), .unset, .unset, .unset, .unset, .unset]) [(.int (1 : Int32)), (.int (1 : Int32))])) _
      refine XS.iadd X8.here hx rfl (hb hby at_128) rfl ?_
      show Steps p.tables e below (T8.setTop (mkF m 129 (own_L p1 q2 q3 q4 q5 p6 (1 : Int32) (1 : Int32) v0 v1 v2 v3 w0 w1 w2 w3 [.val (.ref b7), .unset, .unset, .unset, .unset, .unset]) [(.int ((1 : Int32) + (1 : Int32)))])) _
      refine XS.istore X8.here hx rfl (hb hby at_129) rfl (l' := (own_L p1 q2 q3 q4 q5 p6 (1 : Int32) (1 : Int32) v0 v1 v2 v3 w0 w1 w2 w3 [.val (.ref b7), .val (.int ((1 : Int32) + (1 : Int32))), .unset, .unset, .unset, .unset])) rfl ?_
      exact castTop (by rw [hm]) kt
  obtain ⟨T9, h9, k9, X9, e9, E9, A9, I9, st9⟩ := newPE X8 hx hZ (hw _ (List.mem_of_getElem? (i := 1) rfl)) e8 (g := (mkF m 133 (own_L p1 q2 q3 q4 q5 p6 (1 : Int32) (1 : Int32) v0 v1 v2 v3 w0 w1 w2 w3 [.val (.ref b7), .val (.int (2 : Int32)), .unset, .unset, .unset, .unset]) [(.int (2 : Int32))])) rfl (hb hby at_133) rfl (by decide) (cap := 2) (by decide) (by decide) (by decide) (by decide) (ad := "[I") rfl
  obtain ⟨b9, g9⟩ : ∃ z, z = h8.size := ⟨_, rfl⟩      -- the fresh array's address
  have Z9 : n0 ≤ h9.size := Nat.le_trans Z8 E9.1
  rw [← g9] at A9 I9 st9
  have V_b9 : Arv Z h9 b9 k9 .int (2 : Int32) [(.int (0 : Int32)), (.int (0 : Int32))] (.int (0 : Int32)) := (Arv.new A9 (by decide)).pad (pad_rep [] (.int (0 : Int32)) 2)
  have g_b9 : n0 ≤ b9 := Nat.le_trans (Nat.le_trans (Nat.le_trans Z0 E7.1) (Keep.of_wr W8).1) (Nat.le_of_eq g9.symm)
  have sz_b9 : h0.size ≤ b9 := (Nat.le_trans K8.1 (Nat.le_of_eq g9.symm))
  have K9 : Keep h0 h9 [] := K8.ext E9
  obtain ⟨cl_b9_147, Ar_b9, q_b9, S_b9, N_b9, H_b9, G_b9⟩ := V_b9      -- open the array's fact as it stands now (its cell, kind, length, elements)
  have hin147 : ¬ ((0 : Int32) < 0 ∨ cl_b9_147.slots.size ≤ ((0 : Int32)).toNatClampNeg) := inb_of S_b9 ⟨by decide, by decide⟩
  obtain ⟨T10, h10, X10, e10, W10, st10⟩ := stI X9 hx hZ e9 Ar_b9 (j := (0 : Int32)) hin147 (g := (mkF m 147 (own_L p1 q2 q3 q4 q5 p6 (1 : Int32) (1 : Int32) v0 v1 v2 v3 w0 w1 w2 w3 [.val (.ref b7), .val (.int (2 : Int32)), .val (.ref b9), .unset, .unset, .unset]) [(.int w0), (.int (0 : Int32)), (.ref b9)])) rfl rfl (hb hby at_147)
  have Z10 : n0 ≤ h10.size := Nat.le_trans Z9 (Keep.of_wr W10).1
  have V_b9_10 := Arv.set Ar_b9 q_b9 S_b9 N_b9 H_b9 G_b9 rfl W10 0 rfl (Nat.le_of_ble_eq_true rfl)      -- the array as it stands now (the place must lie among its first values: Arv.pad with pad_rep lengthens them)
  have K10 : Keep h0 h10 [] := K9.wr W10 (Or.inr sz_b9)
  have N10 := Fr.snoc X10 N8 g_b9
  obtain ⟨cl_b9_159, Ar_b9, q_b9, S_b9, N_b9, H_b9, G_b9⟩ := V_b9_10      -- open the array's fact as it stands now (its cell, kind, length, elements)
  have hin159 : ¬ ((1 : Int32) < 0 ∨ cl_b9_159.slots.size ≤ ((1 : Int32)).toNatClampNeg) := inb_of S_b9 ⟨by decide, by decide⟩
  obtain ⟨T11, h11, X11, e11, W11, st11⟩ := stI X10 hx hZ e10 Ar_b9 (j := (1 : Int32)) hin159 (g := (mkF m 159 (own_L p1 q2 q3 q4 q5 p6 (1 : Int32) (1 : Int32) v0 v1 v2 v3 w0 w1 w2 w3 [.val (.ref b7), .val (.int (2 : Int32)), .val (.ref b9), .unset, .unset, .unset]) [(.int w1), (.int (1 : Int32)), (.ref b9)])) rfl rfl (hb hby at_159)
  have Z11 : n0 ≤ h11.size := Nat.le_trans Z10 (Keep.of_wr W11).1
  have V_b9_11 := Arv.set Ar_b9 q_b9 S_b9 N_b9 H_b9 G_b9 rfl W11 1 rfl (Nat.le_of_ble_eq_true rfl)      -- the array as it stands now (the place must lie among its first values: Arv.pad with pad_rep lengthens them)
  have K11 : Keep h0 h11 [] := K10.wr W11 (Or.inr sz_b9)
  have N11 := Fr.snoc X11 N10 g_b9
  obtain ⟨T12, h12, X12, e12, E12, A12, D12, -, st12⟩ := newO X11 hx hZ hown (hw _ (List.mem_of_getElem? (i := 2) rfl)) (hw _ (List.mem_of_getElem? (i := 3) rfl)) (hw _ (List.mem_of_getElem? (i := 4) rfl)) e11 (g := (mkF m 196 (own_L p1 q2 q3 q4 q5 p6 (1 : Int32) (1 : Int32) v0 v1 v2 v3 w0 w1 w2 w3 [.val (.ref b7), .val (.int (2 : Int32)), .val (.ref b9), .unset, .unset, .unset]) [])) rfl (hb hby at_196) (by decide) (by decide)
  obtain ⟨b12, g12⟩ : ∃ z, z = h11.size := ⟨_, rfl⟩      -- the fresh object's address
  have Z12 : n0 ≤ h12.size := Nat.le_trans Z11 E12.1
  rw [← g12] at A12 D12 st12      -- A12 : Exa Z h12 b12 "com/example/stagecraft/stagecraft/examples/GenericDotProduct"; E12 : Ext h11 h12 (carries every older fact: .ext E12)
  have F_fixed_b12 : Fld Z h12 b12 "com/example/stagecraft/stagecraft/examples/GenericDotProduct" "fixed" "[I" .null := D12 (Or.inr (hw _ (List.mem_of_getElem? (i := 21) rfl))) (ty := (.array .int)) (by decide)
  have E_b12 := A12
  have g_b12 : n0 ≤ b12 := Nat.le_trans (Nat.le_trans (Nat.le_trans (Nat.le_trans (Nat.le_trans (Nat.le_trans Z0 E7.1) (Keep.of_wr W8).1) E9.1) (Keep.of_wr W10).1) (Keep.of_wr W11).1) (Nat.le_of_eq g12.symm)
  have sz_b12 : h0.size ≤ b12 := (Nat.le_trans K11.1 (Nat.le_of_eq g12.symm))
  have K12 : Keep h0 h12 [] := K11.ext E12
  have CV1_b7 := ((((V_b7_8.ext E9).other W10 (Nat.ne_of_lt (Nat.lt_of_lt_of_le V_b7_8.lt (Nat.le_of_eq g9.symm)))).other W11 (Nat.ne_of_lt (Nat.lt_of_lt_of_le V_b7_8.lt (Nat.le_of_eq g9.symm)))).ext E12)
  have CE1_b7 := (((((I7.wr W8).ext E9).wr W10).wr W11).ext E12)
  have CV1_b9 := (V_b9_11.ext E12)
  have CE1_b9 := (((I9.wr W10).wr W11).ext E12)
  have CE1_b12 := E_b12
  -- pc 202: the constructor of com/example/stagecraft/stagecraft/examples/GenericDotProduct by its contract rm1
  obtain ⟨_, _, ⟨T13, L13, k13, n13⟩, -, X13, ⟨Lc13, hQ13, l13, y13, z13⟩, st13⟩ := X12.specialBack hx (y := (⟨"com/example/stagecraft/stagecraft/examples/GenericDotProduct", "<init>", "([I)V"⟩ : MethodName)) rfl hown (mvT hZ (hw _ (List.mem_of_getElem? (i := 5) rfl))) (mvT hZ (hw _ (List.mem_of_getElem? (i := 6) rfl))) (mvT hZ (hw _ (List.mem_of_getElem? (i := 7) rfl))) (by decide) (backOf (W := 1) (rm1 l Z a0 hw [] b12 b7 k7 (1 : Int32) [(.int v0)] .null h12 n0 Z12 CV1_b7 (by decide) CE1_b7 E_b12 F_fixed_b12 g_b12) hZ (hw _ (List.mem_of_getElem? (i := 7) rfl)) (hw _ (List.mem_of_getElem? (i := 4) rfl)) (by decide) (by decide)) (g := (mkF m 202 (own_L p1 q2 q3 q4 q5 p6 (1 : Int32) (1 : Int32) v0 v1 v2 v3 w0 w1 w2 w3 [.val (.ref b7), .val (.int (2 : Int32)), .val (.ref b9), .unset, .unset, .unset]) [(.ref b7), (.ref b12), (.ref b12)])) rfl (by rw [hml]; rfl) (Steps.refl _) (a := b12) (argsL := [(.ref b7)]) (rest := [(.ref b12)]) (lenOf pd_0_0 rfl) rfl (by show 2 * 0 + _ ≤ _; exact Nat.le_of_eq rfl) (hb hby at_202) (fun _ _ => ⟨rfl, e12, (by decide : 3 + 1 ≤ _), (by decide : 4 + 4 ≤ _)⟩)
  dsimp only [Pt.U, Pt.locs, Pt.cells, Pt.slots] at X13 l13 y13 z13 st13 hQ13
  subst l13 y13 z13
  obtain ⟨rfl, N13q, K13q, E13x, t13, F13a, V13a⟩ := hQ13
  have Z13 : n0 ≤ T13.heap.size := Nat.le_trans Z12 K13q.1
  have N13 := Fr.app N11 N13q
  have CE2_b7 := ((((((I7.wr W8).ext E9).wr W10).wr W11).ext E12).keep K13q)
  have CE2_b9 := ((((I9.wr W10).wr W11).ext E12).keep K13q)
  have CE2_b12 := (E_b12.keep K13q)
  -- pc 211: com/example/stagecraft/stagecraft/examples/GenericDotProduct.apply by the contract of the body that the receiver's class selects, rm3
  obtain ⟨cq14, kq14, q14a, q14b, q14c⟩ := isOf hZ rfl (E_b12.keep K13q)
  obtain ⟨_, _, ⟨T14, L14, k14, n14⟩, -, X14, ⟨Lc14, hQ14, l14, y14, z14⟩, st14⟩ := X13.virtualBack hx (y := (⟨"com/example/stagecraft/stagecraft/examples/GenericDotProduct", "apply", "([I)I"⟩ : MethodName)) (z := (⟨"com/example/stagecraft/stagecraft/examples/GenericDotProduct", "apply", "([I)I"⟩ : MethodName)) hown (mvT hZ (hw _ (List.mem_of_getElem? (i := 22) rfl))) (mvT hZ (hw _ (List.mem_of_getElem? (i := 23) rfl))) (notFace_of_selects (args := #[]) (mvT hZ (hw _ (List.mem_of_getElem? (i := 25) rfl)))) (mvT hZ (hw _ (List.mem_of_getElem? (i := 25) rfl))) (mvT hZ (hw _ (List.mem_of_getElem? (i := 24) rfl))) (by decide) (backOf (W := 0) (rm3 l Z a0 hw [] b12 b9 t13 k7 k9 (1 : Int32) (2 : Int32) [(.int v0)] [(.int w0), (.int w1)] (fun j => [v0, v1, v2, v3].getD j 0) (fun j => [w0, w1, w2, w3].getD j 0) 1 T13.heap n0 Z13 (by decide) rfl (by decide) F13a V13a (CV1_b9.keep K13q (ninS (Nat.ne_of_lt (Nat.lt_of_lt_of_le V_b9_11.lt (Nat.le_of_eq g12.symm))) nin0)) (fun j hj => by rcases j with _ | _ | _ | _ | j <;> first | rfl | (exfalso; omega)) (fun j hj => by rcases j with _ | _ | _ | _ | j <;> first | rfl | (exfalso; omega))) hZ (hw _ (List.mem_of_getElem? (i := 26) rfl)) (hw _ (List.mem_of_getElem? (i := 4) rfl)) (by decide) (by decide)) q14a q14c (g := (mkF m 211 (own_L p1 q2 q3 q4 q5 p6 (1 : Int32) (1 : Int32) v0 v1 v2 v3 w0 w1 w2 w3 [.val (.ref b7), .val (.int (2 : Int32)), .val (.ref b9), .val (.ref b12), .unset, .unset]) [(.ref b9), (.ref b12)])) rfl (by rw [hml]; rfl) (Steps.refl _) (argsL := [(.ref b9)]) (rest := []) (lenOf pd_0_3 rfl) rfl (by show 2 * 0 + _ ≤ _; exact Nat.le_of_eq rfl) (hb hby at_211) (fun _ _ => ⟨rfl, rfl, (by decide : 4 + 0 ≤ _), (by decide : 8 + 0 ≤ _)⟩)
  dsimp only [Pt.U, Pt.locs, Pt.cells, Pt.slots] at X14 l14 y14 z14 st14 hQ14
  subst l14 y14 z14
  obtain ⟨rfl, N14q, E14q⟩ := hQ14
  have K14q : Keep T13.heap T14.heap [] := by rw [E14q]; exact Keep.refl _ _
  have Z14 : n0 ≤ T14.heap.size := Nat.le_trans Z13 K14q.1
  have N14 := Fr.app N13 N14q
  obtain ⟨fs, hr, hrun, hended, hW, hsame⟩ := X14.leave (v := some (.int (1 : Int32))) (fun h => by rw [Bd.returns] at h; cases h)
  refine ⟨_, _, pre0 _ ?_, hrun, hended, _, _, rfl, ?_, ⟨_, rfl⟩, hW, hsame.mono (by decide) (by decide)⟩
  -- 4. STEPS
  · show Steps p.tables e below (s₁.setTop (mkF m 0 #[.val (.int p1), .val (.long q2), .second, .val (.long q3), .second, .val (.long q4), .second, .val (.long q5), .second, .val (.int p6), .unset, .unset, .unset, .unset, .unset, .unset, .unset, .unset, .unset, .unset, .unset, .unset, .unset, .unset, .unset, .unset, .unset] [])) _
    refine jmp_0 _ ?_
    show Steps p.tables e below (s₁.setTop (mkF m 71 (own_L p1 q2 q3 q4 q5 p6 (1 : Int32) (1 : Int32) v0 v1 v2 v3 w0 w1 w2 w3 [.unset, .unset, .unset, .unset, .unset, .unset]) [])) _
    refine XS.iload X0.here hx rfl (hb hby at_71) rfl ?_
    show Steps p.tables e below (s₁.setTop (mkF m 73 (own_L p1 q2 q3 q4 q5 p6 (1 : Int32) (1 : Int32) v0 v1 v2 v3 w0 w1 w2 w3 [.unset, .unset, .unset, .unset, .unset, .unset]) [(.int (1 : Int32))])) _
    refine st7 _ ?_
    show Steps p.tables e below (T7.setTop (mkF m 75 (own_L p1 q2 q3 q4 q5 p6 (1 : Int32) (1 : Int32) v0 v1 v2 v3 w0 w1 w2 w3 [.unset, .unset, .unset, .unset, .unset, .unset]) [(.ref b7)])) _
    refine XS.astore X7.here hx rfl (hb hby at_75) rfl rfl (l' := (own_L p1 q2 q3 q4 q5 p6 (1 : Int32) (1 : Int32) v0 v1 v2 v3 w0 w1 w2 w3 [.val (.ref b7), .unset, .unset, .unset, .unset, .unset])) rfl ?_
    show Steps p.tables e below (T7.setTop (mkF m 77 (own_L p1 q2 q3 q4 q5 p6 (1 : Int32) (1 : Int32) v0 v1 v2 v3 w0 w1 w2 w3 [.val (.ref b7), .unset, .unset, .unset, .unset, .unset]) [])) _
    refine XS.iload X7.here hx rfl (hb hby at_77) rfl ?_
    show Steps p.tables e below (T7.setTop (mkF m 79 (own_L p1 q2 q3 q4 q5 p6 (1 : Int32) (1 : Int32) v0 v1 v2 v3 w0 w1 w2 w3 [.val (.ref b7), .unset, .unset, .unset, .unset, .unset]) [(.int (1 : Int32))])) _
    refine XS.ifNo X7.here hx rfl (hb hby at_79) rfl ((if0 _ _).trans (tlt (by decide : (0 : Int32) < (1 : Int32))).2.2.2) ?_
    show Steps p.tables e below (T7.setTop (mkF m 82 (own_L p1 q2 q3 q4 q5 p6 (1 : Int32) (1 : Int32) v0 v1 v2 v3 w0 w1 w2 w3 [.val (.ref b7), .unset, .unset, .unset, .unset, .unset]) [])) _
    refine XS.aload X7.here hx rfl (hb hby at_82) rfl rfl ?_
    show Steps p.tables e below (T7.setTop (mkF m 84 (own_L p1 q2 q3 q4 q5 p6 (1 : Int32) (1 : Int32) v0 v1 v2 v3 w0 w1 w2 w3 [.val (.ref b7), .unset, .unset, .unset, .unset, .unset]) [(.ref b7)])) _
    refine XS.iconst X7.here hx rfl (hb hby at_84) ?_
    show Steps p.tables e below (T7.setTop (mkF m 85 (own_L p1 q2 q3 q4 q5 p6 (1 : Int32) (1 : Int32) v0 v1 v2 v3 w0 w1 w2 w3 [.val (.ref b7), .unset, .unset, .unset, .unset, .unset]) [(.int (0 : Int32)), (.ref b7)])) _
    refine XS.iload X7.here hx rfl (hb hby at_85) rfl ?_
    show Steps p.tables e below (T7.setTop (mkF m 87 (own_L p1 q2 q3 q4 q5 p6 (1 : Int32) (1 : Int32) v0 v1 v2 v3 w0 w1 w2 w3 [.val (.ref b7), .unset, .unset, .unset, .unset, .unset]) [(.int v0), (.int (0 : Int32)), (.ref b7)])) _
    refine st8 _ ?_
    show Steps p.tables e below (T8.setTop (mkF m 88 (own_L p1 q2 q3 q4 q5 p6 (1 : Int32) (1 : Int32) v0 v1 v2 v3 w0 w1 w2 w3 [.val (.ref b7), .unset, .unset, .unset, .unset, .unset]) [])) _
    refine XS.iload X8.here hx rfl (hb hby at_88) rfl ?_
    show Steps p.tables e below (T8.setTop (mkF m 90 (own_L p1 q2 q3 q4 q5 p6 (1 : Int32) (1 : Int32) v0 v1 v2 v3 w0 w1 w2 w3 [.val (.ref b7), .unset, .unset, .unset, .unset, .unset]) [(.int (1 : Int32))])) _
    refine XS.iconst X8.here hx rfl (hb hby at_90) ?_
    show Steps p.tables e below (T8.setTop (mkF m 91 (own_L p1 q2 q3 q4 q5 p6 (1 : Int32) (1 : Int32) v0 v1 v2 v3 w0 w1 w2 w3 [.val (.ref b7), .unset, .unset, .unset, .unset, .unset]) [(.int (1 : Int32)), (.int (1 : Int32))])) _
    refine XS.icmpYes X8.here hx rfl (pc0 := 91) (pc' := 100) rfl (hb hby at_91) rfl (flt (by decide : ¬ ((1 : Int32) < (1 : Int32)))).2.2.2 (by decide) (by decide) ?_
    show Steps p.tables e below (T8.setTop (mkF m 100 (own_L p1 q2 q3 q4 q5 p6 (1 : Int32) (1 : Int32) v0 v1 v2 v3 w0 w1 w2 w3 [.val (.ref b7), .unset, .unset, .unset, .unset, .unset]) [])) _
    refine XS.iload X8.here hx rfl (hb hby at_100) rfl ?_
    show Steps p.tables e below (T8.setTop (mkF m 102 (own_L p1 q2 q3 q4 q5 p6 (1 : Int32) (1 : Int32) v0 v1 v2 v3 w0 w1 w2 w3 [.val (.ref b7), .unset, .unset, .unset, .unset, .unset]) [(.int (1 : Int32))])) _
    refine XS.iconst X8.here hx rfl (hb hby at_102) ?_
    show Steps p.tables e below (T8.setTop (mkF m 103 (own_L p1 q2 q3 q4 q5 p6 (1 : Int32) (1 : Int32) v0 v1 v2 v3 w0 w1 w2 w3 [.val (.ref b7), .unset, .unset, .unset, .unset, .unset]) [(.int (2 : Int32)), (.int (1 : Int32))])) _
    refine XS.icmpYes X8.here hx rfl (pc0 := 103) (pc' := 112) rfl (hb hby at_103) rfl (flt (by decide : ¬ ((2 : Int32) < (1 : Int32)))).2.2.2 (by decide) (by decide) ?_
    show Steps p.tables e below (T8.setTop (mkF m 112 (own_L p1 q2 q3 q4 q5 p6 (1 : Int32) (1 : Int32) v0 v1 v2 v3 w0 w1 w2 w3 [.val (.ref b7), .unset, .unset, .unset, .unset, .unset]) [])) _
    refine XS.iload X8.here hx rfl (hb hby at_112) rfl ?_
    show Steps p.tables e below (T8.setTop (mkF m 114 (own_L p1 q2 q3 q4 q5 p6 (1 : Int32) (1 : Int32) v0 v1 v2 v3 w0 w1 w2 w3 [.val (.ref b7), .unset, .unset, .unset, .unset, .unset]) [(.int (1 : Int32))])) _
    refine XS.iconst X8.here hx rfl (hb hby at_114) ?_
    show Steps p.tables e below (T8.setTop (mkF m 115 (own_L p1 q2 q3 q4 q5 p6 (1 : Int32) (1 : Int32) v0 v1 v2 v3 w0 w1 w2 w3 [.val (.ref b7), .unset, .unset, .unset, .unset, .unset]) [(.int (3 : Int32)), (.int (1 : Int32))])) _
    refine XS.icmpYes X8.here hx rfl (pc0 := 115) (pc' := 124) rfl (hb hby at_115) rfl (flt (by decide : ¬ ((3 : Int32) < (1 : Int32)))).2.2.2 (by decide) (by decide) ?_
    show Steps p.tables e below (T8.setTop (mkF m 124 (own_L p1 q2 q3 q4 q5 p6 (1 : Int32) (1 : Int32) v0 v1 v2 v3 w0 w1 w2 w3 [.val (.ref b7), .unset, .unset, .unset, .unset, .unset]) [])) _
    refine jmp_124 _ ?_
    show Steps p.tables e below (T8.setTop (mkF m 131 (own_L p1 q2 q3 q4 q5 p6 (1 : Int32) (1 : Int32) v0 v1 v2 v3 w0 w1 w2 w3 [.val (.ref b7), .val (.int (2 : Int32)), .unset, .unset, .unset, .unset]) [])) _
    refine XS.iload X8.here hx rfl (hb hby at_131) rfl ?_
    show Steps p.tables e below (T8.setTop (mkF m 133 (own_L p1 q2 q3 q4 q5 p6 (1 : Int32) (1 : Int32) v0 v1 v2 v3 w0 w1 w2 w3 [.val (.ref b7), .val (.int (2 : Int32)), .unset, .unset, .unset, .unset]) [(.int (2 : Int32))])) _
    refine st9 _ ?_
    show Steps p.tables e below (T9.setTop (mkF m 135 (own_L p1 q2 q3 q4 q5 p6 (1 : Int32) (1 : Int32) v0 v1 v2 v3 w0 w1 w2 w3 [.val (.ref b7), .val (.int (2 : Int32)), .unset, .unset, .unset, .unset]) [(.ref b9)])) _
    refine XS.astore X9.here hx rfl (hb hby at_135) rfl rfl (l' := (own_L p1 q2 q3 q4 q5 p6 (1 : Int32) (1 : Int32) v0 v1 v2 v3 w0 w1 w2 w3 [.val (.ref b7), .val (.int (2 : Int32)), .val (.ref b9), .unset, .unset, .unset])) rfl ?_
    show Steps p.tables e below (T9.setTop (mkF m 137 (own_L p1 q2 q3 q4 q5 p6 (1 : Int32) (1 : Int32) v0 v1 v2 v3 w0 w1 w2 w3 [.val (.ref b7), .val (.int (2 : Int32)), .val (.ref b9), .unset, .unset, .unset]) [])) _
    refine XS.iload X9.here hx rfl (hb hby at_137) rfl ?_
    show Steps p.tables e below (T9.setTop (mkF m 139 (own_L p1 q2 q3 q4 q5 p6 (1 : Int32) (1 : Int32) v0 v1 v2 v3 w0 w1 w2 w3 [.val (.ref b7), .val (.int (2 : Int32)), .val (.ref b9), .unset, .unset, .unset]) [(.int (2 : Int32))])) _
    refine XS.ifNo X9.here hx rfl (hb hby at_139) rfl ((if0 _ _).trans (tlt (by decide : (0 : Int32) < (2 : Int32))).2.2.2) ?_
    show Steps p.tables e below (T9.setTop (mkF m 142 (own_L p1 q2 q3 q4 q5 p6 (1 : Int32) (1 : Int32) v0 v1 v2 v3 w0 w1 w2 w3 [.val (.ref b7), .val (.int (2 : Int32)), .val (.ref b9), .unset, .unset, .unset]) [])) _
    refine XS.aload X9.here hx rfl (hb hby at_142) rfl rfl ?_
    show Steps p.tables e below (T9.setTop (mkF m 144 (own_L p1 q2 q3 q4 q5 p6 (1 : Int32) (1 : Int32) v0 v1 v2 v3 w0 w1 w2 w3 [.val (.ref b7), .val (.int (2 : Int32)), .val (.ref b9), .unset, .unset, .unset]) [(.ref b9)])) _
    refine XS.iconst X9.here hx rfl (hb hby at_144) ?_
    show Steps p.tables e below (T9.setTop (mkF m 145 (own_L p1 q2 q3 q4 q5 p6 (1 : Int32) (1 : Int32) v0 v1 v2 v3 w0 w1 w2 w3 [.val (.ref b7), .val (.int (2 : Int32)), .val (.ref b9), .unset, .unset, .unset]) [(.int (0 : Int32)), (.ref b9)])) _
    refine XS.iload X9.here hx rfl (hb hby at_145) rfl ?_
    show Steps p.tables e below (T9.setTop (mkF m 147 (own_L p1 q2 q3 q4 q5 p6 (1 : Int32) (1 : Int32) v0 v1 v2 v3 w0 w1 w2 w3 [.val (.ref b7), .val (.int (2 : Int32)), .val (.ref b9), .unset, .unset, .unset]) [(.int w0), (.int (0 : Int32)), (.ref b9)])) _
    refine st10 _ ?_
    show Steps p.tables e below (T10.setTop (mkF m 148 (own_L p1 q2 q3 q4 q5 p6 (1 : Int32) (1 : Int32) v0 v1 v2 v3 w0 w1 w2 w3 [.val (.ref b7), .val (.int (2 : Int32)), .val (.ref b9), .unset, .unset, .unset]) [])) _
    refine XS.iload X10.here hx rfl (hb hby at_148) rfl ?_
    show Steps p.tables e below (T10.setTop (mkF m 150 (own_L p1 q2 q3 q4 q5 p6 (1 : Int32) (1 : Int32) v0 v1 v2 v3 w0 w1 w2 w3 [.val (.ref b7), .val (.int (2 : Int32)), .val (.ref b9), .unset, .unset, .unset]) [(.int (2 : Int32))])) _
    refine XS.iconst X10.here hx rfl (hb hby at_150) ?_
    show Steps p.tables e below (T10.setTop (mkF m 151 (own_L p1 q2 q3 q4 q5 p6 (1 : Int32) (1 : Int32) v0 v1 v2 v3 w0 w1 w2 w3 [.val (.ref b7), .val (.int (2 : Int32)), .val (.ref b9), .unset, .unset, .unset]) [(.int (1 : Int32)), (.int (2 : Int32))])) _
    refine XS.icmpNo X10.here hx rfl (hb hby at_151) rfl (tlt (by decide : (1 : Int32) < (2 : Int32))).2.2.2 ?_
    show Steps p.tables e below (T10.setTop (mkF m 154 (own_L p1 q2 q3 q4 q5 p6 (1 : Int32) (1 : Int32) v0 v1 v2 v3 w0 w1 w2 w3 [.val (.ref b7), .val (.int (2 : Int32)), .val (.ref b9), .unset, .unset, .unset]) [])) _
    refine XS.aload X10.here hx rfl (hb hby at_154) rfl rfl ?_
    show Steps p.tables e below (T10.setTop (mkF m 156 (own_L p1 q2 q3 q4 q5 p6 (1 : Int32) (1 : Int32) v0 v1 v2 v3 w0 w1 w2 w3 [.val (.ref b7), .val (.int (2 : Int32)), .val (.ref b9), .unset, .unset, .unset]) [(.ref b9)])) _
    refine XS.iconst X10.here hx rfl (hb hby at_156) ?_
    show Steps p.tables e below (T10.setTop (mkF m 157 (own_L p1 q2 q3 q4 q5 p6 (1 : Int32) (1 : Int32) v0 v1 v2 v3 w0 w1 w2 w3 [.val (.ref b7), .val (.int (2 : Int32)), .val (.ref b9), .unset, .unset, .unset]) [(.int (1 : Int32)), (.ref b9)])) _
    refine XS.iload X10.here hx rfl (hb hby at_157) rfl ?_
    show Steps p.tables e below (T10.setTop (mkF m 159 (own_L p1 q2 q3 q4 q5 p6 (1 : Int32) (1 : Int32) v0 v1 v2 v3 w0 w1 w2 w3 [.val (.ref b7), .val (.int (2 : Int32)), .val (.ref b9), .unset, .unset, .unset]) [(.int w1), (.int (1 : Int32)), (.ref b9)])) _
    refine st11 _ ?_
    show Steps p.tables e below (T11.setTop (mkF m 160 (own_L p1 q2 q3 q4 q5 p6 (1 : Int32) (1 : Int32) v0 v1 v2 v3 w0 w1 w2 w3 [.val (.ref b7), .val (.int (2 : Int32)), .val (.ref b9), .unset, .unset, .unset]) [])) _
    refine XS.iload X11.here hx rfl (hb hby at_160) rfl ?_
    show Steps p.tables e below (T11.setTop (mkF m 162 (own_L p1 q2 q3 q4 q5 p6 (1 : Int32) (1 : Int32) v0 v1 v2 v3 w0 w1 w2 w3 [.val (.ref b7), .val (.int (2 : Int32)), .val (.ref b9), .unset, .unset, .unset]) [(.int (2 : Int32))])) _
    refine XS.iconst X11.here hx rfl (hb hby at_162) ?_
    show Steps p.tables e below (T11.setTop (mkF m 163 (own_L p1 q2 q3 q4 q5 p6 (1 : Int32) (1 : Int32) v0 v1 v2 v3 w0 w1 w2 w3 [.val (.ref b7), .val (.int (2 : Int32)), .val (.ref b9), .unset, .unset, .unset]) [(.int (2 : Int32)), (.int (2 : Int32))])) _
    refine XS.icmpYes X11.here hx rfl (pc0 := 163) (pc' := 172) rfl (hb hby at_163) rfl (flt (by decide : ¬ ((2 : Int32) < (2 : Int32)))).2.2.2 (by decide) (by decide) ?_
    show Steps p.tables e below (T11.setTop (mkF m 172 (own_L p1 q2 q3 q4 q5 p6 (1 : Int32) (1 : Int32) v0 v1 v2 v3 w0 w1 w2 w3 [.val (.ref b7), .val (.int (2 : Int32)), .val (.ref b9), .unset, .unset, .unset]) [])) _
    refine XS.iload X11.here hx rfl (hb hby at_172) rfl ?_
    show Steps p.tables e below (T11.setTop (mkF m 174 (own_L p1 q2 q3 q4 q5 p6 (1 : Int32) (1 : Int32) v0 v1 v2 v3 w0 w1 w2 w3 [.val (.ref b7), .val (.int (2 : Int32)), .val (.ref b9), .unset, .unset, .unset]) [(.int (2 : Int32))])) _
    refine XS.iconst X11.here hx rfl (hb hby at_174) ?_
    show Steps p.tables e below (T11.setTop (mkF m 175 (own_L p1 q2 q3 q4 q5 p6 (1 : Int32) (1 : Int32) v0 v1 v2 v3 w0 w1 w2 w3 [.val (.ref b7), .val (.int (2 : Int32)), .val (.ref b9), .unset, .unset, .unset]) [(.int (3 : Int32)), (.int (2 : Int32))])) _
    refine XS.icmpYes X11.here hx rfl (pc0 := 175) (pc' := 184) rfl (hb hby at_175) rfl (flt (by decide : ¬ ((3 : Int32) < (2 : Int32)))).2.2.2 (by decide) (by decide) ?_
    show Steps p.tables e below (T11.setTop (mkF m 184 (own_L p1 q2 q3 q4 q5 p6 (1 : Int32) (1 : Int32) v0 v1 v2 v3 w0 w1 w2 w3 [.val (.ref b7), .val (.int (2 : Int32)), .val (.ref b9), .unset, .unset, .unset]) [])) _
    refine XS.iload X11.here hx rfl (hb hby at_184) rfl ?_
    show Steps p.tables e below (T11.setTop (mkF m 186 (own_L p1 q2 q3 q4 q5 p6 (1 : Int32) (1 : Int32) v0 v1 v2 v3 w0 w1 w2 w3 [.val (.ref b7), .val (.int (2 : Int32)), .val (.ref b9), .unset, .unset, .unset]) [(.int (2 : Int32))])) _
    refine XS.iconst X11.here hx rfl (hb hby at_186) ?_
    show Steps p.tables e below (T11.setTop (mkF m 187 (own_L p1 q2 q3 q4 q5 p6 (1 : Int32) (1 : Int32) v0 v1 v2 v3 w0 w1 w2 w3 [.val (.ref b7), .val (.int (2 : Int32)), .val (.ref b9), .unset, .unset, .unset]) [(.int (4 : Int32)), (.int (2 : Int32))])) _
    refine XS.icmpYes X11.here hx rfl (pc0 := 187) (pc' := 196) rfl (hb hby at_187) rfl (flt (by decide : ¬ ((4 : Int32) < (2 : Int32)))).2.2.2 (by decide) (by decide) ?_
    show Steps p.tables e below (T11.setTop (mkF m 196 (own_L p1 q2 q3 q4 q5 p6 (1 : Int32) (1 : Int32) v0 v1 v2 v3 w0 w1 w2 w3 [.val (.ref b7), .val (.int (2 : Int32)), .val (.ref b9), .unset, .unset, .unset]) [])) _
    refine st12 _ ?_
    show Steps p.tables e below (T12.setTop (mkF m 199 (own_L p1 q2 q3 q4 q5 p6 (1 : Int32) (1 : Int32) v0 v1 v2 v3 w0 w1 w2 w3 [.val (.ref b7), .val (.int (2 : Int32)), .val (.ref b9), .unset, .unset, .unset]) [(.ref b12)])) _
    refine XS.dup X12.here hx rfl (hb hby at_199) rfl rfl ?_
    show Steps p.tables e below (T12.setTop (mkF m 200 (own_L p1 q2 q3 q4 q5 p6 (1 : Int32) (1 : Int32) v0 v1 v2 v3 w0 w1 w2 w3 [.val (.ref b7), .val (.int (2 : Int32)), .val (.ref b9), .unset, .unset, .unset]) [(.ref b12), (.ref b12)])) _
    refine XS.aload X12.here hx rfl (hb hby at_200) rfl rfl ?_
    show Steps p.tables e below (T12.setTop (mkF m 202 (own_L p1 q2 q3 q4 q5 p6 (1 : Int32) (1 : Int32) v0 v1 v2 v3 w0 w1 w2 w3 [.val (.ref b7), .val (.int (2 : Int32)), .val (.ref b9), .unset, .unset, .unset]) [(.ref b7), (.ref b12), (.ref b12)])) _
    refine st13.trans ?_
    show Steps p.tables e below (T13.setTop (mkF m 205 (own_L p1 q2 q3 q4 q5 p6 (1 : Int32) (1 : Int32) v0 v1 v2 v3 w0 w1 w2 w3 [.val (.ref b7), .val (.int (2 : Int32)), .val (.ref b9), .unset, .unset, .unset]) [(.ref b12)])) _
    refine XS.astore X13.here hx rfl (hb hby at_205) rfl rfl (l' := (own_L p1 q2 q3 q4 q5 p6 (1 : Int32) (1 : Int32) v0 v1 v2 v3 w0 w1 w2 w3 [.val (.ref b7), .val (.int (2 : Int32)), .val (.ref b9), .val (.ref b12), .unset, .unset])) rfl ?_
    show Steps p.tables e below (T13.setTop (mkF m 207 (own_L p1 q2 q3 q4 q5 p6 (1 : Int32) (1 : Int32) v0 v1 v2 v3 w0 w1 w2 w3 [.val (.ref b7), .val (.int (2 : Int32)), .val (.ref b9), .val (.ref b12), .unset, .unset]) [])) _
    refine XS.aload X13.here hx rfl (hb hby at_207) rfl rfl ?_
    show Steps p.tables e below (T13.setTop (mkF m 209 (own_L p1 q2 q3 q4 q5 p6 (1 : Int32) (1 : Int32) v0 v1 v2 v3 w0 w1 w2 w3 [.val (.ref b7), .val (.int (2 : Int32)), .val (.ref b9), .val (.ref b12), .unset, .unset]) [(.ref b12)])) _
    refine XS.aload X13.here hx rfl (hb hby at_209) rfl rfl ?_
    show Steps p.tables e below (T13.setTop (mkF m 211 (own_L p1 q2 q3 q4 q5 p6 (1 : Int32) (1 : Int32) v0 v1 v2 v3 w0 w1 w2 w3 [.val (.ref b7), .val (.int (2 : Int32)), .val (.ref b9), .val (.ref b12), .unset, .unset]) [(.ref b9), (.ref b12)])) _
    refine st14.trans ?_
    show Steps p.tables e below (T14.setTop (mkF m 214 (own_L p1 q2 q3 q4 q5 p6 (1 : Int32) (1 : Int32) v0 v1 v2 v3 w0 w1 w2 w3 [.val (.ref b7), .val (.int (2 : Int32)), .val (.ref b9), .val (.ref b12), .unset, .unset]) [(.int (own_acc (fun j => [v0, v1, v2, v3].getD j 0) (fun j => [w0, w1, w2, w3].getD j 0) 1 0 0))])) _
    refine XS.istore X14.here hx rfl (hb hby at_214) rfl (l' := (own_L p1 q2 q3 q4 q5 p6 (1 : Int32) (1 : Int32) v0 v1 v2 v3 w0 w1 w2 w3 [.val (.ref b7), .val (.int (2 : Int32)), .val (.ref b9), .val (.ref b12), .val (.int (own_acc (fun j => [v0, v1, v2, v3].getD j 0) (fun j => [w0, w1, w2, w3].getD j 0) 1 0 0)), .unset])) rfl ?_
    show Steps p.tables e below (T14.setTop (mkF m 216 (own_L p1 q2 q3 q4 q5 p6 (1 : Int32) (1 : Int32) v0 v1 v2 v3 w0 w1 w2 w3 [.val (.ref b7), .val (.int (2 : Int32)), .val (.ref b9), .val (.ref b12), .val (.int (own_acc (fun j => [v0, v1, v2, v3].getD j 0) (fun j => [w0, w1, w2, w3].getD j 0) 1 0 0)), .unset]) [])) _
    refine XS.iconst X14.here hx rfl (hb hby at_216) ?_
    show Steps p.tables e below (T14.setTop (mkF m 217 (own_L p1 q2 q3 q4 q5 p6 (1 : Int32) (1 : Int32) v0 v1 v2 v3 w0 w1 w2 w3 [.val (.ref b7), .val (.int (2 : Int32)), .val (.ref b9), .val (.ref b12), .val (.int (own_acc (fun j => [v0, v1, v2, v3].getD j 0) (fun j => [w0, w1, w2, w3].getD j 0) 1 0 0)), .unset]) [(.int (0 : Int32))])) _
    refine XS.istore X14.here hx rfl (hb hby at_217) rfl (l' := (own_L p1 q2 q3 q4 q5 p6 (1 : Int32) (1 : Int32) v0 v1 v2 v3 w0 w1 w2 w3 [.val (.ref b7), .val (.int (2 : Int32)), .val (.ref b9), .val (.ref b12), .val (.int (own_acc (fun j => [v0, v1, v2, v3].getD j 0) (fun j => [w0, w1, w2, w3].getD j 0) 1 0 0)), .val (.int (0 : Int32))])) rfl ?_
    show Steps p.tables e below (T14.setTop (mkF m 219 (own_L p1 q2 q3 q4 q5 p6 (1 : Int32) (1 : Int32) v0 v1 v2 v3 w0 w1 w2 w3 [.val (.ref b7), .val (.int (2 : Int32)), .val (.ref b9), .val (.ref b12), .val (.int (own_acc (fun j => [v0, v1, v2, v3].getD j 0) (fun j => [w0, w1, w2, w3].getD j 0) 1 0 0)), .val (.int (0 : Int32))]) [])) _
    refine XS.iload X14.here hx rfl (hb hby at_219) rfl ?_
    show Steps p.tables e below (T14.setTop (mkF m 221 (own_L p1 q2 q3 q4 q5 p6 (1 : Int32) (1 : Int32) v0 v1 v2 v3 w0 w1 w2 w3 [.val (.ref b7), .val (.int (2 : Int32)), .val (.ref b9), .val (.ref b12), .val (.int (own_acc (fun j => [v0, v1, v2, v3].getD j 0) (fun j => [w0, w1, w2, w3].getD j 0) 1 0 0)), .val (.int (0 : Int32))]) [(.int (1 : Int32))])) _
    refine XS.ifNo X14.here hx rfl (hb hby at_221) rfl ((if0 _ _).trans (tlt (by decide : (0 : Int32) < (1 : Int32))).2.2.2) ?_
    show Steps p.tables e below (T14.setTop (mkF m 224 (own_L p1 q2 q3 q4 q5 p6 (1 : Int32) (1 : Int32) v0 v1 v2 v3 w0 w1 w2 w3 [.val (.ref b7), .val (.int (2 : Int32)), .val (.ref b9), .val (.ref b12), .val (.int (own_acc (fun j => [v0, v1, v2, v3].getD j 0) (fun j => [w0, w1, w2, w3].getD j 0) 1 0 0)), .val (.int (0 : Int32))]) [])) _
    refine XS.iload X14.here hx rfl (hb hby at_224) rfl ?_
    show Steps p.tables e below (T14.setTop (mkF m 226 (own_L p1 q2 q3 q4 q5 p6 (1 : Int32) (1 : Int32) v0 v1 v2 v3 w0 w1 w2 w3 [.val (.ref b7), .val (.int (2 : Int32)), .val (.ref b9), .val (.ref b12), .val (.int (own_acc (fun j => [v0, v1, v2, v3].getD j 0) (fun j => [w0, w1, w2, w3].getD j 0) 1 0 0)), .val (.int (0 : Int32))]) [(.int (0 : Int32))])) _
    refine XS.iload X14.here hx rfl (hb hby at_226) rfl ?_
    show Steps p.tables e below (T14.setTop (mkF m 228 (own_L p1 q2 q3 q4 q5 p6 (1 : Int32) (1 : Int32) v0 v1 v2 v3 w0 w1 w2 w3 [.val (.ref b7), .val (.int (2 : Int32)), .val (.ref b9), .val (.ref b12), .val (.int (own_acc (fun j => [v0, v1, v2, v3].getD j 0) (fun j => [w0, w1, w2, w3].getD j 0) 1 0 0)), .val (.int (0 : Int32))]) [(.int v0), (.int (0 : Int32))])) _
    refine XS.iload X14.here hx rfl (hb hby at_228) rfl ?_
    show Steps p.tables e below (T14.setTop (mkF m 230 (own_L p1 q2 q3 q4 q5 p6 (1 : Int32) (1 : Int32) v0 v1 v2 v3 w0 w1 w2 w3 [.val (.ref b7), .val (.int (2 : Int32)), .val (.ref b9), .val (.ref b12), .val (.int (own_acc (fun j => [v0, v1, v2, v3].getD j 0) (fun j => [w0, w1, w2, w3].getD j 0) 1 0 0)), .val (.int (0 : Int32))]) [(.int w0), (.int v0), (.int (0 : Int32))])) _
    refine XS.imul X14.here hx rfl (hb hby at_230) rfl ?_
    show Steps p.tables e below (T14.setTop (mkF m 231 (own_L p1 q2 q3 q4 q5 p6 (1 : Int32) (1 : Int32) v0 v1 v2 v3 w0 w1 w2 w3 [.val (.ref b7), .val (.int (2 : Int32)), .val (.ref b9), .val (.ref b12), .val (.int (own_acc (fun j => [v0, v1, v2, v3].getD j 0) (fun j => [w0, w1, w2, w3].getD j 0) 1 0 0)), .val (.int (0 : Int32))]) [(.int (v0 * w0)), (.int (0 : Int32))])) _
    refine XS.iadd X14.here hx rfl (hb hby at_231) rfl ?_
    show Steps p.tables e below (T14.setTop (mkF m 232 (own_L p1 q2 q3 q4 q5 p6 (1 : Int32) (1 : Int32) v0 v1 v2 v3 w0 w1 w2 w3 [.val (.ref b7), .val (.int (2 : Int32)), .val (.ref b9), .val (.ref b12), .val (.int (own_acc (fun j => [v0, v1, v2, v3].getD j 0) (fun j => [w0, w1, w2, w3].getD j 0) 1 0 0)), .val (.int (0 : Int32))]) [(.int ((0 : Int32) + (v0 * w0)))])) _
    refine XS.istore X14.here hx rfl (hb hby at_232) rfl (l' := (own_L p1 q2 q3 q4 q5 p6 (1 : Int32) (1 : Int32) v0 v1 v2 v3 w0 w1 w2 w3 [.val (.ref b7), .val (.int (2 : Int32)), .val (.ref b9), .val (.ref b12), .val (.int (own_acc (fun j => [v0, v1, v2, v3].getD j 0) (fun j => [w0, w1, w2, w3].getD j 0) 1 0 0)), .val (.int ((0 : Int32) + (v0 * w0)))])) rfl ?_
    show Steps p.tables e below (T14.setTop (mkF m 234 (own_L p1 q2 q3 q4 q5 p6 (1 : Int32) (1 : Int32) v0 v1 v2 v3 w0 w1 w2 w3 [.val (.ref b7), .val (.int (2 : Int32)), .val (.ref b9), .val (.ref b12), .val (.int (own_acc (fun j => [v0, v1, v2, v3].getD j 0) (fun j => [w0, w1, w2, w3].getD j 0) 1 0 0)), .val (.int ((0 : Int32) + (v0 * w0)))]) [])) _
    refine XS.iload X14.here hx rfl (hb hby at_234) rfl ?_
    show Steps p.tables e below (T14.setTop (mkF m 236 (own_L p1 q2 q3 q4 q5 p6 (1 : Int32) (1 : Int32) v0 v1 v2 v3 w0 w1 w2 w3 [.val (.ref b7), .val (.int (2 : Int32)), .val (.ref b9), .val (.ref b12), .val (.int (own_acc (fun j => [v0, v1, v2, v3].getD j 0) (fun j => [w0, w1, w2, w3].getD j 0) 1 0 0)), .val (.int ((0 : Int32) + (v0 * w0)))]) [(.int (1 : Int32))])) _
    refine XS.iconst X14.here hx rfl (hb hby at_236) ?_
    show Steps p.tables e below (T14.setTop (mkF m 237 (own_L p1 q2 q3 q4 q5 p6 (1 : Int32) (1 : Int32) v0 v1 v2 v3 w0 w1 w2 w3 [.val (.ref b7), .val (.int (2 : Int32)), .val (.ref b9), .val (.ref b12), .val (.int (own_acc (fun j => [v0, v1, v2, v3].getD j 0) (fun j => [w0, w1, w2, w3].getD j 0) 1 0 0)), .val (.int ((0 : Int32) + (v0 * w0)))]) [(.int (1 : Int32)), (.int (1 : Int32))])) _
    refine XS.icmpYes X14.here hx rfl (pc0 := 237) (pc' := 250) rfl (hb hby at_237) rfl (flt (by decide : ¬ ((1 : Int32) < (1 : Int32)))).2.2.2 (by decide) (by decide) ?_
    show Steps p.tables e below (T14.setTop (mkF m 250 (own_L p1 q2 q3 q4 q5 p6 (1 : Int32) (1 : Int32) v0 v1 v2 v3 w0 w1 w2 w3 [.val (.ref b7), .val (.int (2 : Int32)), .val (.ref b9), .val (.ref b12), .val (.int (own_acc (fun j => [v0, v1, v2, v3].getD j 0) (fun j => [w0, w1, w2, w3].getD j 0) 1 0 0)), .val (.int ((0 : Int32) + (v0 * w0)))]) [])) _
    refine XS.iload X14.here hx rfl (hb hby at_250) rfl ?_
    show Steps p.tables e below (T14.setTop (mkF m 252 (own_L p1 q2 q3 q4 q5 p6 (1 : Int32) (1 : Int32) v0 v1 v2 v3 w0 w1 w2 w3 [.val (.ref b7), .val (.int (2 : Int32)), .val (.ref b9), .val (.ref b12), .val (.int (own_acc (fun j => [v0, v1, v2, v3].getD j 0) (fun j => [w0, w1, w2, w3].getD j 0) 1 0 0)), .val (.int ((0 : Int32) + (v0 * w0)))]) [(.int (1 : Int32))])) _
    refine XS.iconst X14.here hx rfl (hb hby at_252) ?_
    show Steps p.tables e below (T14.setTop (mkF m 253 (own_L p1 q2 q3 q4 q5 p6 (1 : Int32) (1 : Int32) v0 v1 v2 v3 w0 w1 w2 w3 [.val (.ref b7), .val (.int (2 : Int32)), .val (.ref b9), .val (.ref b12), .val (.int (own_acc (fun j => [v0, v1, v2, v3].getD j 0) (fun j => [w0, w1, w2, w3].getD j 0) 1 0 0)), .val (.int ((0 : Int32) + (v0 * w0)))]) [(.int (2 : Int32)), (.int (1 : Int32))])) _
    refine XS.icmpYes X14.here hx rfl (pc0 := 253) (pc' := 266) rfl (hb hby at_253) rfl (flt (by decide : ¬ ((2 : Int32) < (1 : Int32)))).2.2.2 (by decide) (by decide) ?_
    show Steps p.tables e below (T14.setTop (mkF m 266 (own_L p1 q2 q3 q4 q5 p6 (1 : Int32) (1 : Int32) v0 v1 v2 v3 w0 w1 w2 w3 [.val (.ref b7), .val (.int (2 : Int32)), .val (.ref b9), .val (.ref b12), .val (.int (own_acc (fun j => [v0, v1, v2, v3].getD j 0) (fun j => [w0, w1, w2, w3].getD j 0) 1 0 0)), .val (.int ((0 : Int32) + (v0 * w0)))]) [])) _
    refine XS.iload X14.here hx rfl (hb hby at_266) rfl ?_
    show Steps p.tables e below (T14.setTop (mkF m 268 (own_L p1 q2 q3 q4 q5 p6 (1 : Int32) (1 : Int32) v0 v1 v2 v3 w0 w1 w2 w3 [.val (.ref b7), .val (.int (2 : Int32)), .val (.ref b9), .val (.ref b12), .val (.int (own_acc (fun j => [v0, v1, v2, v3].getD j 0) (fun j => [w0, w1, w2, w3].getD j 0) 1 0 0)), .val (.int ((0 : Int32) + (v0 * w0)))]) [(.int (1 : Int32))])) _
    refine XS.iconst X14.here hx rfl (hb hby at_268) ?_
    show Steps p.tables e below (T14.setTop (mkF m 269 (own_L p1 q2 q3 q4 q5 p6 (1 : Int32) (1 : Int32) v0 v1 v2 v3 w0 w1 w2 w3 [.val (.ref b7), .val (.int (2 : Int32)), .val (.ref b9), .val (.ref b12), .val (.int (own_acc (fun j => [v0, v1, v2, v3].getD j 0) (fun j => [w0, w1, w2, w3].getD j 0) 1 0 0)), .val (.int ((0 : Int32) + (v0 * w0)))]) [(.int (3 : Int32)), (.int (1 : Int32))])) _
    refine XS.icmpYes X14.here hx rfl (pc0 := 269) (pc' := 282) rfl (hb hby at_269) rfl (flt (by decide : ¬ ((3 : Int32) < (1 : Int32)))).2.2.2 (by decide) (by decide) ?_
    show Steps p.tables e below (T14.setTop (mkF m 282 (own_L p1 q2 q3 q4 q5 p6 (1 : Int32) (1 : Int32) v0 v1 v2 v3 w0 w1 w2 w3 [.val (.ref b7), .val (.int (2 : Int32)), .val (.ref b9), .val (.ref b12), .val (.int (own_acc (fun j => [v0, v1, v2, v3].getD j 0) (fun j => [w0, w1, w2, w3].getD j 0) 1 0 0)), .val (.int ((0 : Int32) + (v0 * w0)))]) [])) _
    refine XS.iload X14.here hx rfl (hb hby at_282) rfl ?_
    show Steps p.tables e below (T14.setTop (mkF m 284 (own_L p1 q2 q3 q4 q5 p6 (1 : Int32) (1 : Int32) v0 v1 v2 v3 w0 w1 w2 w3 [.val (.ref b7), .val (.int (2 : Int32)), .val (.ref b9), .val (.ref b12), .val (.int (own_acc (fun j => [v0, v1, v2, v3].getD j 0) (fun j => [w0, w1, w2, w3].getD j 0) 1 0 0)), .val (.int ((0 : Int32) + (v0 * w0)))]) [(.int (own_acc (fun j => [v0, v1, v2, v3].getD j 0) (fun j => [w0, w1, w2, w3].getD j 0) 1 0 0))])) _
    refine XS.iload X14.here hx rfl (hb hby at_284) rfl ?_
    show Steps p.tables e below (T14.setTop (mkF m 286 (own_L p1 q2 q3 q4 q5 p6 (1 : Int32) (1 : Int32) v0 v1 v2 v3 w0 w1 w2 w3 [.val (.ref b7), .val (.int (2 : Int32)), .val (.ref b9), .val (.ref b12), .val (.int (own_acc (fun j => [v0, v1, v2, v3].getD j 0) (fun j => [w0, w1, w2, w3].getD j 0) 1 0 0)), .val (.int ((0 : Int32) + (v0 * w0)))]) [(.int ((0 : Int32) + (v0 * w0))), (.int (own_acc (fun j => [v0, v1, v2, v3].getD j 0) (fun j => [w0, w1, w2, w3].getD j 0) 1 0 0))])) _
    refine XS.icmpNo X14.here hx rfl (hb hby at_286) rfl (teq (rfl : (own_acc (fun j => [v0, v1, v2, v3].getD j 0) (fun j => [w0, w1, w2, w3].getD j 0) 1 0 0) = ((0 : Int32) + (v0 * w0)))).2 ?_
    show Steps p.tables e below (T14.setTop (mkF m 289 (own_L p1 q2 q3 q4 q5 p6 (1 : Int32) (1 : Int32) v0 v1 v2 v3 w0 w1 w2 w3 [.val (.ref b7), .val (.int (2 : Int32)), .val (.ref b9), .val (.ref b12), .val (.int (own_acc (fun j => [v0, v1, v2, v3].getD j 0) (fun j => [w0, w1, w2, w3].getD j 0) 1 0 0)), .val (.int ((0 : Int32) + (v0 * w0)))]) [])) _
    refine XS.iconst X14.here hx rfl (hb hby at_289) ?_
    show Steps p.tables e below (T14.setTop (mkF m 290 (own_L p1 q2 q3 q4 q5 p6 (1 : Int32) (1 : Int32) v0 v1 v2 v3 w0 w1 w2 w3 [.val (.ref b7), .val (.int (2 : Int32)), .val (.ref b9), .val (.ref b12), .val (.int (own_acc (fun j => [v0, v1, v2, v3].getD j 0) (fun j => [w0, w1, w2, w3].getD j 0) 1 0 0)), .val (.int ((0 : Int32) + (v0 * w0)))]) [(.int (1 : Int32))])) _
    refine XS.goto X14.here hx rfl (pc0 := 290) (pc' := 294) rfl (hb hby at_290) (by decide) (by decide) ?_
    show Steps p.tables e below (T14.setTop (mkF m 294 (own_L p1 q2 q3 q4 q5 p6 (1 : Int32) (1 : Int32) v0 v1 v2 v3 w0 w1 w2 w3 [.val (.ref b7), .val (.int (2 : Int32)), .val (.ref b9), .val (.ref b12), .val (.int (own_acc (fun j => [v0, v1, v2, v3].getD j 0) (fun j => [w0, w1, w2, w3].getD j 0) 1 0 0)), .val (.int ((0 : Int32) + (v0 * w0)))]) [(.int (1 : Int32))])) _
    exact retN X14 hx (t := .boolean) Bd.returns (by simp) (hb hby at_294) hr
  · show Q0 Z p1 q2 q3 q4 q5 p6 h0 n0 _ T14.heap _
    exact ⟨rfl, N14⟩
set_option maxRecDepth 65536 in
set_option maxHeartbeats 40000000 in
theorem rm0_2_0 (l : Launch) (Z : State) (a0 : Array Value) (hw : ∀ d ∈ tables_1, d.before a0 Z = true) (ws : List Jvm.Cond) (p1 : Int32) (q2 : Int64) (q3 : Int64) (q4 : Int64) (q5 : Int64) (p6 : Int32) (h0 : Heap) (n0 : Nat) (Z0 : n0 ≤ h0.size) (v0 v1 v2 v3 w0 w1 w2 w3 : Int32) (h_v0 : (q2.toInt32) = v0) (h_v1 : (((q2.toUInt64 >>> ((32 : Int32) &&& 0x3f).toInt64.toUInt64).toInt64).toInt32) = v1) (h_v2 : (q3.toInt32) = v2) (h_v3 : (((q3.toUInt64 >>> ((32 : Int32) &&& 0x3f).toInt64.toUInt64).toInt64).toInt32) = v3) (h_w0 : (q4.toInt32) = w0) (h_w1 : (((q4.toUInt64 >>> ((32 : Int32) &&& 0x3f).toInt64.toUInt64).toInt64).toInt32) = w1) (h_w2 : (q5.toInt32) = w2) (h_w3 : (((q5.toUInt64 >>> ((32 : Int32) &&& 0x3f).toInt64.toUInt64).toInt64).toInt32) = w3) (hk : ((p1 &&& (2147483647 : Int32)) % (5 : Int32)) = (2 : Int32)) (hc9 : ¬ (p1 < (0 : Int32))) :
    MetFree l x (head1 (Jvm.Cond.code x code maxLocals ret :: ws) room_1) (fun a U => a = #[(.int p1), (.long q2), (.long q3), (.long q4), (.long q5), (.int p6)] ∧ Z.Warmed39 U.vm ∧ U.heap = h0) (fun _ _ _ _ _ => True) (fun _ U o U' => ∃ v L, o = .returned v ∧ Q0 Z p1 q2 q3 q4 q5 p6 h0 n0 v U'.heap L ∧ FrameEnd U o U' L room_1.cells room_1.slots) := by
  refine MetFree.of_bodySF (plainFor_of_name pn_0) hisR ?_
  intro p e s m args below meth c s₁ Bd hml0 hP hK
  obtain ⟨rfl, hZ, hh⟩ := hP
  have hx := Bd.exec
  have hby := Bd.bytes
  have hml : c.maxLocals = 27 := hml0
  have hown : s.vm.findClass "com/example/stagecraft/stagecraft/examples/GenericDotProductApplyPinLaw" = some m.cls := findClass_of_methodNamed Bd.named
  have hnm := (name_of_methodNamed Bd.named Bd.method).1
  have X0 : Stand p l e room_1 s m #[(.int p1), (.long q2), (.long q3), (.long q4), (.long q5), (.int p6)] below meth c s₁ [] 0 0 := Stand.of_body Bd
  have e0 : s₁.heap = h0 := by rw [← hh, Bd.state]; rfl
  have N0 := Fr.nil n0
  have pre0 : ∀ t, Steps p.tables e below (s₁.setTop (mkF m 0 #[.val (.int p1), .val (.long q2), .second, .val (.long q3), .second, .val (.long q4), .second, .val (.long q5), .second, .val (.int p6), .unset, .unset, .unset, .unset, .unset, .unset, .unset, .unset, .unset, .unset, .unset, .unset, .unset, .unset, .unset, .unset, .unset] [])) t → Steps p.tables e below (s₁.setTop (entryFrame m #[(.int p1), (.long q2), (.long q3), (.long q4), (.long q5), (.int p6)] maxLocals)) t := fun t k => castTop (ef_0 m p1 q2 q3 q4 q5 p6) k
  -- 3. LAWS
  have jmp_0 : ∀ target, Steps p.tables e below (s₁.setTop (mkF m 71 (own_L p1 q2 q3 q4 q5 p6 (2 : Int32) (0 : Int32) v0 v1 v2 v3 w0 w1 w2 w3 [.unset, .unset, .unset, .unset, .unset, .unset]) [])) target → Steps p.tables e below (s₁.setTop (mkF m 0 #[.val (.int p1), .val (.long q2), .second, .val (.long q3), .second, .val (.long q4), .second, .val (.long q5), .second, .val (.int p6), .unset, .unset, .unset, .unset, .unset, .unset, .unset, .unset, .unset, .unset, .unset, .unset, .unset, .unset, .unset, .unset, .unset] [])) target := fun target kt => own_j0 p1 q2 q3 q4 q5 p6 X0 hx hZ hw hby hown hc9 target (castTop (by rw [hk, h_v0, h_v1, h_v2, h_v3, h_w0, h_w1, h_w2, h_w3]) kt)
  obtain ⟨T7, h7, k7, X7, e7, E7, A7, I7, st7⟩ := newPE X0 hx hZ (hw _ (List.mem_of_getElem? (i := 1) rfl)) e0 (g := (mkF m 73 (own_L p1 q2 q3 q4 q5 p6 (2 : Int32) (0 : Int32) v0 v1 v2 v3 w0 w1 w2 w3 [.unset, .unset, .unset, .unset, .unset, .unset]) [(.int (2 : Int32))])) rfl (hb hby at_73) rfl (by decide) (cap := 2) (by decide) (by decide) (by decide) (by decide) (ad := "[I") rfl
  obtain ⟨b7, g7⟩ : ∃ z, z = h0.size := ⟨_, rfl⟩      -- the fresh array's address
  have Z7 : n0 ≤ h7.size := Nat.le_trans Z0 E7.1
  rw [← g7] at A7 I7 st7
  have V_b7 : Arv Z h7 b7 k7 .int (2 : Int32) [(.int (0 : Int32)), (.int (0 : Int32))] (.int (0 : Int32)) := (Arv.new A7 (by decide)).pad (pad_rep [] (.int (0 : Int32)) 2)
  have g_b7 : n0 ≤ b7 := Nat.le_trans Z0 (Nat.le_of_eq g7.symm)
  have sz_b7 : h0.size ≤ b7 := (Nat.le_trans (Keep.refl h0 []).1 (Nat.le_of_eq g7.symm))
  have K7 : Keep h0 h7 [] := (Keep.refl h0 []).ext E7
  obtain ⟨cl_b7_87, Ar_b7, q_b7, S_b7, N_b7, H_b7, G_b7⟩ := V_b7      -- open the array's fact as it stands now (its cell, kind, length, elements)
  have hin87 : ¬ ((0 : Int32) < 0 ∨ cl_b7_87.slots.size ≤ ((0 : Int32)).toNatClampNeg) := inb_of S_b7 ⟨by decide, by decide⟩
  obtain ⟨T8, h8, X8, e8, W8, st8⟩ := stI X7 hx hZ e7 Ar_b7 (j := (0 : Int32)) hin87 (g := (mkF m 87 (own_L p1 q2 q3 q4 q5 p6 (2 : Int32) (0 : Int32) v0 v1 v2 v3 w0 w1 w2 w3 [.val (.ref b7), .unset, .unset, .unset, .unset, .unset]) [(.int v0), (.int (0 : Int32)), (.ref b7)])) rfl rfl (hb hby at_87)
  have Z8 : n0 ≤ h8.size := Nat.le_trans Z7 (Keep.of_wr W8).1
  have V_b7_8 := Arv.set Ar_b7 q_b7 S_b7 N_b7 H_b7 G_b7 rfl W8 0 rfl (Nat.le_of_ble_eq_true rfl)      -- the array as it stands now (the place must lie among its first values: Arv.pad with pad_rep lengthens them)
  have K8 : Keep h0 h8 [] := K7.wr W8 (Or.inr sz_b7)
  have N8 := Fr.snoc X8 N0 g_b7
  obtain ⟨cl_b7_99, Ar_b7, q_b7, S_b7, N_b7, H_b7, G_b7⟩ := V_b7_8      -- open the array's fact as it stands now (its cell, kind, length, elements)
  have hin99 : ¬ ((1 : Int32) < 0 ∨ cl_b7_99.slots.size ≤ ((1 : Int32)).toNatClampNeg) := inb_of S_b7 ⟨by decide, by decide⟩
  obtain ⟨T9, h9, X9, e9, W9, st9⟩ := stI X8 hx hZ e8 Ar_b7 (j := (1 : Int32)) hin99 (g := (mkF m 99 (own_L p1 q2 q3 q4 q5 p6 (2 : Int32) (0 : Int32) v0 v1 v2 v3 w0 w1 w2 w3 [.val (.ref b7), .unset, .unset, .unset, .unset, .unset]) [(.int v1), (.int (1 : Int32)), (.ref b7)])) rfl rfl (hb hby at_99)
  have Z9 : n0 ≤ h9.size := Nat.le_trans Z8 (Keep.of_wr W9).1
  have V_b7_9 := Arv.set Ar_b7 q_b7 S_b7 N_b7 H_b7 G_b7 rfl W9 1 rfl (Nat.le_of_ble_eq_true rfl)      -- the array as it stands now (the place must lie among its first values: Arv.pad with pad_rep lengthens them)
  have K9 : Keep h0 h9 [] := K8.wr W9 (Or.inr sz_b7)
  have N9 := Fr.snoc X9 N8 g_b7
  have jmp_124 : ∀ target, Steps p.tables e below (T9.setTop (mkF m 131 (own_L p1 q2 q3 q4 q5 p6 (2 : Int32) (0 : Int32) v0 v1 v2 v3 w0 w1 w2 w3 [.val (.ref b7), .val (.int (2 : Int32)), .unset, .unset, .unset, .unset]) [])) target → Steps p.tables e below (T9.setTop (mkF m 124 (own_L p1 q2 q3 q4 q5 p6 (2 : Int32) (0 : Int32) v0 v1 v2 v3 w0 w1 w2 w3 [.val (.ref b7), .unset, .unset, .unset, .unset, .unset]) [])) target := by
    intro target kt
    · have hm : (2 : Int32) + (0 : Int32) = (2 : Int32) := by decide
      show Steps p.tables e below (T9.setTop (mkF m 124 (own_L p1 q2 q3 q4 q5 p6 (2 : Int32) (0 : Int32) v0 v1 v2 v3 w0 w1 w2 w3 [.val (.ref b7), .unset, .unset, .unset, .unset, .unset]) [])) _
      refine XS.iload X9.here hx rfl (hb hby at_124) rfl ?_
      show Steps p.tables e below (T9.setTop (mkF m 126 (own_L p1 q2 q3 q4 q5 p6 (2 : Int32) (0 : Int32) v0 v1 v2 v3 w0 w1 w2 w3 [.val (.ref b7), .unset, .unset, .unset, .unset, .unset]) [(.int (2 : Int32))])) _
      refine XS.iload X9.here hx rfl (hb hby at_126) rfl ?_
      show Steps p.tables e below (T9.setTop (mkF m 128 (own_L p1 q2 q3 q4 q5 p6 (2 : Int32) (0 : Int32) v0 v1 v2 v3 w0 w1 w2 w3 [.val (.ref b7), .unset, .unset, .unset, .unset, .unset]) [(.int (0 : Int32)), (.int (2 : Int32))])) _
      refine XS.iadd X9.here hx rfl (hb hby at_128) rfl ?_
      show Steps p.tables e below (T9.setTop (mkF m 129 (own_L p1 q2 q3 q4 q5 p6 (2 : Int32) (0 : Int32) v0 v1 v2 v3 w0 w1 w2 w3 [.val (.ref b7), .unset, .unset, .unset, .unset, .unset]) [(.int ((2 : Int32) + (0 : Int32)))])) _
      refine XS.istore X9.here hx rfl (hb hby at_129) rfl (l' := (own_L p1 q2 q3 q4 q5 p6 (2 : Int32) (0 : Int32) v0 v1 v2 v3 w0 w1 w2 w3 [.val (.ref b7), .val (.int ((2 : Int32) + (0 : Int32))), .unset, .unset, .unset, .unset])) rfl ?_
      exact castTop (by rw [hm]) kt
  obtain ⟨T10, h10, k10, X10, e10, E10, A10, I10, st10⟩ := newPE X9 hx hZ (hw _ (List.mem_of_getElem? (i := 1) rfl)) e9 (g := (mkF m 133 (own_L p1 q2 q3 q4 q5 p6 (2 : Int32) (0 : Int32) v0 v1 v2 v3 w0 w1 w2 w3 [.val (.ref b7), .val (.int (2 : Int32)), .unset, .unset, .unset, .unset]) [(.int (2 : Int32))])) rfl (hb hby at_133) rfl (by decide) (cap := 2) (by decide) (by decide) (by decide) (by decide) (ad := "[I") rfl
  obtain ⟨b10, g10⟩ : ∃ z, z = h9.size := ⟨_, rfl⟩      -- the fresh array's address
  have Z10 : n0 ≤ h10.size := Nat.le_trans Z9 E10.1
  rw [← g10] at A10 I10 st10
  have V_b10 : Arv Z h10 b10 k10 .int (2 : Int32) [(.int (0 : Int32)), (.int (0 : Int32))] (.int (0 : Int32)) := (Arv.new A10 (by decide)).pad (pad_rep [] (.int (0 : Int32)) 2)
  have g_b10 : n0 ≤ b10 := Nat.le_trans (Nat.le_trans (Nat.le_trans (Nat.le_trans Z0 E7.1) (Keep.of_wr W8).1) (Keep.of_wr W9).1) (Nat.le_of_eq g10.symm)
  have sz_b10 : h0.size ≤ b10 := (Nat.le_trans K9.1 (Nat.le_of_eq g10.symm))
  have K10 : Keep h0 h10 [] := K9.ext E10
  obtain ⟨cl_b10_147, Ar_b10, q_b10, S_b10, N_b10, H_b10, G_b10⟩ := V_b10      -- open the array's fact as it stands now (its cell, kind, length, elements)
  have hin147 : ¬ ((0 : Int32) < 0 ∨ cl_b10_147.slots.size ≤ ((0 : Int32)).toNatClampNeg) := inb_of S_b10 ⟨by decide, by decide⟩
  obtain ⟨T11, h11, X11, e11, W11, st11⟩ := stI X10 hx hZ e10 Ar_b10 (j := (0 : Int32)) hin147 (g := (mkF m 147 (own_L p1 q2 q3 q4 q5 p6 (2 : Int32) (0 : Int32) v0 v1 v2 v3 w0 w1 w2 w3 [.val (.ref b7), .val (.int (2 : Int32)), .val (.ref b10), .unset, .unset, .unset]) [(.int w0), (.int (0 : Int32)), (.ref b10)])) rfl rfl (hb hby at_147)
  have Z11 : n0 ≤ h11.size := Nat.le_trans Z10 (Keep.of_wr W11).1
  have V_b10_11 := Arv.set Ar_b10 q_b10 S_b10 N_b10 H_b10 G_b10 rfl W11 0 rfl (Nat.le_of_ble_eq_true rfl)      -- the array as it stands now (the place must lie among its first values: Arv.pad with pad_rep lengthens them)
  have K11 : Keep h0 h11 [] := K10.wr W11 (Or.inr sz_b10)
  have N11 := Fr.snoc X11 N9 g_b10
  obtain ⟨cl_b10_159, Ar_b10, q_b10, S_b10, N_b10, H_b10, G_b10⟩ := V_b10_11      -- open the array's fact as it stands now (its cell, kind, length, elements)
  have hin159 : ¬ ((1 : Int32) < 0 ∨ cl_b10_159.slots.size ≤ ((1 : Int32)).toNatClampNeg) := inb_of S_b10 ⟨by decide, by decide⟩
  obtain ⟨T12, h12, X12, e12, W12, st12⟩ := stI X11 hx hZ e11 Ar_b10 (j := (1 : Int32)) hin159 (g := (mkF m 159 (own_L p1 q2 q3 q4 q5 p6 (2 : Int32) (0 : Int32) v0 v1 v2 v3 w0 w1 w2 w3 [.val (.ref b7), .val (.int (2 : Int32)), .val (.ref b10), .unset, .unset, .unset]) [(.int w1), (.int (1 : Int32)), (.ref b10)])) rfl rfl (hb hby at_159)
  have Z12 : n0 ≤ h12.size := Nat.le_trans Z11 (Keep.of_wr W12).1
  have V_b10_12 := Arv.set Ar_b10 q_b10 S_b10 N_b10 H_b10 G_b10 rfl W12 1 rfl (Nat.le_of_ble_eq_true rfl)      -- the array as it stands now (the place must lie among its first values: Arv.pad with pad_rep lengthens them)
  have K12 : Keep h0 h12 [] := K11.wr W12 (Or.inr sz_b10)
  have N12 := Fr.snoc X12 N11 g_b10
  obtain ⟨T13, h13, X13, e13, E13, A13, D13, -, st13⟩ := newO X12 hx hZ hown (hw _ (List.mem_of_getElem? (i := 2) rfl)) (hw _ (List.mem_of_getElem? (i := 3) rfl)) (hw _ (List.mem_of_getElem? (i := 4) rfl)) e12 (g := (mkF m 196 (own_L p1 q2 q3 q4 q5 p6 (2 : Int32) (0 : Int32) v0 v1 v2 v3 w0 w1 w2 w3 [.val (.ref b7), .val (.int (2 : Int32)), .val (.ref b10), .unset, .unset, .unset]) [])) rfl (hb hby at_196) (by decide) (by decide)
  obtain ⟨b13, g13⟩ : ∃ z, z = h12.size := ⟨_, rfl⟩      -- the fresh object's address
  have Z13 : n0 ≤ h13.size := Nat.le_trans Z12 E13.1
  rw [← g13] at A13 D13 st13      -- A13 : Exa Z h13 b13 "com/example/stagecraft/stagecraft/examples/GenericDotProduct"; E13 : Ext h12 h13 (carries every older fact: .ext E13)
  have F_fixed_b13 : Fld Z h13 b13 "com/example/stagecraft/stagecraft/examples/GenericDotProduct" "fixed" "[I" .null := D13 (Or.inr (hw _ (List.mem_of_getElem? (i := 21) rfl))) (ty := (.array .int)) (by decide)
  have E_b13 := A13
  have g_b13 : n0 ≤ b13 := Nat.le_trans (Nat.le_trans (Nat.le_trans (Nat.le_trans (Nat.le_trans (Nat.le_trans (Nat.le_trans Z0 E7.1) (Keep.of_wr W8).1) (Keep.of_wr W9).1) E10.1) (Keep.of_wr W11).1) (Keep.of_wr W12).1) (Nat.le_of_eq g13.symm)
  have sz_b13 : h0.size ≤ b13 := (Nat.le_trans K12.1 (Nat.le_of_eq g13.symm))
  have K13 : Keep h0 h13 [] := K12.ext E13
  have CV1_b7 := ((((V_b7_9.ext E10).other W11 (Nat.ne_of_lt (Nat.lt_of_lt_of_le V_b7_9.lt (Nat.le_of_eq g10.symm)))).other W12 (Nat.ne_of_lt (Nat.lt_of_lt_of_le V_b7_9.lt (Nat.le_of_eq g10.symm)))).ext E13)
  have CE1_b7 := ((((((I7.wr W8).wr W9).ext E10).wr W11).wr W12).ext E13)
  have CV1_b10 := (V_b10_12.ext E13)
  have CE1_b10 := (((I10.wr W11).wr W12).ext E13)
  have CE1_b13 := E_b13
  -- pc 202: the constructor of com/example/stagecraft/stagecraft/examples/GenericDotProduct by its contract rm1
  obtain ⟨_, _, ⟨T14, L14, k14, n14⟩, -, X14, ⟨Lc14, hQ14, l14, y14, z14⟩, st14⟩ := X13.specialBack hx (y := (⟨"com/example/stagecraft/stagecraft/examples/GenericDotProduct", "<init>", "([I)V"⟩ : MethodName)) rfl hown (mvT hZ (hw _ (List.mem_of_getElem? (i := 5) rfl))) (mvT hZ (hw _ (List.mem_of_getElem? (i := 6) rfl))) (mvT hZ (hw _ (List.mem_of_getElem? (i := 7) rfl))) (by decide) (backOf (W := 1) (rm1 l Z a0 hw [] b13 b7 k7 (2 : Int32) [(.int v0), (.int v1)] .null h13 n0 Z13 CV1_b7 (by decide) CE1_b7 E_b13 F_fixed_b13 g_b13) hZ (hw _ (List.mem_of_getElem? (i := 7) rfl)) (hw _ (List.mem_of_getElem? (i := 4) rfl)) (by decide) (by decide)) (g := (mkF m 202 (own_L p1 q2 q3 q4 q5 p6 (2 : Int32) (0 : Int32) v0 v1 v2 v3 w0 w1 w2 w3 [.val (.ref b7), .val (.int (2 : Int32)), .val (.ref b10), .unset, .unset, .unset]) [(.ref b7), (.ref b13), (.ref b13)])) rfl (by rw [hml]; rfl) (Steps.refl _) (a := b13) (argsL := [(.ref b7)]) (rest := [(.ref b13)]) (lenOf pd_0_0 rfl) rfl (by show 2 * 0 + _ ≤ _; exact Nat.le_of_eq rfl) (hb hby at_202) (fun _ _ => ⟨rfl, e13, (by decide : 3 + 1 ≤ _), (by decide : 5 + 4 ≤ _)⟩)
  dsimp only [Pt.U, Pt.locs, Pt.cells, Pt.slots] at X14 l14 y14 z14 st14 hQ14
  subst l14 y14 z14
  obtain ⟨rfl, N14q, K14q, E14x, t14, F14a, V14a⟩ := hQ14
  have Z14 : n0 ≤ T14.heap.size := Nat.le_trans Z13 K14q.1
  have N14 := Fr.app N12 N14q
  have CE2_b7 := (((((((I7.wr W8).wr W9).ext E10).wr W11).wr W12).ext E13).keep K14q)
  have CE2_b10 := ((((I10.wr W11).wr W12).ext E13).keep K14q)
  have CE2_b13 := (E_b13.keep K14q)
  -- pc 211: com/example/stagecraft/stagecraft/examples/GenericDotProduct.apply by the contract of the body that the receiver's class selects, rm3
  obtain ⟨cq15, kq15, q15a, q15b, q15c⟩ := isOf hZ rfl (E_b13.keep K14q)
  obtain ⟨_, _, ⟨T15, L15, k15, n15⟩, -, X15, ⟨Lc15, hQ15, l15, y15, z15⟩, st15⟩ := X14.virtualBack hx (y := (⟨"com/example/stagecraft/stagecraft/examples/GenericDotProduct", "apply", "([I)I"⟩ : MethodName)) (z := (⟨"com/example/stagecraft/stagecraft/examples/GenericDotProduct", "apply", "([I)I"⟩ : MethodName)) hown (mvT hZ (hw _ (List.mem_of_getElem? (i := 22) rfl))) (mvT hZ (hw _ (List.mem_of_getElem? (i := 23) rfl))) (notFace_of_selects (args := #[]) (mvT hZ (hw _ (List.mem_of_getElem? (i := 25) rfl)))) (mvT hZ (hw _ (List.mem_of_getElem? (i := 25) rfl))) (mvT hZ (hw _ (List.mem_of_getElem? (i := 24) rfl))) (by decide) (backOf (W := 0) (rm3 l Z a0 hw [] b13 b10 t14 k7 k10 (2 : Int32) (2 : Int32) [(.int v0), (.int v1)] [(.int w0), (.int w1)] (fun j => [v0, v1, v2, v3].getD j 0) (fun j => [w0, w1, w2, w3].getD j 0) 2 T14.heap n0 Z14 (by decide) rfl (by decide) F14a V14a (CV1_b10.keep K14q (ninS (Nat.ne_of_lt (Nat.lt_of_lt_of_le V_b10_12.lt (Nat.le_of_eq g13.symm))) nin0)) (fun j hj => by rcases j with _ | _ | _ | _ | j <;> first | rfl | (exfalso; omega)) (fun j hj => by rcases j with _ | _ | _ | _ | j <;> first | rfl | (exfalso; omega))) hZ (hw _ (List.mem_of_getElem? (i := 26) rfl)) (hw _ (List.mem_of_getElem? (i := 4) rfl)) (by decide) (by decide)) q15a q15c (g := (mkF m 211 (own_L p1 q2 q3 q4 q5 p6 (2 : Int32) (0 : Int32) v0 v1 v2 v3 w0 w1 w2 w3 [.val (.ref b7), .val (.int (2 : Int32)), .val (.ref b10), .val (.ref b13), .unset, .unset]) [(.ref b10), (.ref b13)])) rfl (by rw [hml]; rfl) (Steps.refl _) (argsL := [(.ref b10)]) (rest := []) (lenOf pd_0_3 rfl) rfl (by show 2 * 0 + _ ≤ _; exact Nat.le_of_eq rfl) (hb hby at_211) (fun _ _ => ⟨rfl, rfl, (by decide : 4 + 0 ≤ _), (by decide : 9 + 0 ≤ _)⟩)
  dsimp only [Pt.U, Pt.locs, Pt.cells, Pt.slots] at X15 l15 y15 z15 st15 hQ15
  subst l15 y15 z15
  obtain ⟨rfl, N15q, E15q⟩ := hQ15
  have K15q : Keep T14.heap T15.heap [] := by rw [E15q]; exact Keep.refl _ _
  have Z15 : n0 ≤ T15.heap.size := Nat.le_trans Z14 K15q.1
  have N15 := Fr.app N14 N15q
  obtain ⟨fs, hr, hrun, hended, hW, hsame⟩ := X15.leave (v := some (.int (1 : Int32))) (fun h => by rw [Bd.returns] at h; cases h)
  refine ⟨_, _, pre0 _ ?_, hrun, hended, _, _, rfl, ?_, ⟨_, rfl⟩, hW, hsame.mono (by decide) (by decide)⟩
  -- 4. STEPS
  · show Steps p.tables e below (s₁.setTop (mkF m 0 #[.val (.int p1), .val (.long q2), .second, .val (.long q3), .second, .val (.long q4), .second, .val (.long q5), .second, .val (.int p6), .unset, .unset, .unset, .unset, .unset, .unset, .unset, .unset, .unset, .unset, .unset, .unset, .unset, .unset, .unset, .unset, .unset] [])) _
    refine jmp_0 _ ?_
    show Steps p.tables e below (s₁.setTop (mkF m 71 (own_L p1 q2 q3 q4 q5 p6 (2 : Int32) (0 : Int32) v0 v1 v2 v3 w0 w1 w2 w3 [.unset, .unset, .unset, .unset, .unset, .unset]) [])) _
    refine XS.iload X0.here hx rfl (hb hby at_71) rfl ?_
    show Steps p.tables e below (s₁.setTop (mkF m 73 (own_L p1 q2 q3 q4 q5 p6 (2 : Int32) (0 : Int32) v0 v1 v2 v3 w0 w1 w2 w3 [.unset, .unset, .unset, .unset, .unset, .unset]) [(.int (2 : Int32))])) _
    refine st7 _ ?_
    show Steps p.tables e below (T7.setTop (mkF m 75 (own_L p1 q2 q3 q4 q5 p6 (2 : Int32) (0 : Int32) v0 v1 v2 v3 w0 w1 w2 w3 [.unset, .unset, .unset, .unset, .unset, .unset]) [(.ref b7)])) _
    refine XS.astore X7.here hx rfl (hb hby at_75) rfl rfl (l' := (own_L p1 q2 q3 q4 q5 p6 (2 : Int32) (0 : Int32) v0 v1 v2 v3 w0 w1 w2 w3 [.val (.ref b7), .unset, .unset, .unset, .unset, .unset])) rfl ?_
    show Steps p.tables e below (T7.setTop (mkF m 77 (own_L p1 q2 q3 q4 q5 p6 (2 : Int32) (0 : Int32) v0 v1 v2 v3 w0 w1 w2 w3 [.val (.ref b7), .unset, .unset, .unset, .unset, .unset]) [])) _
    refine XS.iload X7.here hx rfl (hb hby at_77) rfl ?_
    show Steps p.tables e below (T7.setTop (mkF m 79 (own_L p1 q2 q3 q4 q5 p6 (2 : Int32) (0 : Int32) v0 v1 v2 v3 w0 w1 w2 w3 [.val (.ref b7), .unset, .unset, .unset, .unset, .unset]) [(.int (2 : Int32))])) _
    refine XS.ifNo X7.here hx rfl (hb hby at_79) rfl ((if0 _ _).trans (tlt (by decide : (0 : Int32) < (2 : Int32))).2.2.2) ?_
    show Steps p.tables e below (T7.setTop (mkF m 82 (own_L p1 q2 q3 q4 q5 p6 (2 : Int32) (0 : Int32) v0 v1 v2 v3 w0 w1 w2 w3 [.val (.ref b7), .unset, .unset, .unset, .unset, .unset]) [])) _
    refine XS.aload X7.here hx rfl (hb hby at_82) rfl rfl ?_
    show Steps p.tables e below (T7.setTop (mkF m 84 (own_L p1 q2 q3 q4 q5 p6 (2 : Int32) (0 : Int32) v0 v1 v2 v3 w0 w1 w2 w3 [.val (.ref b7), .unset, .unset, .unset, .unset, .unset]) [(.ref b7)])) _
    refine XS.iconst X7.here hx rfl (hb hby at_84) ?_
    show Steps p.tables e below (T7.setTop (mkF m 85 (own_L p1 q2 q3 q4 q5 p6 (2 : Int32) (0 : Int32) v0 v1 v2 v3 w0 w1 w2 w3 [.val (.ref b7), .unset, .unset, .unset, .unset, .unset]) [(.int (0 : Int32)), (.ref b7)])) _
    refine XS.iload X7.here hx rfl (hb hby at_85) rfl ?_
    show Steps p.tables e below (T7.setTop (mkF m 87 (own_L p1 q2 q3 q4 q5 p6 (2 : Int32) (0 : Int32) v0 v1 v2 v3 w0 w1 w2 w3 [.val (.ref b7), .unset, .unset, .unset, .unset, .unset]) [(.int v0), (.int (0 : Int32)), (.ref b7)])) _
    refine st8 _ ?_
    show Steps p.tables e below (T8.setTop (mkF m 88 (own_L p1 q2 q3 q4 q5 p6 (2 : Int32) (0 : Int32) v0 v1 v2 v3 w0 w1 w2 w3 [.val (.ref b7), .unset, .unset, .unset, .unset, .unset]) [])) _
    refine XS.iload X8.here hx rfl (hb hby at_88) rfl ?_
    show Steps p.tables e below (T8.setTop (mkF m 90 (own_L p1 q2 q3 q4 q5 p6 (2 : Int32) (0 : Int32) v0 v1 v2 v3 w0 w1 w2 w3 [.val (.ref b7), .unset, .unset, .unset, .unset, .unset]) [(.int (2 : Int32))])) _
    refine XS.iconst X8.here hx rfl (hb hby at_90) ?_
    show Steps p.tables e below (T8.setTop (mkF m 91 (own_L p1 q2 q3 q4 q5 p6 (2 : Int32) (0 : Int32) v0 v1 v2 v3 w0 w1 w2 w3 [.val (.ref b7), .unset, .unset, .unset, .unset, .unset]) [(.int (1 : Int32)), (.int (2 : Int32))])) _
    refine XS.icmpNo X8.here hx rfl (hb hby at_91) rfl (tlt (by decide : (1 : Int32) < (2 : Int32))).2.2.2 ?_
    show Steps p.tables e below (T8.setTop (mkF m 94 (own_L p1 q2 q3 q4 q5 p6 (2 : Int32) (0 : Int32) v0 v1 v2 v3 w0 w1 w2 w3 [.val (.ref b7), .unset, .unset, .unset, .unset, .unset]) [])) _
    refine XS.aload X8.here hx rfl (hb hby at_94) rfl rfl ?_
    show Steps p.tables e below (T8.setTop (mkF m 96 (own_L p1 q2 q3 q4 q5 p6 (2 : Int32) (0 : Int32) v0 v1 v2 v3 w0 w1 w2 w3 [.val (.ref b7), .unset, .unset, .unset, .unset, .unset]) [(.ref b7)])) _
    refine XS.iconst X8.here hx rfl (hb hby at_96) ?_
    show Steps p.tables e below (T8.setTop (mkF m 97 (own_L p1 q2 q3 q4 q5 p6 (2 : Int32) (0 : Int32) v0 v1 v2 v3 w0 w1 w2 w3 [.val (.ref b7), .unset, .unset, .unset, .unset, .unset]) [(.int (1 : Int32)), (.ref b7)])) _
    refine XS.iload X8.here hx rfl (hb hby at_97) rfl ?_
    show Steps p.tables e below (T8.setTop (mkF m 99 (own_L p1 q2 q3 q4 q5 p6 (2 : Int32) (0 : Int32) v0 v1 v2 v3 w0 w1 w2 w3 [.val (.ref b7), .unset, .unset, .unset, .unset, .unset]) [(.int v1), (.int (1 : Int32)), (.ref b7)])) _
    refine st9 _ ?_
    show Steps p.tables e below (T9.setTop (mkF m 100 (own_L p1 q2 q3 q4 q5 p6 (2 : Int32) (0 : Int32) v0 v1 v2 v3 w0 w1 w2 w3 [.val (.ref b7), .unset, .unset, .unset, .unset, .unset]) [])) _
    refine XS.iload X9.here hx rfl (hb hby at_100) rfl ?_
    show Steps p.tables e below (T9.setTop (mkF m 102 (own_L p1 q2 q3 q4 q5 p6 (2 : Int32) (0 : Int32) v0 v1 v2 v3 w0 w1 w2 w3 [.val (.ref b7), .unset, .unset, .unset, .unset, .unset]) [(.int (2 : Int32))])) _
    refine XS.iconst X9.here hx rfl (hb hby at_102) ?_
    show Steps p.tables e below (T9.setTop (mkF m 103 (own_L p1 q2 q3 q4 q5 p6 (2 : Int32) (0 : Int32) v0 v1 v2 v3 w0 w1 w2 w3 [.val (.ref b7), .unset, .unset, .unset, .unset, .unset]) [(.int (2 : Int32)), (.int (2 : Int32))])) _
    refine XS.icmpYes X9.here hx rfl (pc0 := 103) (pc' := 112) rfl (hb hby at_103) rfl (flt (by decide : ¬ ((2 : Int32) < (2 : Int32)))).2.2.2 (by decide) (by decide) ?_
    show Steps p.tables e below (T9.setTop (mkF m 112 (own_L p1 q2 q3 q4 q5 p6 (2 : Int32) (0 : Int32) v0 v1 v2 v3 w0 w1 w2 w3 [.val (.ref b7), .unset, .unset, .unset, .unset, .unset]) [])) _
    refine XS.iload X9.here hx rfl (hb hby at_112) rfl ?_
    show Steps p.tables e below (T9.setTop (mkF m 114 (own_L p1 q2 q3 q4 q5 p6 (2 : Int32) (0 : Int32) v0 v1 v2 v3 w0 w1 w2 w3 [.val (.ref b7), .unset, .unset, .unset, .unset, .unset]) [(.int (2 : Int32))])) _
    refine XS.iconst X9.here hx rfl (hb hby at_114) ?_
    show Steps p.tables e below (T9.setTop (mkF m 115 (own_L p1 q2 q3 q4 q5 p6 (2 : Int32) (0 : Int32) v0 v1 v2 v3 w0 w1 w2 w3 [.val (.ref b7), .unset, .unset, .unset, .unset, .unset]) [(.int (3 : Int32)), (.int (2 : Int32))])) _
    refine XS.icmpYes X9.here hx rfl (pc0 := 115) (pc' := 124) rfl (hb hby at_115) rfl (flt (by decide : ¬ ((3 : Int32) < (2 : Int32)))).2.2.2 (by decide) (by decide) ?_
    show Steps p.tables e below (T9.setTop (mkF m 124 (own_L p1 q2 q3 q4 q5 p6 (2 : Int32) (0 : Int32) v0 v1 v2 v3 w0 w1 w2 w3 [.val (.ref b7), .unset, .unset, .unset, .unset, .unset]) [])) _
    refine jmp_124 _ ?_
    show Steps p.tables e below (T9.setTop (mkF m 131 (own_L p1 q2 q3 q4 q5 p6 (2 : Int32) (0 : Int32) v0 v1 v2 v3 w0 w1 w2 w3 [.val (.ref b7), .val (.int (2 : Int32)), .unset, .unset, .unset, .unset]) [])) _
    refine XS.iload X9.here hx rfl (hb hby at_131) rfl ?_
    show Steps p.tables e below (T9.setTop (mkF m 133 (own_L p1 q2 q3 q4 q5 p6 (2 : Int32) (0 : Int32) v0 v1 v2 v3 w0 w1 w2 w3 [.val (.ref b7), .val (.int (2 : Int32)), .unset, .unset, .unset, .unset]) [(.int (2 : Int32))])) _
    refine st10 _ ?_
    show Steps p.tables e below (T10.setTop (mkF m 135 (own_L p1 q2 q3 q4 q5 p6 (2 : Int32) (0 : Int32) v0 v1 v2 v3 w0 w1 w2 w3 [.val (.ref b7), .val (.int (2 : Int32)), .unset, .unset, .unset, .unset]) [(.ref b10)])) _
    refine XS.astore X10.here hx rfl (hb hby at_135) rfl rfl (l' := (own_L p1 q2 q3 q4 q5 p6 (2 : Int32) (0 : Int32) v0 v1 v2 v3 w0 w1 w2 w3 [.val (.ref b7), .val (.int (2 : Int32)), .val (.ref b10), .unset, .unset, .unset])) rfl ?_
    show Steps p.tables e below (T10.setTop (mkF m 137 (own_L p1 q2 q3 q4 q5 p6 (2 : Int32) (0 : Int32) v0 v1 v2 v3 w0 w1 w2 w3 [.val (.ref b7), .val (.int (2 : Int32)), .val (.ref b10), .unset, .unset, .unset]) [])) _
    refine XS.iload X10.here hx rfl (hb hby at_137) rfl ?_
    show Steps p.tables e below (T10.setTop (mkF m 139 (own_L p1 q2 q3 q4 q5 p6 (2 : Int32) (0 : Int32) v0 v1 v2 v3 w0 w1 w2 w3 [.val (.ref b7), .val (.int (2 : Int32)), .val (.ref b10), .unset, .unset, .unset]) [(.int (2 : Int32))])) _
    refine XS.ifNo X10.here hx rfl (hb hby at_139) rfl ((if0 _ _).trans (tlt (by decide : (0 : Int32) < (2 : Int32))).2.2.2) ?_
    show Steps p.tables e below (T10.setTop (mkF m 142 (own_L p1 q2 q3 q4 q5 p6 (2 : Int32) (0 : Int32) v0 v1 v2 v3 w0 w1 w2 w3 [.val (.ref b7), .val (.int (2 : Int32)), .val (.ref b10), .unset, .unset, .unset]) [])) _
    refine XS.aload X10.here hx rfl (hb hby at_142) rfl rfl ?_
    show Steps p.tables e below (T10.setTop (mkF m 144 (own_L p1 q2 q3 q4 q5 p6 (2 : Int32) (0 : Int32) v0 v1 v2 v3 w0 w1 w2 w3 [.val (.ref b7), .val (.int (2 : Int32)), .val (.ref b10), .unset, .unset, .unset]) [(.ref b10)])) _
    refine XS.iconst X10.here hx rfl (hb hby at_144) ?_
    show Steps p.tables e below (T10.setTop (mkF m 145 (own_L p1 q2 q3 q4 q5 p6 (2 : Int32) (0 : Int32) v0 v1 v2 v3 w0 w1 w2 w3 [.val (.ref b7), .val (.int (2 : Int32)), .val (.ref b10), .unset, .unset, .unset]) [(.int (0 : Int32)), (.ref b10)])) _
    refine XS.iload X10.here hx rfl (hb hby at_145) rfl ?_
    show Steps p.tables e below (T10.setTop (mkF m 147 (own_L p1 q2 q3 q4 q5 p6 (2 : Int32) (0 : Int32) v0 v1 v2 v3 w0 w1 w2 w3 [.val (.ref b7), .val (.int (2 : Int32)), .val (.ref b10), .unset, .unset, .unset]) [(.int w0), (.int (0 : Int32)), (.ref b10)])) _
    refine st11 _ ?_
    show Steps p.tables e below (T11.setTop (mkF m 148 (own_L p1 q2 q3 q4 q5 p6 (2 : Int32) (0 : Int32) v0 v1 v2 v3 w0 w1 w2 w3 [.val (.ref b7), .val (.int (2 : Int32)), .val (.ref b10), .unset, .unset, .unset]) [])) _
    refine XS.iload X11.here hx rfl (hb hby at_148) rfl ?_
    show Steps p.tables e below (T11.setTop (mkF m 150 (own_L p1 q2 q3 q4 q5 p6 (2 : Int32) (0 : Int32) v0 v1 v2 v3 w0 w1 w2 w3 [.val (.ref b7), .val (.int (2 : Int32)), .val (.ref b10), .unset, .unset, .unset]) [(.int (2 : Int32))])) _
    refine XS.iconst X11.here hx rfl (hb hby at_150) ?_
    show Steps p.tables e below (T11.setTop (mkF m 151 (own_L p1 q2 q3 q4 q5 p6 (2 : Int32) (0 : Int32) v0 v1 v2 v3 w0 w1 w2 w3 [.val (.ref b7), .val (.int (2 : Int32)), .val (.ref b10), .unset, .unset, .unset]) [(.int (1 : Int32)), (.int (2 : Int32))])) _
    refine XS.icmpNo X11.here hx rfl (hb hby at_151) rfl (tlt (by decide : (1 : Int32) < (2 : Int32))).2.2.2 ?_
    show Steps p.tables e below (T11.setTop (mkF m 154 (own_L p1 q2 q3 q4 q5 p6 (2 : Int32) (0 : Int32) v0 v1 v2 v3 w0 w1 w2 w3 [.val (.ref b7), .val (.int (2 : Int32)), .val (.ref b10), .unset, .unset, .unset]) [])) _
    refine XS.aload X11.here hx rfl (hb hby at_154) rfl rfl ?_
    show Steps p.tables e below (T11.setTop (mkF m 156 (own_L p1 q2 q3 q4 q5 p6 (2 : Int32) (0 : Int32) v0 v1 v2 v3 w0 w1 w2 w3 [.val (.ref b7), .val (.int (2 : Int32)), .val (.ref b10), .unset, .unset, .unset]) [(.ref b10)])) _
    refine XS.iconst X11.here hx rfl (hb hby at_156) ?_
    show Steps p.tables e below (T11.setTop (mkF m 157 (own_L p1 q2 q3 q4 q5 p6 (2 : Int32) (0 : Int32) v0 v1 v2 v3 w0 w1 w2 w3 [.val (.ref b7), .val (.int (2 : Int32)), .val (.ref b10), .unset, .unset, .unset]) [(.int (1 : Int32)), (.ref b10)])) _
    refine XS.iload X11.here hx rfl (hb hby at_157) rfl ?_
    show Steps p.tables e below (T11.setTop (mkF m 159 (own_L p1 q2 q3 q4 q5 p6 (2 : Int32) (0 : Int32) v0 v1 v2 v3 w0 w1 w2 w3 [.val (.ref b7), .val (.int (2 : Int32)), .val (.ref b10), .unset, .unset, .unset]) [(.int w1), (.int (1 : Int32)), (.ref b10)])) _
    refine st12 _ ?_
    show Steps p.tables e below (T12.setTop (mkF m 160 (own_L p1 q2 q3 q4 q5 p6 (2 : Int32) (0 : Int32) v0 v1 v2 v3 w0 w1 w2 w3 [.val (.ref b7), .val (.int (2 : Int32)), .val (.ref b10), .unset, .unset, .unset]) [])) _
    refine XS.iload X12.here hx rfl (hb hby at_160) rfl ?_
    show Steps p.tables e below (T12.setTop (mkF m 162 (own_L p1 q2 q3 q4 q5 p6 (2 : Int32) (0 : Int32) v0 v1 v2 v3 w0 w1 w2 w3 [.val (.ref b7), .val (.int (2 : Int32)), .val (.ref b10), .unset, .unset, .unset]) [(.int (2 : Int32))])) _
    refine XS.iconst X12.here hx rfl (hb hby at_162) ?_
    show Steps p.tables e below (T12.setTop (mkF m 163 (own_L p1 q2 q3 q4 q5 p6 (2 : Int32) (0 : Int32) v0 v1 v2 v3 w0 w1 w2 w3 [.val (.ref b7), .val (.int (2 : Int32)), .val (.ref b10), .unset, .unset, .unset]) [(.int (2 : Int32)), (.int (2 : Int32))])) _
    refine XS.icmpYes X12.here hx rfl (pc0 := 163) (pc' := 172) rfl (hb hby at_163) rfl (flt (by decide : ¬ ((2 : Int32) < (2 : Int32)))).2.2.2 (by decide) (by decide) ?_
    show Steps p.tables e below (T12.setTop (mkF m 172 (own_L p1 q2 q3 q4 q5 p6 (2 : Int32) (0 : Int32) v0 v1 v2 v3 w0 w1 w2 w3 [.val (.ref b7), .val (.int (2 : Int32)), .val (.ref b10), .unset, .unset, .unset]) [])) _
    refine XS.iload X12.here hx rfl (hb hby at_172) rfl ?_
    show Steps p.tables e below (T12.setTop (mkF m 174 (own_L p1 q2 q3 q4 q5 p6 (2 : Int32) (0 : Int32) v0 v1 v2 v3 w0 w1 w2 w3 [.val (.ref b7), .val (.int (2 : Int32)), .val (.ref b10), .unset, .unset, .unset]) [(.int (2 : Int32))])) _
    refine XS.iconst X12.here hx rfl (hb hby at_174) ?_
    show Steps p.tables e below (T12.setTop (mkF m 175 (own_L p1 q2 q3 q4 q5 p6 (2 : Int32) (0 : Int32) v0 v1 v2 v3 w0 w1 w2 w3 [.val (.ref b7), .val (.int (2 : Int32)), .val (.ref b10), .unset, .unset, .unset]) [(.int (3 : Int32)), (.int (2 : Int32))])) _
    refine XS.icmpYes X12.here hx rfl (pc0 := 175) (pc' := 184) rfl (hb hby at_175) rfl (flt (by decide : ¬ ((3 : Int32) < (2 : Int32)))).2.2.2 (by decide) (by decide) ?_
    show Steps p.tables e below (T12.setTop (mkF m 184 (own_L p1 q2 q3 q4 q5 p6 (2 : Int32) (0 : Int32) v0 v1 v2 v3 w0 w1 w2 w3 [.val (.ref b7), .val (.int (2 : Int32)), .val (.ref b10), .unset, .unset, .unset]) [])) _
    refine XS.iload X12.here hx rfl (hb hby at_184) rfl ?_
    show Steps p.tables e below (T12.setTop (mkF m 186 (own_L p1 q2 q3 q4 q5 p6 (2 : Int32) (0 : Int32) v0 v1 v2 v3 w0 w1 w2 w3 [.val (.ref b7), .val (.int (2 : Int32)), .val (.ref b10), .unset, .unset, .unset]) [(.int (2 : Int32))])) _
    refine XS.iconst X12.here hx rfl (hb hby at_186) ?_
    show Steps p.tables e below (T12.setTop (mkF m 187 (own_L p1 q2 q3 q4 q5 p6 (2 : Int32) (0 : Int32) v0 v1 v2 v3 w0 w1 w2 w3 [.val (.ref b7), .val (.int (2 : Int32)), .val (.ref b10), .unset, .unset, .unset]) [(.int (4 : Int32)), (.int (2 : Int32))])) _
    refine XS.icmpYes X12.here hx rfl (pc0 := 187) (pc' := 196) rfl (hb hby at_187) rfl (flt (by decide : ¬ ((4 : Int32) < (2 : Int32)))).2.2.2 (by decide) (by decide) ?_
    show Steps p.tables e below (T12.setTop (mkF m 196 (own_L p1 q2 q3 q4 q5 p6 (2 : Int32) (0 : Int32) v0 v1 v2 v3 w0 w1 w2 w3 [.val (.ref b7), .val (.int (2 : Int32)), .val (.ref b10), .unset, .unset, .unset]) [])) _
    refine st13 _ ?_
    show Steps p.tables e below (T13.setTop (mkF m 199 (own_L p1 q2 q3 q4 q5 p6 (2 : Int32) (0 : Int32) v0 v1 v2 v3 w0 w1 w2 w3 [.val (.ref b7), .val (.int (2 : Int32)), .val (.ref b10), .unset, .unset, .unset]) [(.ref b13)])) _
    refine XS.dup X13.here hx rfl (hb hby at_199) rfl rfl ?_
    show Steps p.tables e below (T13.setTop (mkF m 200 (own_L p1 q2 q3 q4 q5 p6 (2 : Int32) (0 : Int32) v0 v1 v2 v3 w0 w1 w2 w3 [.val (.ref b7), .val (.int (2 : Int32)), .val (.ref b10), .unset, .unset, .unset]) [(.ref b13), (.ref b13)])) _
    refine XS.aload X13.here hx rfl (hb hby at_200) rfl rfl ?_
    show Steps p.tables e below (T13.setTop (mkF m 202 (own_L p1 q2 q3 q4 q5 p6 (2 : Int32) (0 : Int32) v0 v1 v2 v3 w0 w1 w2 w3 [.val (.ref b7), .val (.int (2 : Int32)), .val (.ref b10), .unset, .unset, .unset]) [(.ref b7), (.ref b13), (.ref b13)])) _
    refine st14.trans ?_
    show Steps p.tables e below (T14.setTop (mkF m 205 (own_L p1 q2 q3 q4 q5 p6 (2 : Int32) (0 : Int32) v0 v1 v2 v3 w0 w1 w2 w3 [.val (.ref b7), .val (.int (2 : Int32)), .val (.ref b10), .unset, .unset, .unset]) [(.ref b13)])) _
    refine XS.astore X14.here hx rfl (hb hby at_205) rfl rfl (l' := (own_L p1 q2 q3 q4 q5 p6 (2 : Int32) (0 : Int32) v0 v1 v2 v3 w0 w1 w2 w3 [.val (.ref b7), .val (.int (2 : Int32)), .val (.ref b10), .val (.ref b13), .unset, .unset])) rfl ?_
    show Steps p.tables e below (T14.setTop (mkF m 207 (own_L p1 q2 q3 q4 q5 p6 (2 : Int32) (0 : Int32) v0 v1 v2 v3 w0 w1 w2 w3 [.val (.ref b7), .val (.int (2 : Int32)), .val (.ref b10), .val (.ref b13), .unset, .unset]) [])) _
    refine XS.aload X14.here hx rfl (hb hby at_207) rfl rfl ?_
    show Steps p.tables e below (T14.setTop (mkF m 209 (own_L p1 q2 q3 q4 q5 p6 (2 : Int32) (0 : Int32) v0 v1 v2 v3 w0 w1 w2 w3 [.val (.ref b7), .val (.int (2 : Int32)), .val (.ref b10), .val (.ref b13), .unset, .unset]) [(.ref b13)])) _
    refine XS.aload X14.here hx rfl (hb hby at_209) rfl rfl ?_
    show Steps p.tables e below (T14.setTop (mkF m 211 (own_L p1 q2 q3 q4 q5 p6 (2 : Int32) (0 : Int32) v0 v1 v2 v3 w0 w1 w2 w3 [.val (.ref b7), .val (.int (2 : Int32)), .val (.ref b10), .val (.ref b13), .unset, .unset]) [(.ref b10), (.ref b13)])) _
    refine st15.trans ?_
    show Steps p.tables e below (T15.setTop (mkF m 214 (own_L p1 q2 q3 q4 q5 p6 (2 : Int32) (0 : Int32) v0 v1 v2 v3 w0 w1 w2 w3 [.val (.ref b7), .val (.int (2 : Int32)), .val (.ref b10), .val (.ref b13), .unset, .unset]) [(.int (own_acc (fun j => [v0, v1, v2, v3].getD j 0) (fun j => [w0, w1, w2, w3].getD j 0) 2 0 0))])) _
    refine XS.istore X15.here hx rfl (hb hby at_214) rfl (l' := (own_L p1 q2 q3 q4 q5 p6 (2 : Int32) (0 : Int32) v0 v1 v2 v3 w0 w1 w2 w3 [.val (.ref b7), .val (.int (2 : Int32)), .val (.ref b10), .val (.ref b13), .val (.int (own_acc (fun j => [v0, v1, v2, v3].getD j 0) (fun j => [w0, w1, w2, w3].getD j 0) 2 0 0)), .unset])) rfl ?_
    show Steps p.tables e below (T15.setTop (mkF m 216 (own_L p1 q2 q3 q4 q5 p6 (2 : Int32) (0 : Int32) v0 v1 v2 v3 w0 w1 w2 w3 [.val (.ref b7), .val (.int (2 : Int32)), .val (.ref b10), .val (.ref b13), .val (.int (own_acc (fun j => [v0, v1, v2, v3].getD j 0) (fun j => [w0, w1, w2, w3].getD j 0) 2 0 0)), .unset]) [])) _
    refine XS.iconst X15.here hx rfl (hb hby at_216) ?_
    show Steps p.tables e below (T15.setTop (mkF m 217 (own_L p1 q2 q3 q4 q5 p6 (2 : Int32) (0 : Int32) v0 v1 v2 v3 w0 w1 w2 w3 [.val (.ref b7), .val (.int (2 : Int32)), .val (.ref b10), .val (.ref b13), .val (.int (own_acc (fun j => [v0, v1, v2, v3].getD j 0) (fun j => [w0, w1, w2, w3].getD j 0) 2 0 0)), .unset]) [(.int (0 : Int32))])) _
    refine XS.istore X15.here hx rfl (hb hby at_217) rfl (l' := (own_L p1 q2 q3 q4 q5 p6 (2 : Int32) (0 : Int32) v0 v1 v2 v3 w0 w1 w2 w3 [.val (.ref b7), .val (.int (2 : Int32)), .val (.ref b10), .val (.ref b13), .val (.int (own_acc (fun j => [v0, v1, v2, v3].getD j 0) (fun j => [w0, w1, w2, w3].getD j 0) 2 0 0)), .val (.int (0 : Int32))])) rfl ?_
    show Steps p.tables e below (T15.setTop (mkF m 219 (own_L p1 q2 q3 q4 q5 p6 (2 : Int32) (0 : Int32) v0 v1 v2 v3 w0 w1 w2 w3 [.val (.ref b7), .val (.int (2 : Int32)), .val (.ref b10), .val (.ref b13), .val (.int (own_acc (fun j => [v0, v1, v2, v3].getD j 0) (fun j => [w0, w1, w2, w3].getD j 0) 2 0 0)), .val (.int (0 : Int32))]) [])) _
    refine XS.iload X15.here hx rfl (hb hby at_219) rfl ?_
    show Steps p.tables e below (T15.setTop (mkF m 221 (own_L p1 q2 q3 q4 q5 p6 (2 : Int32) (0 : Int32) v0 v1 v2 v3 w0 w1 w2 w3 [.val (.ref b7), .val (.int (2 : Int32)), .val (.ref b10), .val (.ref b13), .val (.int (own_acc (fun j => [v0, v1, v2, v3].getD j 0) (fun j => [w0, w1, w2, w3].getD j 0) 2 0 0)), .val (.int (0 : Int32))]) [(.int (2 : Int32))])) _
    refine XS.ifNo X15.here hx rfl (hb hby at_221) rfl ((if0 _ _).trans (tlt (by decide : (0 : Int32) < (2 : Int32))).2.2.2) ?_
    show Steps p.tables e below (T15.setTop (mkF m 224 (own_L p1 q2 q3 q4 q5 p6 (2 : Int32) (0 : Int32) v0 v1 v2 v3 w0 w1 w2 w3 [.val (.ref b7), .val (.int (2 : Int32)), .val (.ref b10), .val (.ref b13), .val (.int (own_acc (fun j => [v0, v1, v2, v3].getD j 0) (fun j => [w0, w1, w2, w3].getD j 0) 2 0 0)), .val (.int (0 : Int32))]) [])) _
    refine XS.iload X15.here hx rfl (hb hby at_224) rfl ?_
    show Steps p.tables e below (T15.setTop (mkF m 226 (own_L p1 q2 q3 q4 q5 p6 (2 : Int32) (0 : Int32) v0 v1 v2 v3 w0 w1 w2 w3 [.val (.ref b7), .val (.int (2 : Int32)), .val (.ref b10), .val (.ref b13), .val (.int (own_acc (fun j => [v0, v1, v2, v3].getD j 0) (fun j => [w0, w1, w2, w3].getD j 0) 2 0 0)), .val (.int (0 : Int32))]) [(.int (0 : Int32))])) _
    refine XS.iload X15.here hx rfl (hb hby at_226) rfl ?_
    show Steps p.tables e below (T15.setTop (mkF m 228 (own_L p1 q2 q3 q4 q5 p6 (2 : Int32) (0 : Int32) v0 v1 v2 v3 w0 w1 w2 w3 [.val (.ref b7), .val (.int (2 : Int32)), .val (.ref b10), .val (.ref b13), .val (.int (own_acc (fun j => [v0, v1, v2, v3].getD j 0) (fun j => [w0, w1, w2, w3].getD j 0) 2 0 0)), .val (.int (0 : Int32))]) [(.int v0), (.int (0 : Int32))])) _
    refine XS.iload X15.here hx rfl (hb hby at_228) rfl ?_
    show Steps p.tables e below (T15.setTop (mkF m 230 (own_L p1 q2 q3 q4 q5 p6 (2 : Int32) (0 : Int32) v0 v1 v2 v3 w0 w1 w2 w3 [.val (.ref b7), .val (.int (2 : Int32)), .val (.ref b10), .val (.ref b13), .val (.int (own_acc (fun j => [v0, v1, v2, v3].getD j 0) (fun j => [w0, w1, w2, w3].getD j 0) 2 0 0)), .val (.int (0 : Int32))]) [(.int w0), (.int v0), (.int (0 : Int32))])) _
    refine XS.imul X15.here hx rfl (hb hby at_230) rfl ?_
    show Steps p.tables e below (T15.setTop (mkF m 231 (own_L p1 q2 q3 q4 q5 p6 (2 : Int32) (0 : Int32) v0 v1 v2 v3 w0 w1 w2 w3 [.val (.ref b7), .val (.int (2 : Int32)), .val (.ref b10), .val (.ref b13), .val (.int (own_acc (fun j => [v0, v1, v2, v3].getD j 0) (fun j => [w0, w1, w2, w3].getD j 0) 2 0 0)), .val (.int (0 : Int32))]) [(.int (v0 * w0)), (.int (0 : Int32))])) _
    refine XS.iadd X15.here hx rfl (hb hby at_231) rfl ?_
    show Steps p.tables e below (T15.setTop (mkF m 232 (own_L p1 q2 q3 q4 q5 p6 (2 : Int32) (0 : Int32) v0 v1 v2 v3 w0 w1 w2 w3 [.val (.ref b7), .val (.int (2 : Int32)), .val (.ref b10), .val (.ref b13), .val (.int (own_acc (fun j => [v0, v1, v2, v3].getD j 0) (fun j => [w0, w1, w2, w3].getD j 0) 2 0 0)), .val (.int (0 : Int32))]) [(.int ((0 : Int32) + (v0 * w0)))])) _
    refine XS.istore X15.here hx rfl (hb hby at_232) rfl (l' := (own_L p1 q2 q3 q4 q5 p6 (2 : Int32) (0 : Int32) v0 v1 v2 v3 w0 w1 w2 w3 [.val (.ref b7), .val (.int (2 : Int32)), .val (.ref b10), .val (.ref b13), .val (.int (own_acc (fun j => [v0, v1, v2, v3].getD j 0) (fun j => [w0, w1, w2, w3].getD j 0) 2 0 0)), .val (.int ((0 : Int32) + (v0 * w0)))])) rfl ?_
    show Steps p.tables e below (T15.setTop (mkF m 234 (own_L p1 q2 q3 q4 q5 p6 (2 : Int32) (0 : Int32) v0 v1 v2 v3 w0 w1 w2 w3 [.val (.ref b7), .val (.int (2 : Int32)), .val (.ref b10), .val (.ref b13), .val (.int (own_acc (fun j => [v0, v1, v2, v3].getD j 0) (fun j => [w0, w1, w2, w3].getD j 0) 2 0 0)), .val (.int ((0 : Int32) + (v0 * w0)))]) [])) _
    refine XS.iload X15.here hx rfl (hb hby at_234) rfl ?_
    show Steps p.tables e below (T15.setTop (mkF m 236 (own_L p1 q2 q3 q4 q5 p6 (2 : Int32) (0 : Int32) v0 v1 v2 v3 w0 w1 w2 w3 [.val (.ref b7), .val (.int (2 : Int32)), .val (.ref b10), .val (.ref b13), .val (.int (own_acc (fun j => [v0, v1, v2, v3].getD j 0) (fun j => [w0, w1, w2, w3].getD j 0) 2 0 0)), .val (.int ((0 : Int32) + (v0 * w0)))]) [(.int (2 : Int32))])) _
    refine XS.iconst X15.here hx rfl (hb hby at_236) ?_
    show Steps p.tables e below (T15.setTop (mkF m 237 (own_L p1 q2 q3 q4 q5 p6 (2 : Int32) (0 : Int32) v0 v1 v2 v3 w0 w1 w2 w3 [.val (.ref b7), .val (.int (2 : Int32)), .val (.ref b10), .val (.ref b13), .val (.int (own_acc (fun j => [v0, v1, v2, v3].getD j 0) (fun j => [w0, w1, w2, w3].getD j 0) 2 0 0)), .val (.int ((0 : Int32) + (v0 * w0)))]) [(.int (1 : Int32)), (.int (2 : Int32))])) _
    refine XS.icmpNo X15.here hx rfl (hb hby at_237) rfl (tlt (by decide : (1 : Int32) < (2 : Int32))).2.2.2 ?_
    show Steps p.tables e below (T15.setTop (mkF m 240 (own_L p1 q2 q3 q4 q5 p6 (2 : Int32) (0 : Int32) v0 v1 v2 v3 w0 w1 w2 w3 [.val (.ref b7), .val (.int (2 : Int32)), .val (.ref b10), .val (.ref b13), .val (.int (own_acc (fun j => [v0, v1, v2, v3].getD j 0) (fun j => [w0, w1, w2, w3].getD j 0) 2 0 0)), .val (.int ((0 : Int32) + (v0 * w0)))]) [])) _
    refine XS.iload X15.here hx rfl (hb hby at_240) rfl ?_
    show Steps p.tables e below (T15.setTop (mkF m 242 (own_L p1 q2 q3 q4 q5 p6 (2 : Int32) (0 : Int32) v0 v1 v2 v3 w0 w1 w2 w3 [.val (.ref b7), .val (.int (2 : Int32)), .val (.ref b10), .val (.ref b13), .val (.int (own_acc (fun j => [v0, v1, v2, v3].getD j 0) (fun j => [w0, w1, w2, w3].getD j 0) 2 0 0)), .val (.int ((0 : Int32) + (v0 * w0)))]) [(.int ((0 : Int32) + (v0 * w0)))])) _
    refine XS.iload X15.here hx rfl (hb hby at_242) rfl ?_
    show Steps p.tables e below (T15.setTop (mkF m 244 (own_L p1 q2 q3 q4 q5 p6 (2 : Int32) (0 : Int32) v0 v1 v2 v3 w0 w1 w2 w3 [.val (.ref b7), .val (.int (2 : Int32)), .val (.ref b10), .val (.ref b13), .val (.int (own_acc (fun j => [v0, v1, v2, v3].getD j 0) (fun j => [w0, w1, w2, w3].getD j 0) 2 0 0)), .val (.int ((0 : Int32) + (v0 * w0)))]) [(.int v1), (.int ((0 : Int32) + (v0 * w0)))])) _
    refine XS.iload X15.here hx rfl (hb hby at_244) rfl ?_
    show Steps p.tables e below (T15.setTop (mkF m 246 (own_L p1 q2 q3 q4 q5 p6 (2 : Int32) (0 : Int32) v0 v1 v2 v3 w0 w1 w2 w3 [.val (.ref b7), .val (.int (2 : Int32)), .val (.ref b10), .val (.ref b13), .val (.int (own_acc (fun j => [v0, v1, v2, v3].getD j 0) (fun j => [w0, w1, w2, w3].getD j 0) 2 0 0)), .val (.int ((0 : Int32) + (v0 * w0)))]) [(.int w1), (.int v1), (.int ((0 : Int32) + (v0 * w0)))])) _
    refine XS.imul X15.here hx rfl (hb hby at_246) rfl ?_
    show Steps p.tables e below (T15.setTop (mkF m 247 (own_L p1 q2 q3 q4 q5 p6 (2 : Int32) (0 : Int32) v0 v1 v2 v3 w0 w1 w2 w3 [.val (.ref b7), .val (.int (2 : Int32)), .val (.ref b10), .val (.ref b13), .val (.int (own_acc (fun j => [v0, v1, v2, v3].getD j 0) (fun j => [w0, w1, w2, w3].getD j 0) 2 0 0)), .val (.int ((0 : Int32) + (v0 * w0)))]) [(.int (v1 * w1)), (.int ((0 : Int32) + (v0 * w0)))])) _
    refine XS.iadd X15.here hx rfl (hb hby at_247) rfl ?_
    show Steps p.tables e below (T15.setTop (mkF m 248 (own_L p1 q2 q3 q4 q5 p6 (2 : Int32) (0 : Int32) v0 v1 v2 v3 w0 w1 w2 w3 [.val (.ref b7), .val (.int (2 : Int32)), .val (.ref b10), .val (.ref b13), .val (.int (own_acc (fun j => [v0, v1, v2, v3].getD j 0) (fun j => [w0, w1, w2, w3].getD j 0) 2 0 0)), .val (.int ((0 : Int32) + (v0 * w0)))]) [(.int (((0 : Int32) + (v0 * w0)) + (v1 * w1)))])) _
    refine XS.istore X15.here hx rfl (hb hby at_248) rfl (l' := (own_L p1 q2 q3 q4 q5 p6 (2 : Int32) (0 : Int32) v0 v1 v2 v3 w0 w1 w2 w3 [.val (.ref b7), .val (.int (2 : Int32)), .val (.ref b10), .val (.ref b13), .val (.int (own_acc (fun j => [v0, v1, v2, v3].getD j 0) (fun j => [w0, w1, w2, w3].getD j 0) 2 0 0)), .val (.int (((0 : Int32) + (v0 * w0)) + (v1 * w1)))])) rfl ?_
    show Steps p.tables e below (T15.setTop (mkF m 250 (own_L p1 q2 q3 q4 q5 p6 (2 : Int32) (0 : Int32) v0 v1 v2 v3 w0 w1 w2 w3 [.val (.ref b7), .val (.int (2 : Int32)), .val (.ref b10), .val (.ref b13), .val (.int (own_acc (fun j => [v0, v1, v2, v3].getD j 0) (fun j => [w0, w1, w2, w3].getD j 0) 2 0 0)), .val (.int (((0 : Int32) + (v0 * w0)) + (v1 * w1)))]) [])) _
    refine XS.iload X15.here hx rfl (hb hby at_250) rfl ?_
    show Steps p.tables e below (T15.setTop (mkF m 252 (own_L p1 q2 q3 q4 q5 p6 (2 : Int32) (0 : Int32) v0 v1 v2 v3 w0 w1 w2 w3 [.val (.ref b7), .val (.int (2 : Int32)), .val (.ref b10), .val (.ref b13), .val (.int (own_acc (fun j => [v0, v1, v2, v3].getD j 0) (fun j => [w0, w1, w2, w3].getD j 0) 2 0 0)), .val (.int (((0 : Int32) + (v0 * w0)) + (v1 * w1)))]) [(.int (2 : Int32))])) _
    refine XS.iconst X15.here hx rfl (hb hby at_252) ?_
    show Steps p.tables e below (T15.setTop (mkF m 253 (own_L p1 q2 q3 q4 q5 p6 (2 : Int32) (0 : Int32) v0 v1 v2 v3 w0 w1 w2 w3 [.val (.ref b7), .val (.int (2 : Int32)), .val (.ref b10), .val (.ref b13), .val (.int (own_acc (fun j => [v0, v1, v2, v3].getD j 0) (fun j => [w0, w1, w2, w3].getD j 0) 2 0 0)), .val (.int (((0 : Int32) + (v0 * w0)) + (v1 * w1)))]) [(.int (2 : Int32)), (.int (2 : Int32))])) _
    refine XS.icmpYes X15.here hx rfl (pc0 := 253) (pc' := 266) rfl (hb hby at_253) rfl (flt (by decide : ¬ ((2 : Int32) < (2 : Int32)))).2.2.2 (by decide) (by decide) ?_
    show Steps p.tables e below (T15.setTop (mkF m 266 (own_L p1 q2 q3 q4 q5 p6 (2 : Int32) (0 : Int32) v0 v1 v2 v3 w0 w1 w2 w3 [.val (.ref b7), .val (.int (2 : Int32)), .val (.ref b10), .val (.ref b13), .val (.int (own_acc (fun j => [v0, v1, v2, v3].getD j 0) (fun j => [w0, w1, w2, w3].getD j 0) 2 0 0)), .val (.int (((0 : Int32) + (v0 * w0)) + (v1 * w1)))]) [])) _
    refine XS.iload X15.here hx rfl (hb hby at_266) rfl ?_
    show Steps p.tables e below (T15.setTop (mkF m 268 (own_L p1 q2 q3 q4 q5 p6 (2 : Int32) (0 : Int32) v0 v1 v2 v3 w0 w1 w2 w3 [.val (.ref b7), .val (.int (2 : Int32)), .val (.ref b10), .val (.ref b13), .val (.int (own_acc (fun j => [v0, v1, v2, v3].getD j 0) (fun j => [w0, w1, w2, w3].getD j 0) 2 0 0)), .val (.int (((0 : Int32) + (v0 * w0)) + (v1 * w1)))]) [(.int (2 : Int32))])) _
    refine XS.iconst X15.here hx rfl (hb hby at_268) ?_
    show Steps p.tables e below (T15.setTop (mkF m 269 (own_L p1 q2 q3 q4 q5 p6 (2 : Int32) (0 : Int32) v0 v1 v2 v3 w0 w1 w2 w3 [.val (.ref b7), .val (.int (2 : Int32)), .val (.ref b10), .val (.ref b13), .val (.int (own_acc (fun j => [v0, v1, v2, v3].getD j 0) (fun j => [w0, w1, w2, w3].getD j 0) 2 0 0)), .val (.int (((0 : Int32) + (v0 * w0)) + (v1 * w1)))]) [(.int (3 : Int32)), (.int (2 : Int32))])) _
    refine XS.icmpYes X15.here hx rfl (pc0 := 269) (pc' := 282) rfl (hb hby at_269) rfl (flt (by decide : ¬ ((3 : Int32) < (2 : Int32)))).2.2.2 (by decide) (by decide) ?_
    show Steps p.tables e below (T15.setTop (mkF m 282 (own_L p1 q2 q3 q4 q5 p6 (2 : Int32) (0 : Int32) v0 v1 v2 v3 w0 w1 w2 w3 [.val (.ref b7), .val (.int (2 : Int32)), .val (.ref b10), .val (.ref b13), .val (.int (own_acc (fun j => [v0, v1, v2, v3].getD j 0) (fun j => [w0, w1, w2, w3].getD j 0) 2 0 0)), .val (.int (((0 : Int32) + (v0 * w0)) + (v1 * w1)))]) [])) _
    refine XS.iload X15.here hx rfl (hb hby at_282) rfl ?_
    show Steps p.tables e below (T15.setTop (mkF m 284 (own_L p1 q2 q3 q4 q5 p6 (2 : Int32) (0 : Int32) v0 v1 v2 v3 w0 w1 w2 w3 [.val (.ref b7), .val (.int (2 : Int32)), .val (.ref b10), .val (.ref b13), .val (.int (own_acc (fun j => [v0, v1, v2, v3].getD j 0) (fun j => [w0, w1, w2, w3].getD j 0) 2 0 0)), .val (.int (((0 : Int32) + (v0 * w0)) + (v1 * w1)))]) [(.int (own_acc (fun j => [v0, v1, v2, v3].getD j 0) (fun j => [w0, w1, w2, w3].getD j 0) 2 0 0))])) _
    refine XS.iload X15.here hx rfl (hb hby at_284) rfl ?_
    show Steps p.tables e below (T15.setTop (mkF m 286 (own_L p1 q2 q3 q4 q5 p6 (2 : Int32) (0 : Int32) v0 v1 v2 v3 w0 w1 w2 w3 [.val (.ref b7), .val (.int (2 : Int32)), .val (.ref b10), .val (.ref b13), .val (.int (own_acc (fun j => [v0, v1, v2, v3].getD j 0) (fun j => [w0, w1, w2, w3].getD j 0) 2 0 0)), .val (.int (((0 : Int32) + (v0 * w0)) + (v1 * w1)))]) [(.int (((0 : Int32) + (v0 * w0)) + (v1 * w1))), (.int (own_acc (fun j => [v0, v1, v2, v3].getD j 0) (fun j => [w0, w1, w2, w3].getD j 0) 2 0 0))])) _
    refine XS.icmpNo X15.here hx rfl (hb hby at_286) rfl (teq (rfl : (own_acc (fun j => [v0, v1, v2, v3].getD j 0) (fun j => [w0, w1, w2, w3].getD j 0) 2 0 0) = (((0 : Int32) + (v0 * w0)) + (v1 * w1)))).2 ?_
    show Steps p.tables e below (T15.setTop (mkF m 289 (own_L p1 q2 q3 q4 q5 p6 (2 : Int32) (0 : Int32) v0 v1 v2 v3 w0 w1 w2 w3 [.val (.ref b7), .val (.int (2 : Int32)), .val (.ref b10), .val (.ref b13), .val (.int (own_acc (fun j => [v0, v1, v2, v3].getD j 0) (fun j => [w0, w1, w2, w3].getD j 0) 2 0 0)), .val (.int (((0 : Int32) + (v0 * w0)) + (v1 * w1)))]) [])) _
    refine XS.iconst X15.here hx rfl (hb hby at_289) ?_
    show Steps p.tables e below (T15.setTop (mkF m 290 (own_L p1 q2 q3 q4 q5 p6 (2 : Int32) (0 : Int32) v0 v1 v2 v3 w0 w1 w2 w3 [.val (.ref b7), .val (.int (2 : Int32)), .val (.ref b10), .val (.ref b13), .val (.int (own_acc (fun j => [v0, v1, v2, v3].getD j 0) (fun j => [w0, w1, w2, w3].getD j 0) 2 0 0)), .val (.int (((0 : Int32) + (v0 * w0)) + (v1 * w1)))]) [(.int (1 : Int32))])) _
    refine XS.goto X15.here hx rfl (pc0 := 290) (pc' := 294) rfl (hb hby at_290) (by decide) (by decide) ?_
    show Steps p.tables e below (T15.setTop (mkF m 294 (own_L p1 q2 q3 q4 q5 p6 (2 : Int32) (0 : Int32) v0 v1 v2 v3 w0 w1 w2 w3 [.val (.ref b7), .val (.int (2 : Int32)), .val (.ref b10), .val (.ref b13), .val (.int (own_acc (fun j => [v0, v1, v2, v3].getD j 0) (fun j => [w0, w1, w2, w3].getD j 0) 2 0 0)), .val (.int (((0 : Int32) + (v0 * w0)) + (v1 * w1)))]) [(.int (1 : Int32))])) _
    exact retN X15 hx (t := .boolean) Bd.returns (by simp) (hb hby at_294) hr
  · show Q0 Z p1 q2 q3 q4 q5 p6 h0 n0 _ T15.heap _
    exact ⟨rfl, N15⟩
set_option maxRecDepth 65536 in
set_option maxHeartbeats 40000000 in
theorem rm0_2_1 (l : Launch) (Z : State) (a0 : Array Value) (hw : ∀ d ∈ tables_1, d.before a0 Z = true) (ws : List Jvm.Cond) (p1 : Int32) (q2 : Int64) (q3 : Int64) (q4 : Int64) (q5 : Int64) (p6 : Int32) (h0 : Heap) (n0 : Nat) (Z0 : n0 ≤ h0.size) (v0 v1 v2 v3 w0 w1 w2 w3 : Int32) (h_v0 : (q2.toInt32) = v0) (h_v1 : (((q2.toUInt64 >>> ((32 : Int32) &&& 0x3f).toInt64.toUInt64).toInt64).toInt32) = v1) (h_v2 : (q3.toInt32) = v2) (h_v3 : (((q3.toUInt64 >>> ((32 : Int32) &&& 0x3f).toInt64.toUInt64).toInt64).toInt32) = v3) (h_w0 : (q4.toInt32) = w0) (h_w1 : (((q4.toUInt64 >>> ((32 : Int32) &&& 0x3f).toInt64.toUInt64).toInt64).toInt32) = w1) (h_w2 : (q5.toInt32) = w2) (h_w3 : (((q5.toUInt64 >>> ((32 : Int32) &&& 0x3f).toInt64.toUInt64).toInt64).toInt32) = w3) (hk : ((p1 &&& (2147483647 : Int32)) % (5 : Int32)) = (2 : Int32)) (hc9 : p1 < (0 : Int32)) :
    MetFree l x (head1 (Jvm.Cond.code x code maxLocals ret :: ws) room_1) (fun a U => a = #[(.int p1), (.long q2), (.long q3), (.long q4), (.long q5), (.int p6)] ∧ Z.Warmed39 U.vm ∧ U.heap = h0) (fun _ _ _ _ _ => True) (fun _ U o U' => ∃ v L, o = .returned v ∧ Q0 Z p1 q2 q3 q4 q5 p6 h0 n0 v U'.heap L ∧ FrameEnd U o U' L room_1.cells room_1.slots) := by
  refine MetFree.of_bodySF (plainFor_of_name pn_0) hisR ?_
  intro p e s m args below meth c s₁ Bd hml0 hP hK
  obtain ⟨rfl, hZ, hh⟩ := hP
  have hx := Bd.exec
  have hby := Bd.bytes
  have hml : c.maxLocals = 27 := hml0
  have hown : s.vm.findClass "com/example/stagecraft/stagecraft/examples/GenericDotProductApplyPinLaw" = some m.cls := findClass_of_methodNamed Bd.named
  have hnm := (name_of_methodNamed Bd.named Bd.method).1
  have X0 : Stand p l e room_1 s m #[(.int p1), (.long q2), (.long q3), (.long q4), (.long q5), (.int p6)] below meth c s₁ [] 0 0 := Stand.of_body Bd
  have e0 : s₁.heap = h0 := by rw [← hh, Bd.state]; rfl
  have N0 := Fr.nil n0
  have pre0 : ∀ t, Steps p.tables e below (s₁.setTop (mkF m 0 #[.val (.int p1), .val (.long q2), .second, .val (.long q3), .second, .val (.long q4), .second, .val (.long q5), .second, .val (.int p6), .unset, .unset, .unset, .unset, .unset, .unset, .unset, .unset, .unset, .unset, .unset, .unset, .unset, .unset, .unset, .unset, .unset] [])) t → Steps p.tables e below (s₁.setTop (entryFrame m #[(.int p1), (.long q2), (.long q3), (.long q4), (.long q5), (.int p6)] maxLocals)) t := fun t k => castTop (ef_0 m p1 q2 q3 q4 q5 p6) k
  -- 3. LAWS
  have jmp_0 : ∀ target, Steps p.tables e below (s₁.setTop (mkF m 71 (own_L p1 q2 q3 q4 q5 p6 (2 : Int32) (1 : Int32) v0 v1 v2 v3 w0 w1 w2 w3 [.unset, .unset, .unset, .unset, .unset, .unset]) [])) target → Steps p.tables e below (s₁.setTop (mkF m 0 #[.val (.int p1), .val (.long q2), .second, .val (.long q3), .second, .val (.long q4), .second, .val (.long q5), .second, .val (.int p6), .unset, .unset, .unset, .unset, .unset, .unset, .unset, .unset, .unset, .unset, .unset, .unset, .unset, .unset, .unset, .unset, .unset] [])) target := fun target kt => own_j1 p1 q2 q3 q4 q5 p6 X0 hx hZ hw hby hown hc9 target (castTop (by rw [hk, h_v0, h_v1, h_v2, h_v3, h_w0, h_w1, h_w2, h_w3]) kt)
  obtain ⟨T7, h7, k7, X7, e7, E7, A7, I7, st7⟩ := newPE X0 hx hZ (hw _ (List.mem_of_getElem? (i := 1) rfl)) e0 (g := (mkF m 73 (own_L p1 q2 q3 q4 q5 p6 (2 : Int32) (1 : Int32) v0 v1 v2 v3 w0 w1 w2 w3 [.unset, .unset, .unset, .unset, .unset, .unset]) [(.int (2 : Int32))])) rfl (hb hby at_73) rfl (by decide) (cap := 2) (by decide) (by decide) (by decide) (by decide) (ad := "[I") rfl
  obtain ⟨b7, g7⟩ : ∃ z, z = h0.size := ⟨_, rfl⟩      -- the fresh array's address
  have Z7 : n0 ≤ h7.size := Nat.le_trans Z0 E7.1
  rw [← g7] at A7 I7 st7
  have V_b7 : Arv Z h7 b7 k7 .int (2 : Int32) [(.int (0 : Int32)), (.int (0 : Int32))] (.int (0 : Int32)) := (Arv.new A7 (by decide)).pad (pad_rep [] (.int (0 : Int32)) 2)
  have g_b7 : n0 ≤ b7 := Nat.le_trans Z0 (Nat.le_of_eq g7.symm)
  have sz_b7 : h0.size ≤ b7 := (Nat.le_trans (Keep.refl h0 []).1 (Nat.le_of_eq g7.symm))
  have K7 : Keep h0 h7 [] := (Keep.refl h0 []).ext E7
  obtain ⟨cl_b7_87, Ar_b7, q_b7, S_b7, N_b7, H_b7, G_b7⟩ := V_b7      -- open the array's fact as it stands now (its cell, kind, length, elements)
  have hin87 : ¬ ((0 : Int32) < 0 ∨ cl_b7_87.slots.size ≤ ((0 : Int32)).toNatClampNeg) := inb_of S_b7 ⟨by decide, by decide⟩
  obtain ⟨T8, h8, X8, e8, W8, st8⟩ := stI X7 hx hZ e7 Ar_b7 (j := (0 : Int32)) hin87 (g := (mkF m 87 (own_L p1 q2 q3 q4 q5 p6 (2 : Int32) (1 : Int32) v0 v1 v2 v3 w0 w1 w2 w3 [.val (.ref b7), .unset, .unset, .unset, .unset, .unset]) [(.int v0), (.int (0 : Int32)), (.ref b7)])) rfl rfl (hb hby at_87)
  have Z8 : n0 ≤ h8.size := Nat.le_trans Z7 (Keep.of_wr W8).1
  have V_b7_8 := Arv.set Ar_b7 q_b7 S_b7 N_b7 H_b7 G_b7 rfl W8 0 rfl (Nat.le_of_ble_eq_true rfl)      -- the array as it stands now (the place must lie among its first values: Arv.pad with pad_rep lengthens them)
  have K8 : Keep h0 h8 [] := K7.wr W8 (Or.inr sz_b7)
  have N8 := Fr.snoc X8 N0 g_b7
  obtain ⟨cl_b7_99, Ar_b7, q_b7, S_b7, N_b7, H_b7, G_b7⟩ := V_b7_8      -- open the array's fact as it stands now (its cell, kind, length, elements)
  have hin99 : ¬ ((1 : Int32) < 0 ∨ cl_b7_99.slots.size ≤ ((1 : Int32)).toNatClampNeg) := inb_of S_b7 ⟨by decide, by decide⟩
  obtain ⟨T9, h9, X9, e9, W9, st9⟩ := stI X8 hx hZ e8 Ar_b7 (j := (1 : Int32)) hin99 (g := (mkF m 99 (own_L p1 q2 q3 q4 q5 p6 (2 : Int32) (1 : Int32) v0 v1 v2 v3 w0 w1 w2 w3 [.val (.ref b7), .unset, .unset, .unset, .unset, .unset]) [(.int v1), (.int (1 : Int32)), (.ref b7)])) rfl rfl (hb hby at_99)
  have Z9 : n0 ≤ h9.size := Nat.le_trans Z8 (Keep.of_wr W9).1
  have V_b7_9 := Arv.set Ar_b7 q_b7 S_b7 N_b7 H_b7 G_b7 rfl W9 1 rfl (Nat.le_of_ble_eq_true rfl)      -- the array as it stands now (the place must lie among its first values: Arv.pad with pad_rep lengthens them)
  have K9 : Keep h0 h9 [] := K8.wr W9 (Or.inr sz_b7)
  have N9 := Fr.snoc X9 N8 g_b7
  have jmp_124 : ∀ target, Steps p.tables e below (T9.setTop (mkF m 131 (own_L p1 q2 q3 q4 q5 p6 (2 : Int32) (1 : Int32) v0 v1 v2 v3 w0 w1 w2 w3 [.val (.ref b7), .val (.int (3 : Int32)), .unset, .unset, .unset, .unset]) [])) target → Steps p.tables e below (T9.setTop (mkF m 124 (own_L p1 q2 q3 q4 q5 p6 (2 : Int32) (1 : Int32) v0 v1 v2 v3 w0 w1 w2 w3 [.val (.ref b7), .unset, .unset, .unset, .unset, .unset]) [])) target := by
    intro target kt
    · have hm : (2 : Int32) + (1 : Int32) = (3 : Int32) := by decide
      show Steps p.tables e below (T9.setTop (mkF m 124 (own_L p1 q2 q3 q4 q5 p6 (2 : Int32) (1 : Int32) v0 v1 v2 v3 w0 w1 w2 w3 [.val (.ref b7), .unset, .unset, .unset, .unset, .unset]) [])) _
      refine XS.iload X9.here hx rfl (hb hby at_124) rfl ?_
      show Steps p.tables e below (T9.setTop (mkF m 126 (own_L p1 q2 q3 q4 q5 p6 (2 : Int32) (1 : Int32) v0 v1 v2 v3 w0 w1 w2 w3 [.val (.ref b7), .unset, .unset, .unset, .unset, .unset]) [(.int (2 : Int32))])) _
      refine XS.iload X9.here hx rfl (hb hby at_126) rfl ?_
      show Steps p.tables e below (T9.setTop (mkF m 128 (own_L p1 q2 q3 q4 q5 p6 (2 : Int32) (1 : Int32) v0 v1 v2 v3 w0 w1 w2 w3 [.val (.ref b7), .unset, .unset, .unset, .unset, .unset]) [(.int (1 : Int32)), (.int (2 : Int32))])) _
      refine XS.iadd X9.here hx rfl (hb hby at_128) rfl ?_
      show Steps p.tables e below (T9.setTop (mkF m 129 (own_L p1 q2 q3 q4 q5 p6 (2 : Int32) (1 : Int32) v0 v1 v2 v3 w0 w1 w2 w3 [.val (.ref b7), .unset, .unset, .unset, .unset, .unset]) [(.int ((2 : Int32) + (1 : Int32)))])) _
      refine XS.istore X9.here hx rfl (hb hby at_129) rfl (l' := (own_L p1 q2 q3 q4 q5 p6 (2 : Int32) (1 : Int32) v0 v1 v2 v3 w0 w1 w2 w3 [.val (.ref b7), .val (.int ((2 : Int32) + (1 : Int32))), .unset, .unset, .unset, .unset])) rfl ?_
      exact castTop (by rw [hm]) kt
  obtain ⟨T10, h10, k10, X10, e10, E10, A10, I10, st10⟩ := newPE X9 hx hZ (hw _ (List.mem_of_getElem? (i := 1) rfl)) e9 (g := (mkF m 133 (own_L p1 q2 q3 q4 q5 p6 (2 : Int32) (1 : Int32) v0 v1 v2 v3 w0 w1 w2 w3 [.val (.ref b7), .val (.int (3 : Int32)), .unset, .unset, .unset, .unset]) [(.int (3 : Int32))])) rfl (hb hby at_133) rfl (by decide) (cap := 3) (by decide) (by decide) (by decide) (by decide) (ad := "[I") rfl
  obtain ⟨b10, g10⟩ : ∃ z, z = h9.size := ⟨_, rfl⟩      -- the fresh array's address
  have Z10 : n0 ≤ h10.size := Nat.le_trans Z9 E10.1
  rw [← g10] at A10 I10 st10
  have V_b10 : Arv Z h10 b10 k10 .int (3 : Int32) [(.int (0 : Int32)), (.int (0 : Int32)), (.int (0 : Int32))] (.int (0 : Int32)) := (Arv.new A10 (by decide)).pad (pad_rep [] (.int (0 : Int32)) 3)
  have g_b10 : n0 ≤ b10 := Nat.le_trans (Nat.le_trans (Nat.le_trans (Nat.le_trans Z0 E7.1) (Keep.of_wr W8).1) (Keep.of_wr W9).1) (Nat.le_of_eq g10.symm)
  have sz_b10 : h0.size ≤ b10 := (Nat.le_trans K9.1 (Nat.le_of_eq g10.symm))
  have K10 : Keep h0 h10 [] := K9.ext E10
  obtain ⟨cl_b10_147, Ar_b10, q_b10, S_b10, N_b10, H_b10, G_b10⟩ := V_b10      -- open the array's fact as it stands now (its cell, kind, length, elements)
  have hin147 : ¬ ((0 : Int32) < 0 ∨ cl_b10_147.slots.size ≤ ((0 : Int32)).toNatClampNeg) := inb_of S_b10 ⟨by decide, by decide⟩
  obtain ⟨T11, h11, X11, e11, W11, st11⟩ := stI X10 hx hZ e10 Ar_b10 (j := (0 : Int32)) hin147 (g := (mkF m 147 (own_L p1 q2 q3 q4 q5 p6 (2 : Int32) (1 : Int32) v0 v1 v2 v3 w0 w1 w2 w3 [.val (.ref b7), .val (.int (3 : Int32)), .val (.ref b10), .unset, .unset, .unset]) [(.int w0), (.int (0 : Int32)), (.ref b10)])) rfl rfl (hb hby at_147)
  have Z11 : n0 ≤ h11.size := Nat.le_trans Z10 (Keep.of_wr W11).1
  have V_b10_11 := Arv.set Ar_b10 q_b10 S_b10 N_b10 H_b10 G_b10 rfl W11 0 rfl (Nat.le_of_ble_eq_true rfl)      -- the array as it stands now (the place must lie among its first values: Arv.pad with pad_rep lengthens them)
  have K11 : Keep h0 h11 [] := K10.wr W11 (Or.inr sz_b10)
  have N11 := Fr.snoc X11 N9 g_b10
  obtain ⟨cl_b10_159, Ar_b10, q_b10, S_b10, N_b10, H_b10, G_b10⟩ := V_b10_11      -- open the array's fact as it stands now (its cell, kind, length, elements)
  have hin159 : ¬ ((1 : Int32) < 0 ∨ cl_b10_159.slots.size ≤ ((1 : Int32)).toNatClampNeg) := inb_of S_b10 ⟨by decide, by decide⟩
  obtain ⟨T12, h12, X12, e12, W12, st12⟩ := stI X11 hx hZ e11 Ar_b10 (j := (1 : Int32)) hin159 (g := (mkF m 159 (own_L p1 q2 q3 q4 q5 p6 (2 : Int32) (1 : Int32) v0 v1 v2 v3 w0 w1 w2 w3 [.val (.ref b7), .val (.int (3 : Int32)), .val (.ref b10), .unset, .unset, .unset]) [(.int w1), (.int (1 : Int32)), (.ref b10)])) rfl rfl (hb hby at_159)
  have Z12 : n0 ≤ h12.size := Nat.le_trans Z11 (Keep.of_wr W12).1
  have V_b10_12 := Arv.set Ar_b10 q_b10 S_b10 N_b10 H_b10 G_b10 rfl W12 1 rfl (Nat.le_of_ble_eq_true rfl)      -- the array as it stands now (the place must lie among its first values: Arv.pad with pad_rep lengthens them)
  have K12 : Keep h0 h12 [] := K11.wr W12 (Or.inr sz_b10)
  have N12 := Fr.snoc X12 N11 g_b10
  obtain ⟨cl_b10_171, Ar_b10, q_b10, S_b10, N_b10, H_b10, G_b10⟩ := V_b10_12      -- open the array's fact as it stands now (its cell, kind, length, elements)
  have hin171 : ¬ ((2 : Int32) < 0 ∨ cl_b10_171.slots.size ≤ ((2 : Int32)).toNatClampNeg) := inb_of S_b10 ⟨by decide, by decide⟩
  obtain ⟨T13, h13, X13, e13, W13, st13⟩ := stI X12 hx hZ e12 Ar_b10 (j := (2 : Int32)) hin171 (g := (mkF m 171 (own_L p1 q2 q3 q4 q5 p6 (2 : Int32) (1 : Int32) v0 v1 v2 v3 w0 w1 w2 w3 [.val (.ref b7), .val (.int (3 : Int32)), .val (.ref b10), .unset, .unset, .unset]) [(.int w2), (.int (2 : Int32)), (.ref b10)])) rfl rfl (hb hby at_171)
  have Z13 : n0 ≤ h13.size := Nat.le_trans Z12 (Keep.of_wr W13).1
  have V_b10_13 := Arv.set Ar_b10 q_b10 S_b10 N_b10 H_b10 G_b10 rfl W13 2 rfl (Nat.le_of_ble_eq_true rfl)      -- the array as it stands now (the place must lie among its first values: Arv.pad with pad_rep lengthens them)
  have K13 : Keep h0 h13 [] := K12.wr W13 (Or.inr sz_b10)
  have N13 := Fr.snoc X13 N12 g_b10
  obtain ⟨T14, h14, X14, e14, E14, A14, D14, -, st14⟩ := newO X13 hx hZ hown (hw _ (List.mem_of_getElem? (i := 2) rfl)) (hw _ (List.mem_of_getElem? (i := 3) rfl)) (hw _ (List.mem_of_getElem? (i := 4) rfl)) e13 (g := (mkF m 196 (own_L p1 q2 q3 q4 q5 p6 (2 : Int32) (1 : Int32) v0 v1 v2 v3 w0 w1 w2 w3 [.val (.ref b7), .val (.int (3 : Int32)), .val (.ref b10), .unset, .unset, .unset]) [])) rfl (hb hby at_196) (by decide) (by decide)
  obtain ⟨b14, g14⟩ : ∃ z, z = h13.size := ⟨_, rfl⟩      -- the fresh object's address
  have Z14 : n0 ≤ h14.size := Nat.le_trans Z13 E14.1
  rw [← g14] at A14 D14 st14      -- A14 : Exa Z h14 b14 "com/example/stagecraft/stagecraft/examples/GenericDotProduct"; E14 : Ext h13 h14 (carries every older fact: .ext E14)
  have F_fixed_b14 : Fld Z h14 b14 "com/example/stagecraft/stagecraft/examples/GenericDotProduct" "fixed" "[I" .null := D14 (Or.inr (hw _ (List.mem_of_getElem? (i := 21) rfl))) (ty := (.array .int)) (by decide)
  have E_b14 := A14
  have g_b14 : n0 ≤ b14 := Nat.le_trans (Nat.le_trans (Nat.le_trans (Nat.le_trans (Nat.le_trans (Nat.le_trans (Nat.le_trans (Nat.le_trans Z0 E7.1) (Keep.of_wr W8).1) (Keep.of_wr W9).1) E10.1) (Keep.of_wr W11).1) (Keep.of_wr W12).1) (Keep.of_wr W13).1) (Nat.le_of_eq g14.symm)
  have sz_b14 : h0.size ≤ b14 := (Nat.le_trans K13.1 (Nat.le_of_eq g14.symm))
  have K14 : Keep h0 h14 [] := K13.ext E14
  have CV1_b7 := (((((V_b7_9.ext E10).other W11 (Nat.ne_of_lt (Nat.lt_of_lt_of_le V_b7_9.lt (Nat.le_of_eq g10.symm)))).other W12 (Nat.ne_of_lt (Nat.lt_of_lt_of_le V_b7_9.lt (Nat.le_of_eq g10.symm)))).other W13 (Nat.ne_of_lt (Nat.lt_of_lt_of_le V_b7_9.lt (Nat.le_of_eq g10.symm)))).ext E14)
  have CE1_b7 := (((((((I7.wr W8).wr W9).ext E10).wr W11).wr W12).wr W13).ext E14)
  have CV1_b10 := (V_b10_13.ext E14)
  have CE1_b10 := ((((I10.wr W11).wr W12).wr W13).ext E14)
  have CE1_b14 := E_b14
  -- pc 202: the constructor of com/example/stagecraft/stagecraft/examples/GenericDotProduct by its contract rm1
  obtain ⟨_, _, ⟨T15, L15, k15, n15⟩, -, X15, ⟨Lc15, hQ15, l15, y15, z15⟩, st15⟩ := X14.specialBack hx (y := (⟨"com/example/stagecraft/stagecraft/examples/GenericDotProduct", "<init>", "([I)V"⟩ : MethodName)) rfl hown (mvT hZ (hw _ (List.mem_of_getElem? (i := 5) rfl))) (mvT hZ (hw _ (List.mem_of_getElem? (i := 6) rfl))) (mvT hZ (hw _ (List.mem_of_getElem? (i := 7) rfl))) (by decide) (backOf (W := 1) (rm1 l Z a0 hw [] b14 b7 k7 (2 : Int32) [(.int v0), (.int v1)] .null h14 n0 Z14 CV1_b7 (by decide) CE1_b7 E_b14 F_fixed_b14 g_b14) hZ (hw _ (List.mem_of_getElem? (i := 7) rfl)) (hw _ (List.mem_of_getElem? (i := 4) rfl)) (by decide) (by decide)) (g := (mkF m 202 (own_L p1 q2 q3 q4 q5 p6 (2 : Int32) (1 : Int32) v0 v1 v2 v3 w0 w1 w2 w3 [.val (.ref b7), .val (.int (3 : Int32)), .val (.ref b10), .unset, .unset, .unset]) [(.ref b7), (.ref b14), (.ref b14)])) rfl (by rw [hml]; rfl) (Steps.refl _) (a := b14) (argsL := [(.ref b7)]) (rest := [(.ref b14)]) (lenOf pd_0_0 rfl) rfl (by show 2 * 0 + _ ≤ _; exact Nat.le_of_eq rfl) (hb hby at_202) (fun _ _ => ⟨rfl, e14, (by decide : 3 + 1 ≤ _), (by decide : 6 + 4 ≤ _)⟩)
  dsimp only [Pt.U, Pt.locs, Pt.cells, Pt.slots] at X15 l15 y15 z15 st15 hQ15
  subst l15 y15 z15
  obtain ⟨rfl, N15q, K15q, E15x, t15, F15a, V15a⟩ := hQ15
  have Z15 : n0 ≤ T15.heap.size := Nat.le_trans Z14 K15q.1
  have N15 := Fr.app N13 N15q
  have CE2_b7 := ((((((((I7.wr W8).wr W9).ext E10).wr W11).wr W12).wr W13).ext E14).keep K15q)
  have CE2_b10 := (((((I10.wr W11).wr W12).wr W13).ext E14).keep K15q)
  have CE2_b14 := (E_b14.keep K15q)
  -- pc 211: com/example/stagecraft/stagecraft/examples/GenericDotProduct.apply by the contract of the body that the receiver's class selects, rm3
  obtain ⟨cq16, kq16, q16a, q16b, q16c⟩ := isOf hZ rfl (E_b14.keep K15q)
  obtain ⟨_, _, ⟨T16, L16, k16, n16⟩, -, X16, ⟨Lc16, hQ16, l16, y16, z16⟩, st16⟩ := X15.virtualBack hx (y := (⟨"com/example/stagecraft/stagecraft/examples/GenericDotProduct", "apply", "([I)I"⟩ : MethodName)) (z := (⟨"com/example/stagecraft/stagecraft/examples/GenericDotProduct", "apply", "([I)I"⟩ : MethodName)) hown (mvT hZ (hw _ (List.mem_of_getElem? (i := 22) rfl))) (mvT hZ (hw _ (List.mem_of_getElem? (i := 23) rfl))) (notFace_of_selects (args := #[]) (mvT hZ (hw _ (List.mem_of_getElem? (i := 25) rfl)))) (mvT hZ (hw _ (List.mem_of_getElem? (i := 25) rfl))) (mvT hZ (hw _ (List.mem_of_getElem? (i := 24) rfl))) (by decide) (backOf (W := 0) (rm3 l Z a0 hw [] b14 b10 t15 k7 k10 (2 : Int32) (3 : Int32) [(.int v0), (.int v1)] [(.int w0), (.int w1), (.int w2)] (fun j => [v0, v1, v2, v3].getD j 0) (fun j => [w0, w1, w2, w3].getD j 0) 2 T15.heap n0 Z15 (by decide) rfl (by decide) F15a V15a (CV1_b10.keep K15q (ninS (Nat.ne_of_lt (Nat.lt_of_lt_of_le V_b10_13.lt (Nat.le_of_eq g14.symm))) nin0)) (fun j hj => by rcases j with _ | _ | _ | _ | j <;> first | rfl | (exfalso; omega)) (fun j hj => by rcases j with _ | _ | _ | _ | j <;> first | rfl | (exfalso; omega))) hZ (hw _ (List.mem_of_getElem? (i := 26) rfl)) (hw _ (List.mem_of_getElem? (i := 4) rfl)) (by decide) (by decide)) q16a q16c (g := (mkF m 211 (own_L p1 q2 q3 q4 q5 p6 (2 : Int32) (1 : Int32) v0 v1 v2 v3 w0 w1 w2 w3 [.val (.ref b7), .val (.int (3 : Int32)), .val (.ref b10), .val (.ref b14), .unset, .unset]) [(.ref b10), (.ref b14)])) rfl (by rw [hml]; rfl) (Steps.refl _) (argsL := [(.ref b10)]) (rest := []) (lenOf pd_0_3 rfl) rfl (by show 2 * 0 + _ ≤ _; exact Nat.le_of_eq rfl) (hb hby at_211) (fun _ _ => ⟨rfl, rfl, (by decide : 4 + 0 ≤ _), (by decide : 10 + 0 ≤ _)⟩)
  dsimp only [Pt.U, Pt.locs, Pt.cells, Pt.slots] at X16 l16 y16 z16 st16 hQ16
  subst l16 y16 z16
  obtain ⟨rfl, N16q, E16q⟩ := hQ16
  have K16q : Keep T15.heap T16.heap [] := by rw [E16q]; exact Keep.refl _ _
  have Z16 : n0 ≤ T16.heap.size := Nat.le_trans Z15 K16q.1
  have N16 := Fr.app N15 N16q
  obtain ⟨fs, hr, hrun, hended, hW, hsame⟩ := X16.leave (v := some (.int (1 : Int32))) (fun h => by rw [Bd.returns] at h; cases h)
  refine ⟨_, _, pre0 _ ?_, hrun, hended, _, _, rfl, ?_, ⟨_, rfl⟩, hW, hsame.mono (by decide) (by decide)⟩
  -- 4. STEPS
  · show Steps p.tables e below (s₁.setTop (mkF m 0 #[.val (.int p1), .val (.long q2), .second, .val (.long q3), .second, .val (.long q4), .second, .val (.long q5), .second, .val (.int p6), .unset, .unset, .unset, .unset, .unset, .unset, .unset, .unset, .unset, .unset, .unset, .unset, .unset, .unset, .unset, .unset, .unset] [])) _
    refine jmp_0 _ ?_
    show Steps p.tables e below (s₁.setTop (mkF m 71 (own_L p1 q2 q3 q4 q5 p6 (2 : Int32) (1 : Int32) v0 v1 v2 v3 w0 w1 w2 w3 [.unset, .unset, .unset, .unset, .unset, .unset]) [])) _
    refine XS.iload X0.here hx rfl (hb hby at_71) rfl ?_
    show Steps p.tables e below (s₁.setTop (mkF m 73 (own_L p1 q2 q3 q4 q5 p6 (2 : Int32) (1 : Int32) v0 v1 v2 v3 w0 w1 w2 w3 [.unset, .unset, .unset, .unset, .unset, .unset]) [(.int (2 : Int32))])) _
    refine st7 _ ?_
    show Steps p.tables e below (T7.setTop (mkF m 75 (own_L p1 q2 q3 q4 q5 p6 (2 : Int32) (1 : Int32) v0 v1 v2 v3 w0 w1 w2 w3 [.unset, .unset, .unset, .unset, .unset, .unset]) [(.ref b7)])) _
    refine XS.astore X7.here hx rfl (hb hby at_75) rfl rfl (l' := (own_L p1 q2 q3 q4 q5 p6 (2 : Int32) (1 : Int32) v0 v1 v2 v3 w0 w1 w2 w3 [.val (.ref b7), .unset, .unset, .unset, .unset, .unset])) rfl ?_
    show Steps p.tables e below (T7.setTop (mkF m 77 (own_L p1 q2 q3 q4 q5 p6 (2 : Int32) (1 : Int32) v0 v1 v2 v3 w0 w1 w2 w3 [.val (.ref b7), .unset, .unset, .unset, .unset, .unset]) [])) _
    refine XS.iload X7.here hx rfl (hb hby at_77) rfl ?_
    show Steps p.tables e below (T7.setTop (mkF m 79 (own_L p1 q2 q3 q4 q5 p6 (2 : Int32) (1 : Int32) v0 v1 v2 v3 w0 w1 w2 w3 [.val (.ref b7), .unset, .unset, .unset, .unset, .unset]) [(.int (2 : Int32))])) _
    refine XS.ifNo X7.here hx rfl (hb hby at_79) rfl ((if0 _ _).trans (tlt (by decide : (0 : Int32) < (2 : Int32))).2.2.2) ?_
    show Steps p.tables e below (T7.setTop (mkF m 82 (own_L p1 q2 q3 q4 q5 p6 (2 : Int32) (1 : Int32) v0 v1 v2 v3 w0 w1 w2 w3 [.val (.ref b7), .unset, .unset, .unset, .unset, .unset]) [])) _
    refine XS.aload X7.here hx rfl (hb hby at_82) rfl rfl ?_
    show Steps p.tables e below (T7.setTop (mkF m 84 (own_L p1 q2 q3 q4 q5 p6 (2 : Int32) (1 : Int32) v0 v1 v2 v3 w0 w1 w2 w3 [.val (.ref b7), .unset, .unset, .unset, .unset, .unset]) [(.ref b7)])) _
    refine XS.iconst X7.here hx rfl (hb hby at_84) ?_
    show Steps p.tables e below (T7.setTop (mkF m 85 (own_L p1 q2 q3 q4 q5 p6 (2 : Int32) (1 : Int32) v0 v1 v2 v3 w0 w1 w2 w3 [.val (.ref b7), .unset, .unset, .unset, .unset, .unset]) [(.int (0 : Int32)), (.ref b7)])) _
    refine XS.iload X7.here hx rfl (hb hby at_85) rfl ?_
    show Steps p.tables e below (T7.setTop (mkF m 87 (own_L p1 q2 q3 q4 q5 p6 (2 : Int32) (1 : Int32) v0 v1 v2 v3 w0 w1 w2 w3 [.val (.ref b7), .unset, .unset, .unset, .unset, .unset]) [(.int v0), (.int (0 : Int32)), (.ref b7)])) _
    refine st8 _ ?_
    show Steps p.tables e below (T8.setTop (mkF m 88 (own_L p1 q2 q3 q4 q5 p6 (2 : Int32) (1 : Int32) v0 v1 v2 v3 w0 w1 w2 w3 [.val (.ref b7), .unset, .unset, .unset, .unset, .unset]) [])) _
    refine XS.iload X8.here hx rfl (hb hby at_88) rfl ?_
    show Steps p.tables e below (T8.setTop (mkF m 90 (own_L p1 q2 q3 q4 q5 p6 (2 : Int32) (1 : Int32) v0 v1 v2 v3 w0 w1 w2 w3 [.val (.ref b7), .unset, .unset, .unset, .unset, .unset]) [(.int (2 : Int32))])) _
    refine XS.iconst X8.here hx rfl (hb hby at_90) ?_
    show Steps p.tables e below (T8.setTop (mkF m 91 (own_L p1 q2 q3 q4 q5 p6 (2 : Int32) (1 : Int32) v0 v1 v2 v3 w0 w1 w2 w3 [.val (.ref b7), .unset, .unset, .unset, .unset, .unset]) [(.int (1 : Int32)), (.int (2 : Int32))])) _
    refine XS.icmpNo X8.here hx rfl (hb hby at_91) rfl (tlt (by decide : (1 : Int32) < (2 : Int32))).2.2.2 ?_
    show Steps p.tables e below (T8.setTop (mkF m 94 (own_L p1 q2 q3 q4 q5 p6 (2 : Int32) (1 : Int32) v0 v1 v2 v3 w0 w1 w2 w3 [.val (.ref b7), .unset, .unset, .unset, .unset, .unset]) [])) _
    refine XS.aload X8.here hx rfl (hb hby at_94) rfl rfl ?_
    show Steps p.tables e below (T8.setTop (mkF m 96 (own_L p1 q2 q3 q4 q5 p6 (2 : Int32) (1 : Int32) v0 v1 v2 v3 w0 w1 w2 w3 [.val (.ref b7), .unset, .unset, .unset, .unset, .unset]) [(.ref b7)])) _
    refine XS.iconst X8.here hx rfl (hb hby at_96) ?_
    show Steps p.tables e below (T8.setTop (mkF m 97 (own_L p1 q2 q3 q4 q5 p6 (2 : Int32) (1 : Int32) v0 v1 v2 v3 w0 w1 w2 w3 [.val (.ref b7), .unset, .unset, .unset, .unset, .unset]) [(.int (1 : Int32)), (.ref b7)])) _
    refine XS.iload X8.here hx rfl (hb hby at_97) rfl ?_
    show Steps p.tables e below (T8.setTop (mkF m 99 (own_L p1 q2 q3 q4 q5 p6 (2 : Int32) (1 : Int32) v0 v1 v2 v3 w0 w1 w2 w3 [.val (.ref b7), .unset, .unset, .unset, .unset, .unset]) [(.int v1), (.int (1 : Int32)), (.ref b7)])) _
    refine st9 _ ?_
    show Steps p.tables e below (T9.setTop (mkF m 100 (own_L p1 q2 q3 q4 q5 p6 (2 : Int32) (1 : Int32) v0 v1 v2 v3 w0 w1 w2 w3 [.val (.ref b7), .unset, .unset, .unset, .unset, .unset]) [])) _
    refine XS.iload X9.here hx rfl (hb hby at_100) rfl ?_
    show Steps p.tables e below (T9.setTop (mkF m 102 (own_L p1 q2 q3 q4 q5 p6 (2 : Int32) (1 : Int32) v0 v1 v2 v3 w0 w1 w2 w3 [.val (.ref b7), .unset, .unset, .unset, .unset, .unset]) [(.int (2 : Int32))])) _
    refine XS.iconst X9.here hx rfl (hb hby at_102) ?_
    show Steps p.tables e below (T9.setTop (mkF m 103 (own_L p1 q2 q3 q4 q5 p6 (2 : Int32) (1 : Int32) v0 v1 v2 v3 w0 w1 w2 w3 [.val (.ref b7), .unset, .unset, .unset, .unset, .unset]) [(.int (2 : Int32)), (.int (2 : Int32))])) _
    refine XS.icmpYes X9.here hx rfl (pc0 := 103) (pc' := 112) rfl (hb hby at_103) rfl (flt (by decide : ¬ ((2 : Int32) < (2 : Int32)))).2.2.2 (by decide) (by decide) ?_
    show Steps p.tables e below (T9.setTop (mkF m 112 (own_L p1 q2 q3 q4 q5 p6 (2 : Int32) (1 : Int32) v0 v1 v2 v3 w0 w1 w2 w3 [.val (.ref b7), .unset, .unset, .unset, .unset, .unset]) [])) _
    refine XS.iload X9.here hx rfl (hb hby at_112) rfl ?_
    show Steps p.tables e below (T9.setTop (mkF m 114 (own_L p1 q2 q3 q4 q5 p6 (2 : Int32) (1 : Int32) v0 v1 v2 v3 w0 w1 w2 w3 [.val (.ref b7), .unset, .unset, .unset, .unset, .unset]) [(.int (2 : Int32))])) _
    refine XS.iconst X9.here hx rfl (hb hby at_114) ?_
    show Steps p.tables e below (T9.setTop (mkF m 115 (own_L p1 q2 q3 q4 q5 p6 (2 : Int32) (1 : Int32) v0 v1 v2 v3 w0 w1 w2 w3 [.val (.ref b7), .unset, .unset, .unset, .unset, .unset]) [(.int (3 : Int32)), (.int (2 : Int32))])) _
    refine XS.icmpYes X9.here hx rfl (pc0 := 115) (pc' := 124) rfl (hb hby at_115) rfl (flt (by decide : ¬ ((3 : Int32) < (2 : Int32)))).2.2.2 (by decide) (by decide) ?_
    show Steps p.tables e below (T9.setTop (mkF m 124 (own_L p1 q2 q3 q4 q5 p6 (2 : Int32) (1 : Int32) v0 v1 v2 v3 w0 w1 w2 w3 [.val (.ref b7), .unset, .unset, .unset, .unset, .unset]) [])) _
    refine jmp_124 _ ?_
    show Steps p.tables e below (T9.setTop (mkF m 131 (own_L p1 q2 q3 q4 q5 p6 (2 : Int32) (1 : Int32) v0 v1 v2 v3 w0 w1 w2 w3 [.val (.ref b7), .val (.int (3 : Int32)), .unset, .unset, .unset, .unset]) [])) _
    refine XS.iload X9.here hx rfl (hb hby at_131) rfl ?_
    show Steps p.tables e below (T9.setTop (mkF m 133 (own_L p1 q2 q3 q4 q5 p6 (2 : Int32) (1 : Int32) v0 v1 v2 v3 w0 w1 w2 w3 [.val (.ref b7), .val (.int (3 : Int32)), .unset, .unset, .unset, .unset]) [(.int (3 : Int32))])) _
    refine st10 _ ?_
    show Steps p.tables e below (T10.setTop (mkF m 135 (own_L p1 q2 q3 q4 q5 p6 (2 : Int32) (1 : Int32) v0 v1 v2 v3 w0 w1 w2 w3 [.val (.ref b7), .val (.int (3 : Int32)), .unset, .unset, .unset, .unset]) [(.ref b10)])) _
    refine XS.astore X10.here hx rfl (hb hby at_135) rfl rfl (l' := (own_L p1 q2 q3 q4 q5 p6 (2 : Int32) (1 : Int32) v0 v1 v2 v3 w0 w1 w2 w3 [.val (.ref b7), .val (.int (3 : Int32)), .val (.ref b10), .unset, .unset, .unset])) rfl ?_
    show Steps p.tables e below (T10.setTop (mkF m 137 (own_L p1 q2 q3 q4 q5 p6 (2 : Int32) (1 : Int32) v0 v1 v2 v3 w0 w1 w2 w3 [.val (.ref b7), .val (.int (3 : Int32)), .val (.ref b10), .unset, .unset, .unset]) [])) _
    refine XS.iload X10.here hx rfl (hb hby at_137) rfl ?_
    show Steps p.tables e below (T10.setTop (mkF m 139 (own_L p1 q2 q3 q4 q5 p6 (2 : Int32) (1 : Int32) v0 v1 v2 v3 w0 w1 w2 w3 [.val (.ref b7), .val (.int (3 : Int32)), .val (.ref b10), .unset, .unset, .unset]) [(.int (3 : Int32))])) _
    refine XS.ifNo X10.here hx rfl (hb hby at_139) rfl ((if0 _ _).trans (tlt (by decide : (0 : Int32) < (3 : Int32))).2.2.2) ?_
    show Steps p.tables e below (T10.setTop (mkF m 142 (own_L p1 q2 q3 q4 q5 p6 (2 : Int32) (1 : Int32) v0 v1 v2 v3 w0 w1 w2 w3 [.val (.ref b7), .val (.int (3 : Int32)), .val (.ref b10), .unset, .unset, .unset]) [])) _
    refine XS.aload X10.here hx rfl (hb hby at_142) rfl rfl ?_
    show Steps p.tables e below (T10.setTop (mkF m 144 (own_L p1 q2 q3 q4 q5 p6 (2 : Int32) (1 : Int32) v0 v1 v2 v3 w0 w1 w2 w3 [.val (.ref b7), .val (.int (3 : Int32)), .val (.ref b10), .unset, .unset, .unset]) [(.ref b10)])) _
    refine XS.iconst X10.here hx rfl (hb hby at_144) ?_
    show Steps p.tables e below (T10.setTop (mkF m 145 (own_L p1 q2 q3 q4 q5 p6 (2 : Int32) (1 : Int32) v0 v1 v2 v3 w0 w1 w2 w3 [.val (.ref b7), .val (.int (3 : Int32)), .val (.ref b10), .unset, .unset, .unset]) [(.int (0 : Int32)), (.ref b10)])) _
    refine XS.iload X10.here hx rfl (hb hby at_145) rfl ?_
    show Steps p.tables e below (T10.setTop (mkF m 147 (own_L p1 q2 q3 q4 q5 p6 (2 : Int32) (1 : Int32) v0 v1 v2 v3 w0 w1 w2 w3 [.val (.ref b7), .val (.int (3 : Int32)), .val (.ref b10), .unset, .unset, .unset]) [(.int w0), (.int (0 : Int32)), (.ref b10)])) _
    refine st11 _ ?_
    show Steps p.tables e below (T11.setTop (mkF m 148 (own_L p1 q2 q3 q4 q5 p6 (2 : Int32) (1 : Int32) v0 v1 v2 v3 w0 w1 w2 w3 [.val (.ref b7), .val (.int (3 : Int32)), .val (.ref b10), .unset, .unset, .unset]) [])) _
    refine XS.iload X11.here hx rfl (hb hby at_148) rfl ?_
    show Steps p.tables e below (T11.setTop (mkF m 150 (own_L p1 q2 q3 q4 q5 p6 (2 : Int32) (1 : Int32) v0 v1 v2 v3 w0 w1 w2 w3 [.val (.ref b7), .val (.int (3 : Int32)), .val (.ref b10), .unset, .unset, .unset]) [(.int (3 : Int32))])) _
    refine XS.iconst X11.here hx rfl (hb hby at_150) ?_
    show Steps p.tables e below (T11.setTop (mkF m 151 (own_L p1 q2 q3 q4 q5 p6 (2 : Int32) (1 : Int32) v0 v1 v2 v3 w0 w1 w2 w3 [.val (.ref b7), .val (.int (3 : Int32)), .val (.ref b10), .unset, .unset, .unset]) [(.int (1 : Int32)), (.int (3 : Int32))])) _
    refine XS.icmpNo X11.here hx rfl (hb hby at_151) rfl (tlt (by decide : (1 : Int32) < (3 : Int32))).2.2.2 ?_
    show Steps p.tables e below (T11.setTop (mkF m 154 (own_L p1 q2 q3 q4 q5 p6 (2 : Int32) (1 : Int32) v0 v1 v2 v3 w0 w1 w2 w3 [.val (.ref b7), .val (.int (3 : Int32)), .val (.ref b10), .unset, .unset, .unset]) [])) _
    refine XS.aload X11.here hx rfl (hb hby at_154) rfl rfl ?_
    show Steps p.tables e below (T11.setTop (mkF m 156 (own_L p1 q2 q3 q4 q5 p6 (2 : Int32) (1 : Int32) v0 v1 v2 v3 w0 w1 w2 w3 [.val (.ref b7), .val (.int (3 : Int32)), .val (.ref b10), .unset, .unset, .unset]) [(.ref b10)])) _
    refine XS.iconst X11.here hx rfl (hb hby at_156) ?_
    show Steps p.tables e below (T11.setTop (mkF m 157 (own_L p1 q2 q3 q4 q5 p6 (2 : Int32) (1 : Int32) v0 v1 v2 v3 w0 w1 w2 w3 [.val (.ref b7), .val (.int (3 : Int32)), .val (.ref b10), .unset, .unset, .unset]) [(.int (1 : Int32)), (.ref b10)])) _
    refine XS.iload X11.here hx rfl (hb hby at_157) rfl ?_
    show Steps p.tables e below (T11.setTop (mkF m 159 (own_L p1 q2 q3 q4 q5 p6 (2 : Int32) (1 : Int32) v0 v1 v2 v3 w0 w1 w2 w3 [.val (.ref b7), .val (.int (3 : Int32)), .val (.ref b10), .unset, .unset, .unset]) [(.int w1), (.int (1 : Int32)), (.ref b10)])) _
    refine st12 _ ?_
    show Steps p.tables e below (T12.setTop (mkF m 160 (own_L p1 q2 q3 q4 q5 p6 (2 : Int32) (1 : Int32) v0 v1 v2 v3 w0 w1 w2 w3 [.val (.ref b7), .val (.int (3 : Int32)), .val (.ref b10), .unset, .unset, .unset]) [])) _
    refine XS.iload X12.here hx rfl (hb hby at_160) rfl ?_
    show Steps p.tables e below (T12.setTop (mkF m 162 (own_L p1 q2 q3 q4 q5 p6 (2 : Int32) (1 : Int32) v0 v1 v2 v3 w0 w1 w2 w3 [.val (.ref b7), .val (.int (3 : Int32)), .val (.ref b10), .unset, .unset, .unset]) [(.int (3 : Int32))])) _
    refine XS.iconst X12.here hx rfl (hb hby at_162) ?_
    show Steps p.tables e below (T12.setTop (mkF m 163 (own_L p1 q2 q3 q4 q5 p6 (2 : Int32) (1 : Int32) v0 v1 v2 v3 w0 w1 w2 w3 [.val (.ref b7), .val (.int (3 : Int32)), .val (.ref b10), .unset, .unset, .unset]) [(.int (2 : Int32)), (.int (3 : Int32))])) _
    refine XS.icmpNo X12.here hx rfl (hb hby at_163) rfl (tlt (by decide : (2 : Int32) < (3 : Int32))).2.2.2 ?_
    show Steps p.tables e below (T12.setTop (mkF m 166 (own_L p1 q2 q3 q4 q5 p6 (2 : Int32) (1 : Int32) v0 v1 v2 v3 w0 w1 w2 w3 [.val (.ref b7), .val (.int (3 : Int32)), .val (.ref b10), .unset, .unset, .unset]) [])) _
    refine XS.aload X12.here hx rfl (hb hby at_166) rfl rfl ?_
    show Steps p.tables e below (T12.setTop (mkF m 168 (own_L p1 q2 q3 q4 q5 p6 (2 : Int32) (1 : Int32) v0 v1 v2 v3 w0 w1 w2 w3 [.val (.ref b7), .val (.int (3 : Int32)), .val (.ref b10), .unset, .unset, .unset]) [(.ref b10)])) _
    refine XS.iconst X12.here hx rfl (hb hby at_168) ?_
    show Steps p.tables e below (T12.setTop (mkF m 169 (own_L p1 q2 q3 q4 q5 p6 (2 : Int32) (1 : Int32) v0 v1 v2 v3 w0 w1 w2 w3 [.val (.ref b7), .val (.int (3 : Int32)), .val (.ref b10), .unset, .unset, .unset]) [(.int (2 : Int32)), (.ref b10)])) _
    refine XS.iload X12.here hx rfl (hb hby at_169) rfl ?_
    show Steps p.tables e below (T12.setTop (mkF m 171 (own_L p1 q2 q3 q4 q5 p6 (2 : Int32) (1 : Int32) v0 v1 v2 v3 w0 w1 w2 w3 [.val (.ref b7), .val (.int (3 : Int32)), .val (.ref b10), .unset, .unset, .unset]) [(.int w2), (.int (2 : Int32)), (.ref b10)])) _
    refine st13 _ ?_
    show Steps p.tables e below (T13.setTop (mkF m 172 (own_L p1 q2 q3 q4 q5 p6 (2 : Int32) (1 : Int32) v0 v1 v2 v3 w0 w1 w2 w3 [.val (.ref b7), .val (.int (3 : Int32)), .val (.ref b10), .unset, .unset, .unset]) [])) _
    refine XS.iload X13.here hx rfl (hb hby at_172) rfl ?_
    show Steps p.tables e below (T13.setTop (mkF m 174 (own_L p1 q2 q3 q4 q5 p6 (2 : Int32) (1 : Int32) v0 v1 v2 v3 w0 w1 w2 w3 [.val (.ref b7), .val (.int (3 : Int32)), .val (.ref b10), .unset, .unset, .unset]) [(.int (3 : Int32))])) _
    refine XS.iconst X13.here hx rfl (hb hby at_174) ?_
    show Steps p.tables e below (T13.setTop (mkF m 175 (own_L p1 q2 q3 q4 q5 p6 (2 : Int32) (1 : Int32) v0 v1 v2 v3 w0 w1 w2 w3 [.val (.ref b7), .val (.int (3 : Int32)), .val (.ref b10), .unset, .unset, .unset]) [(.int (3 : Int32)), (.int (3 : Int32))])) _
    refine XS.icmpYes X13.here hx rfl (pc0 := 175) (pc' := 184) rfl (hb hby at_175) rfl (flt (by decide : ¬ ((3 : Int32) < (3 : Int32)))).2.2.2 (by decide) (by decide) ?_
    show Steps p.tables e below (T13.setTop (mkF m 184 (own_L p1 q2 q3 q4 q5 p6 (2 : Int32) (1 : Int32) v0 v1 v2 v3 w0 w1 w2 w3 [.val (.ref b7), .val (.int (3 : Int32)), .val (.ref b10), .unset, .unset, .unset]) [])) _
    refine XS.iload X13.here hx rfl (hb hby at_184) rfl ?_
    show Steps p.tables e below (T13.setTop (mkF m 186 (own_L p1 q2 q3 q4 q5 p6 (2 : Int32) (1 : Int32) v0 v1 v2 v3 w0 w1 w2 w3 [.val (.ref b7), .val (.int (3 : Int32)), .val (.ref b10), .unset, .unset, .unset]) [(.int (3 : Int32))])) _
    refine XS.iconst X13.here hx rfl (hb hby at_186) ?_
    show Steps p.tables e below (T13.setTop (mkF m 187 (own_L p1 q2 q3 q4 q5 p6 (2 : Int32) (1 : Int32) v0 v1 v2 v3 w0 w1 w2 w3 [.val (.ref b7), .val (.int (3 : Int32)), .val (.ref b10), .unset, .unset, .unset]) [(.int (4 : Int32)), (.int (3 : Int32))])) _
    refine XS.icmpYes X13.here hx rfl (pc0 := 187) (pc' := 196) rfl (hb hby at_187) rfl (flt (by decide : ¬ ((4 : Int32) < (3 : Int32)))).2.2.2 (by decide) (by decide) ?_
    show Steps p.tables e below (T13.setTop (mkF m 196 (own_L p1 q2 q3 q4 q5 p6 (2 : Int32) (1 : Int32) v0 v1 v2 v3 w0 w1 w2 w3 [.val (.ref b7), .val (.int (3 : Int32)), .val (.ref b10), .unset, .unset, .unset]) [])) _
    refine st14 _ ?_
    show Steps p.tables e below (T14.setTop (mkF m 199 (own_L p1 q2 q3 q4 q5 p6 (2 : Int32) (1 : Int32) v0 v1 v2 v3 w0 w1 w2 w3 [.val (.ref b7), .val (.int (3 : Int32)), .val (.ref b10), .unset, .unset, .unset]) [(.ref b14)])) _
    refine XS.dup X14.here hx rfl (hb hby at_199) rfl rfl ?_
    show Steps p.tables e below (T14.setTop (mkF m 200 (own_L p1 q2 q3 q4 q5 p6 (2 : Int32) (1 : Int32) v0 v1 v2 v3 w0 w1 w2 w3 [.val (.ref b7), .val (.int (3 : Int32)), .val (.ref b10), .unset, .unset, .unset]) [(.ref b14), (.ref b14)])) _
    refine XS.aload X14.here hx rfl (hb hby at_200) rfl rfl ?_
    show Steps p.tables e below (T14.setTop (mkF m 202 (own_L p1 q2 q3 q4 q5 p6 (2 : Int32) (1 : Int32) v0 v1 v2 v3 w0 w1 w2 w3 [.val (.ref b7), .val (.int (3 : Int32)), .val (.ref b10), .unset, .unset, .unset]) [(.ref b7), (.ref b14), (.ref b14)])) _
    refine st15.trans ?_
    show Steps p.tables e below (T15.setTop (mkF m 205 (own_L p1 q2 q3 q4 q5 p6 (2 : Int32) (1 : Int32) v0 v1 v2 v3 w0 w1 w2 w3 [.val (.ref b7), .val (.int (3 : Int32)), .val (.ref b10), .unset, .unset, .unset]) [(.ref b14)])) _
    refine XS.astore X15.here hx rfl (hb hby at_205) rfl rfl (l' := (own_L p1 q2 q3 q4 q5 p6 (2 : Int32) (1 : Int32) v0 v1 v2 v3 w0 w1 w2 w3 [.val (.ref b7), .val (.int (3 : Int32)), .val (.ref b10), .val (.ref b14), .unset, .unset])) rfl ?_
    show Steps p.tables e below (T15.setTop (mkF m 207 (own_L p1 q2 q3 q4 q5 p6 (2 : Int32) (1 : Int32) v0 v1 v2 v3 w0 w1 w2 w3 [.val (.ref b7), .val (.int (3 : Int32)), .val (.ref b10), .val (.ref b14), .unset, .unset]) [])) _
    refine XS.aload X15.here hx rfl (hb hby at_207) rfl rfl ?_
    show Steps p.tables e below (T15.setTop (mkF m 209 (own_L p1 q2 q3 q4 q5 p6 (2 : Int32) (1 : Int32) v0 v1 v2 v3 w0 w1 w2 w3 [.val (.ref b7), .val (.int (3 : Int32)), .val (.ref b10), .val (.ref b14), .unset, .unset]) [(.ref b14)])) _
    refine XS.aload X15.here hx rfl (hb hby at_209) rfl rfl ?_
    show Steps p.tables e below (T15.setTop (mkF m 211 (own_L p1 q2 q3 q4 q5 p6 (2 : Int32) (1 : Int32) v0 v1 v2 v3 w0 w1 w2 w3 [.val (.ref b7), .val (.int (3 : Int32)), .val (.ref b10), .val (.ref b14), .unset, .unset]) [(.ref b10), (.ref b14)])) _
    refine st16.trans ?_
    show Steps p.tables e below (T16.setTop (mkF m 214 (own_L p1 q2 q3 q4 q5 p6 (2 : Int32) (1 : Int32) v0 v1 v2 v3 w0 w1 w2 w3 [.val (.ref b7), .val (.int (3 : Int32)), .val (.ref b10), .val (.ref b14), .unset, .unset]) [(.int (own_acc (fun j => [v0, v1, v2, v3].getD j 0) (fun j => [w0, w1, w2, w3].getD j 0) 2 0 0))])) _
    refine XS.istore X16.here hx rfl (hb hby at_214) rfl (l' := (own_L p1 q2 q3 q4 q5 p6 (2 : Int32) (1 : Int32) v0 v1 v2 v3 w0 w1 w2 w3 [.val (.ref b7), .val (.int (3 : Int32)), .val (.ref b10), .val (.ref b14), .val (.int (own_acc (fun j => [v0, v1, v2, v3].getD j 0) (fun j => [w0, w1, w2, w3].getD j 0) 2 0 0)), .unset])) rfl ?_
    show Steps p.tables e below (T16.setTop (mkF m 216 (own_L p1 q2 q3 q4 q5 p6 (2 : Int32) (1 : Int32) v0 v1 v2 v3 w0 w1 w2 w3 [.val (.ref b7), .val (.int (3 : Int32)), .val (.ref b10), .val (.ref b14), .val (.int (own_acc (fun j => [v0, v1, v2, v3].getD j 0) (fun j => [w0, w1, w2, w3].getD j 0) 2 0 0)), .unset]) [])) _
    refine XS.iconst X16.here hx rfl (hb hby at_216) ?_
    show Steps p.tables e below (T16.setTop (mkF m 217 (own_L p1 q2 q3 q4 q5 p6 (2 : Int32) (1 : Int32) v0 v1 v2 v3 w0 w1 w2 w3 [.val (.ref b7), .val (.int (3 : Int32)), .val (.ref b10), .val (.ref b14), .val (.int (own_acc (fun j => [v0, v1, v2, v3].getD j 0) (fun j => [w0, w1, w2, w3].getD j 0) 2 0 0)), .unset]) [(.int (0 : Int32))])) _
    refine XS.istore X16.here hx rfl (hb hby at_217) rfl (l' := (own_L p1 q2 q3 q4 q5 p6 (2 : Int32) (1 : Int32) v0 v1 v2 v3 w0 w1 w2 w3 [.val (.ref b7), .val (.int (3 : Int32)), .val (.ref b10), .val (.ref b14), .val (.int (own_acc (fun j => [v0, v1, v2, v3].getD j 0) (fun j => [w0, w1, w2, w3].getD j 0) 2 0 0)), .val (.int (0 : Int32))])) rfl ?_
    show Steps p.tables e below (T16.setTop (mkF m 219 (own_L p1 q2 q3 q4 q5 p6 (2 : Int32) (1 : Int32) v0 v1 v2 v3 w0 w1 w2 w3 [.val (.ref b7), .val (.int (3 : Int32)), .val (.ref b10), .val (.ref b14), .val (.int (own_acc (fun j => [v0, v1, v2, v3].getD j 0) (fun j => [w0, w1, w2, w3].getD j 0) 2 0 0)), .val (.int (0 : Int32))]) [])) _
    refine XS.iload X16.here hx rfl (hb hby at_219) rfl ?_
    show Steps p.tables e below (T16.setTop (mkF m 221 (own_L p1 q2 q3 q4 q5 p6 (2 : Int32) (1 : Int32) v0 v1 v2 v3 w0 w1 w2 w3 [.val (.ref b7), .val (.int (3 : Int32)), .val (.ref b10), .val (.ref b14), .val (.int (own_acc (fun j => [v0, v1, v2, v3].getD j 0) (fun j => [w0, w1, w2, w3].getD j 0) 2 0 0)), .val (.int (0 : Int32))]) [(.int (2 : Int32))])) _
    refine XS.ifNo X16.here hx rfl (hb hby at_221) rfl ((if0 _ _).trans (tlt (by decide : (0 : Int32) < (2 : Int32))).2.2.2) ?_
    show Steps p.tables e below (T16.setTop (mkF m 224 (own_L p1 q2 q3 q4 q5 p6 (2 : Int32) (1 : Int32) v0 v1 v2 v3 w0 w1 w2 w3 [.val (.ref b7), .val (.int (3 : Int32)), .val (.ref b10), .val (.ref b14), .val (.int (own_acc (fun j => [v0, v1, v2, v3].getD j 0) (fun j => [w0, w1, w2, w3].getD j 0) 2 0 0)), .val (.int (0 : Int32))]) [])) _
    refine XS.iload X16.here hx rfl (hb hby at_224) rfl ?_
    show Steps p.tables e below (T16.setTop (mkF m 226 (own_L p1 q2 q3 q4 q5 p6 (2 : Int32) (1 : Int32) v0 v1 v2 v3 w0 w1 w2 w3 [.val (.ref b7), .val (.int (3 : Int32)), .val (.ref b10), .val (.ref b14), .val (.int (own_acc (fun j => [v0, v1, v2, v3].getD j 0) (fun j => [w0, w1, w2, w3].getD j 0) 2 0 0)), .val (.int (0 : Int32))]) [(.int (0 : Int32))])) _
    refine XS.iload X16.here hx rfl (hb hby at_226) rfl ?_
    show Steps p.tables e below (T16.setTop (mkF m 228 (own_L p1 q2 q3 q4 q5 p6 (2 : Int32) (1 : Int32) v0 v1 v2 v3 w0 w1 w2 w3 [.val (.ref b7), .val (.int (3 : Int32)), .val (.ref b10), .val (.ref b14), .val (.int (own_acc (fun j => [v0, v1, v2, v3].getD j 0) (fun j => [w0, w1, w2, w3].getD j 0) 2 0 0)), .val (.int (0 : Int32))]) [(.int v0), (.int (0 : Int32))])) _
    refine XS.iload X16.here hx rfl (hb hby at_228) rfl ?_
    show Steps p.tables e below (T16.setTop (mkF m 230 (own_L p1 q2 q3 q4 q5 p6 (2 : Int32) (1 : Int32) v0 v1 v2 v3 w0 w1 w2 w3 [.val (.ref b7), .val (.int (3 : Int32)), .val (.ref b10), .val (.ref b14), .val (.int (own_acc (fun j => [v0, v1, v2, v3].getD j 0) (fun j => [w0, w1, w2, w3].getD j 0) 2 0 0)), .val (.int (0 : Int32))]) [(.int w0), (.int v0), (.int (0 : Int32))])) _
    refine XS.imul X16.here hx rfl (hb hby at_230) rfl ?_
    show Steps p.tables e below (T16.setTop (mkF m 231 (own_L p1 q2 q3 q4 q5 p6 (2 : Int32) (1 : Int32) v0 v1 v2 v3 w0 w1 w2 w3 [.val (.ref b7), .val (.int (3 : Int32)), .val (.ref b10), .val (.ref b14), .val (.int (own_acc (fun j => [v0, v1, v2, v3].getD j 0) (fun j => [w0, w1, w2, w3].getD j 0) 2 0 0)), .val (.int (0 : Int32))]) [(.int (v0 * w0)), (.int (0 : Int32))])) _
    refine XS.iadd X16.here hx rfl (hb hby at_231) rfl ?_
    show Steps p.tables e below (T16.setTop (mkF m 232 (own_L p1 q2 q3 q4 q5 p6 (2 : Int32) (1 : Int32) v0 v1 v2 v3 w0 w1 w2 w3 [.val (.ref b7), .val (.int (3 : Int32)), .val (.ref b10), .val (.ref b14), .val (.int (own_acc (fun j => [v0, v1, v2, v3].getD j 0) (fun j => [w0, w1, w2, w3].getD j 0) 2 0 0)), .val (.int (0 : Int32))]) [(.int ((0 : Int32) + (v0 * w0)))])) _
    refine XS.istore X16.here hx rfl (hb hby at_232) rfl (l' := (own_L p1 q2 q3 q4 q5 p6 (2 : Int32) (1 : Int32) v0 v1 v2 v3 w0 w1 w2 w3 [.val (.ref b7), .val (.int (3 : Int32)), .val (.ref b10), .val (.ref b14), .val (.int (own_acc (fun j => [v0, v1, v2, v3].getD j 0) (fun j => [w0, w1, w2, w3].getD j 0) 2 0 0)), .val (.int ((0 : Int32) + (v0 * w0)))])) rfl ?_
    show Steps p.tables e below (T16.setTop (mkF m 234 (own_L p1 q2 q3 q4 q5 p6 (2 : Int32) (1 : Int32) v0 v1 v2 v3 w0 w1 w2 w3 [.val (.ref b7), .val (.int (3 : Int32)), .val (.ref b10), .val (.ref b14), .val (.int (own_acc (fun j => [v0, v1, v2, v3].getD j 0) (fun j => [w0, w1, w2, w3].getD j 0) 2 0 0)), .val (.int ((0 : Int32) + (v0 * w0)))]) [])) _
    refine XS.iload X16.here hx rfl (hb hby at_234) rfl ?_
    show Steps p.tables e below (T16.setTop (mkF m 236 (own_L p1 q2 q3 q4 q5 p6 (2 : Int32) (1 : Int32) v0 v1 v2 v3 w0 w1 w2 w3 [.val (.ref b7), .val (.int (3 : Int32)), .val (.ref b10), .val (.ref b14), .val (.int (own_acc (fun j => [v0, v1, v2, v3].getD j 0) (fun j => [w0, w1, w2, w3].getD j 0) 2 0 0)), .val (.int ((0 : Int32) + (v0 * w0)))]) [(.int (2 : Int32))])) _
    refine XS.iconst X16.here hx rfl (hb hby at_236) ?_
    show Steps p.tables e below (T16.setTop (mkF m 237 (own_L p1 q2 q3 q4 q5 p6 (2 : Int32) (1 : Int32) v0 v1 v2 v3 w0 w1 w2 w3 [.val (.ref b7), .val (.int (3 : Int32)), .val (.ref b10), .val (.ref b14), .val (.int (own_acc (fun j => [v0, v1, v2, v3].getD j 0) (fun j => [w0, w1, w2, w3].getD j 0) 2 0 0)), .val (.int ((0 : Int32) + (v0 * w0)))]) [(.int (1 : Int32)), (.int (2 : Int32))])) _
    refine XS.icmpNo X16.here hx rfl (hb hby at_237) rfl (tlt (by decide : (1 : Int32) < (2 : Int32))).2.2.2 ?_
    show Steps p.tables e below (T16.setTop (mkF m 240 (own_L p1 q2 q3 q4 q5 p6 (2 : Int32) (1 : Int32) v0 v1 v2 v3 w0 w1 w2 w3 [.val (.ref b7), .val (.int (3 : Int32)), .val (.ref b10), .val (.ref b14), .val (.int (own_acc (fun j => [v0, v1, v2, v3].getD j 0) (fun j => [w0, w1, w2, w3].getD j 0) 2 0 0)), .val (.int ((0 : Int32) + (v0 * w0)))]) [])) _
    refine XS.iload X16.here hx rfl (hb hby at_240) rfl ?_
    show Steps p.tables e below (T16.setTop (mkF m 242 (own_L p1 q2 q3 q4 q5 p6 (2 : Int32) (1 : Int32) v0 v1 v2 v3 w0 w1 w2 w3 [.val (.ref b7), .val (.int (3 : Int32)), .val (.ref b10), .val (.ref b14), .val (.int (own_acc (fun j => [v0, v1, v2, v3].getD j 0) (fun j => [w0, w1, w2, w3].getD j 0) 2 0 0)), .val (.int ((0 : Int32) + (v0 * w0)))]) [(.int ((0 : Int32) + (v0 * w0)))])) _
    refine XS.iload X16.here hx rfl (hb hby at_242) rfl ?_
    show Steps p.tables e below (T16.setTop (mkF m 244 (own_L p1 q2 q3 q4 q5 p6 (2 : Int32) (1 : Int32) v0 v1 v2 v3 w0 w1 w2 w3 [.val (.ref b7), .val (.int (3 : Int32)), .val (.ref b10), .val (.ref b14), .val (.int (own_acc (fun j => [v0, v1, v2, v3].getD j 0) (fun j => [w0, w1, w2, w3].getD j 0) 2 0 0)), .val (.int ((0 : Int32) + (v0 * w0)))]) [(.int v1), (.int ((0 : Int32) + (v0 * w0)))])) _
    refine XS.iload X16.here hx rfl (hb hby at_244) rfl ?_
    show Steps p.tables e below (T16.setTop (mkF m 246 (own_L p1 q2 q3 q4 q5 p6 (2 : Int32) (1 : Int32) v0 v1 v2 v3 w0 w1 w2 w3 [.val (.ref b7), .val (.int (3 : Int32)), .val (.ref b10), .val (.ref b14), .val (.int (own_acc (fun j => [v0, v1, v2, v3].getD j 0) (fun j => [w0, w1, w2, w3].getD j 0) 2 0 0)), .val (.int ((0 : Int32) + (v0 * w0)))]) [(.int w1), (.int v1), (.int ((0 : Int32) + (v0 * w0)))])) _
    refine XS.imul X16.here hx rfl (hb hby at_246) rfl ?_
    show Steps p.tables e below (T16.setTop (mkF m 247 (own_L p1 q2 q3 q4 q5 p6 (2 : Int32) (1 : Int32) v0 v1 v2 v3 w0 w1 w2 w3 [.val (.ref b7), .val (.int (3 : Int32)), .val (.ref b10), .val (.ref b14), .val (.int (own_acc (fun j => [v0, v1, v2, v3].getD j 0) (fun j => [w0, w1, w2, w3].getD j 0) 2 0 0)), .val (.int ((0 : Int32) + (v0 * w0)))]) [(.int (v1 * w1)), (.int ((0 : Int32) + (v0 * w0)))])) _
    refine XS.iadd X16.here hx rfl (hb hby at_247) rfl ?_
    show Steps p.tables e below (T16.setTop (mkF m 248 (own_L p1 q2 q3 q4 q5 p6 (2 : Int32) (1 : Int32) v0 v1 v2 v3 w0 w1 w2 w3 [.val (.ref b7), .val (.int (3 : Int32)), .val (.ref b10), .val (.ref b14), .val (.int (own_acc (fun j => [v0, v1, v2, v3].getD j 0) (fun j => [w0, w1, w2, w3].getD j 0) 2 0 0)), .val (.int ((0 : Int32) + (v0 * w0)))]) [(.int (((0 : Int32) + (v0 * w0)) + (v1 * w1)))])) _
    refine XS.istore X16.here hx rfl (hb hby at_248) rfl (l' := (own_L p1 q2 q3 q4 q5 p6 (2 : Int32) (1 : Int32) v0 v1 v2 v3 w0 w1 w2 w3 [.val (.ref b7), .val (.int (3 : Int32)), .val (.ref b10), .val (.ref b14), .val (.int (own_acc (fun j => [v0, v1, v2, v3].getD j 0) (fun j => [w0, w1, w2, w3].getD j 0) 2 0 0)), .val (.int (((0 : Int32) + (v0 * w0)) + (v1 * w1)))])) rfl ?_
    show Steps p.tables e below (T16.setTop (mkF m 250 (own_L p1 q2 q3 q4 q5 p6 (2 : Int32) (1 : Int32) v0 v1 v2 v3 w0 w1 w2 w3 [.val (.ref b7), .val (.int (3 : Int32)), .val (.ref b10), .val (.ref b14), .val (.int (own_acc (fun j => [v0, v1, v2, v3].getD j 0) (fun j => [w0, w1, w2, w3].getD j 0) 2 0 0)), .val (.int (((0 : Int32) + (v0 * w0)) + (v1 * w1)))]) [])) _
    refine XS.iload X16.here hx rfl (hb hby at_250) rfl ?_
    show Steps p.tables e below (T16.setTop (mkF m 252 (own_L p1 q2 q3 q4 q5 p6 (2 : Int32) (1 : Int32) v0 v1 v2 v3 w0 w1 w2 w3 [.val (.ref b7), .val (.int (3 : Int32)), .val (.ref b10), .val (.ref b14), .val (.int (own_acc (fun j => [v0, v1, v2, v3].getD j 0) (fun j => [w0, w1, w2, w3].getD j 0) 2 0 0)), .val (.int (((0 : Int32) + (v0 * w0)) + (v1 * w1)))]) [(.int (2 : Int32))])) _
    refine XS.iconst X16.here hx rfl (hb hby at_252) ?_
    show Steps p.tables e below (T16.setTop (mkF m 253 (own_L p1 q2 q3 q4 q5 p6 (2 : Int32) (1 : Int32) v0 v1 v2 v3 w0 w1 w2 w3 [.val (.ref b7), .val (.int (3 : Int32)), .val (.ref b10), .val (.ref b14), .val (.int (own_acc (fun j => [v0, v1, v2, v3].getD j 0) (fun j => [w0, w1, w2, w3].getD j 0) 2 0 0)), .val (.int (((0 : Int32) + (v0 * w0)) + (v1 * w1)))]) [(.int (2 : Int32)), (.int (2 : Int32))])) _
    refine XS.icmpYes X16.here hx rfl (pc0 := 253) (pc' := 266) rfl (hb hby at_253) rfl (flt (by decide : ¬ ((2 : Int32) < (2 : Int32)))).2.2.2 (by decide) (by decide) ?_
    show Steps p.tables e below (T16.setTop (mkF m 266 (own_L p1 q2 q3 q4 q5 p6 (2 : Int32) (1 : Int32) v0 v1 v2 v3 w0 w1 w2 w3 [.val (.ref b7), .val (.int (3 : Int32)), .val (.ref b10), .val (.ref b14), .val (.int (own_acc (fun j => [v0, v1, v2, v3].getD j 0) (fun j => [w0, w1, w2, w3].getD j 0) 2 0 0)), .val (.int (((0 : Int32) + (v0 * w0)) + (v1 * w1)))]) [])) _
    refine XS.iload X16.here hx rfl (hb hby at_266) rfl ?_
    show Steps p.tables e below (T16.setTop (mkF m 268 (own_L p1 q2 q3 q4 q5 p6 (2 : Int32) (1 : Int32) v0 v1 v2 v3 w0 w1 w2 w3 [.val (.ref b7), .val (.int (3 : Int32)), .val (.ref b10), .val (.ref b14), .val (.int (own_acc (fun j => [v0, v1, v2, v3].getD j 0) (fun j => [w0, w1, w2, w3].getD j 0) 2 0 0)), .val (.int (((0 : Int32) + (v0 * w0)) + (v1 * w1)))]) [(.int (2 : Int32))])) _
    refine XS.iconst X16.here hx rfl (hb hby at_268) ?_
    show Steps p.tables e below (T16.setTop (mkF m 269 (own_L p1 q2 q3 q4 q5 p6 (2 : Int32) (1 : Int32) v0 v1 v2 v3 w0 w1 w2 w3 [.val (.ref b7), .val (.int (3 : Int32)), .val (.ref b10), .val (.ref b14), .val (.int (own_acc (fun j => [v0, v1, v2, v3].getD j 0) (fun j => [w0, w1, w2, w3].getD j 0) 2 0 0)), .val (.int (((0 : Int32) + (v0 * w0)) + (v1 * w1)))]) [(.int (3 : Int32)), (.int (2 : Int32))])) _
    refine XS.icmpYes X16.here hx rfl (pc0 := 269) (pc' := 282) rfl (hb hby at_269) rfl (flt (by decide : ¬ ((3 : Int32) < (2 : Int32)))).2.2.2 (by decide) (by decide) ?_
    show Steps p.tables e below (T16.setTop (mkF m 282 (own_L p1 q2 q3 q4 q5 p6 (2 : Int32) (1 : Int32) v0 v1 v2 v3 w0 w1 w2 w3 [.val (.ref b7), .val (.int (3 : Int32)), .val (.ref b10), .val (.ref b14), .val (.int (own_acc (fun j => [v0, v1, v2, v3].getD j 0) (fun j => [w0, w1, w2, w3].getD j 0) 2 0 0)), .val (.int (((0 : Int32) + (v0 * w0)) + (v1 * w1)))]) [])) _
    refine XS.iload X16.here hx rfl (hb hby at_282) rfl ?_
    show Steps p.tables e below (T16.setTop (mkF m 284 (own_L p1 q2 q3 q4 q5 p6 (2 : Int32) (1 : Int32) v0 v1 v2 v3 w0 w1 w2 w3 [.val (.ref b7), .val (.int (3 : Int32)), .val (.ref b10), .val (.ref b14), .val (.int (own_acc (fun j => [v0, v1, v2, v3].getD j 0) (fun j => [w0, w1, w2, w3].getD j 0) 2 0 0)), .val (.int (((0 : Int32) + (v0 * w0)) + (v1 * w1)))]) [(.int (own_acc (fun j => [v0, v1, v2, v3].getD j 0) (fun j => [w0, w1, w2, w3].getD j 0) 2 0 0))])) _
    refine XS.iload X16.here hx rfl (hb hby at_284) rfl ?_
    show Steps p.tables e below (T16.setTop (mkF m 286 (own_L p1 q2 q3 q4 q5 p6 (2 : Int32) (1 : Int32) v0 v1 v2 v3 w0 w1 w2 w3 [.val (.ref b7), .val (.int (3 : Int32)), .val (.ref b10), .val (.ref b14), .val (.int (own_acc (fun j => [v0, v1, v2, v3].getD j 0) (fun j => [w0, w1, w2, w3].getD j 0) 2 0 0)), .val (.int (((0 : Int32) + (v0 * w0)) + (v1 * w1)))]) [(.int (((0 : Int32) + (v0 * w0)) + (v1 * w1))), (.int (own_acc (fun j => [v0, v1, v2, v3].getD j 0) (fun j => [w0, w1, w2, w3].getD j 0) 2 0 0))])) _
    refine XS.icmpNo X16.here hx rfl (hb hby at_286) rfl (teq (rfl : (own_acc (fun j => [v0, v1, v2, v3].getD j 0) (fun j => [w0, w1, w2, w3].getD j 0) 2 0 0) = (((0 : Int32) + (v0 * w0)) + (v1 * w1)))).2 ?_
    show Steps p.tables e below (T16.setTop (mkF m 289 (own_L p1 q2 q3 q4 q5 p6 (2 : Int32) (1 : Int32) v0 v1 v2 v3 w0 w1 w2 w3 [.val (.ref b7), .val (.int (3 : Int32)), .val (.ref b10), .val (.ref b14), .val (.int (own_acc (fun j => [v0, v1, v2, v3].getD j 0) (fun j => [w0, w1, w2, w3].getD j 0) 2 0 0)), .val (.int (((0 : Int32) + (v0 * w0)) + (v1 * w1)))]) [])) _
    refine XS.iconst X16.here hx rfl (hb hby at_289) ?_
    show Steps p.tables e below (T16.setTop (mkF m 290 (own_L p1 q2 q3 q4 q5 p6 (2 : Int32) (1 : Int32) v0 v1 v2 v3 w0 w1 w2 w3 [.val (.ref b7), .val (.int (3 : Int32)), .val (.ref b10), .val (.ref b14), .val (.int (own_acc (fun j => [v0, v1, v2, v3].getD j 0) (fun j => [w0, w1, w2, w3].getD j 0) 2 0 0)), .val (.int (((0 : Int32) + (v0 * w0)) + (v1 * w1)))]) [(.int (1 : Int32))])) _
    refine XS.goto X16.here hx rfl (pc0 := 290) (pc' := 294) rfl (hb hby at_290) (by decide) (by decide) ?_
    show Steps p.tables e below (T16.setTop (mkF m 294 (own_L p1 q2 q3 q4 q5 p6 (2 : Int32) (1 : Int32) v0 v1 v2 v3 w0 w1 w2 w3 [.val (.ref b7), .val (.int (3 : Int32)), .val (.ref b10), .val (.ref b14), .val (.int (own_acc (fun j => [v0, v1, v2, v3].getD j 0) (fun j => [w0, w1, w2, w3].getD j 0) 2 0 0)), .val (.int (((0 : Int32) + (v0 * w0)) + (v1 * w1)))]) [(.int (1 : Int32))])) _
    exact retN X16 hx (t := .boolean) Bd.returns (by simp) (hb hby at_294) hr
  · show Q0 Z p1 q2 q3 q4 q5 p6 h0 n0 _ T16.heap _
    exact ⟨rfl, N16⟩
set_option maxRecDepth 65536 in
set_option maxHeartbeats 40000000 in
theorem rm0_3_0 (l : Launch) (Z : State) (a0 : Array Value) (hw : ∀ d ∈ tables_1, d.before a0 Z = true) (ws : List Jvm.Cond) (p1 : Int32) (q2 : Int64) (q3 : Int64) (q4 : Int64) (q5 : Int64) (p6 : Int32) (h0 : Heap) (n0 : Nat) (Z0 : n0 ≤ h0.size) (v0 v1 v2 v3 w0 w1 w2 w3 : Int32) (h_v0 : (q2.toInt32) = v0) (h_v1 : (((q2.toUInt64 >>> ((32 : Int32) &&& 0x3f).toInt64.toUInt64).toInt64).toInt32) = v1) (h_v2 : (q3.toInt32) = v2) (h_v3 : (((q3.toUInt64 >>> ((32 : Int32) &&& 0x3f).toInt64.toUInt64).toInt64).toInt32) = v3) (h_w0 : (q4.toInt32) = w0) (h_w1 : (((q4.toUInt64 >>> ((32 : Int32) &&& 0x3f).toInt64.toUInt64).toInt64).toInt32) = w1) (h_w2 : (q5.toInt32) = w2) (h_w3 : (((q5.toUInt64 >>> ((32 : Int32) &&& 0x3f).toInt64.toUInt64).toInt64).toInt32) = w3) (hk : ((p1 &&& (2147483647 : Int32)) % (5 : Int32)) = (3 : Int32)) (hc9 : ¬ (p1 < (0 : Int32))) :
    MetFree l x (head1 (Jvm.Cond.code x code maxLocals ret :: ws) room_1) (fun a U => a = #[(.int p1), (.long q2), (.long q3), (.long q4), (.long q5), (.int p6)] ∧ Z.Warmed39 U.vm ∧ U.heap = h0) (fun _ _ _ _ _ => True) (fun _ U o U' => ∃ v L, o = .returned v ∧ Q0 Z p1 q2 q3 q4 q5 p6 h0 n0 v U'.heap L ∧ FrameEnd U o U' L room_1.cells room_1.slots) := by
  refine MetFree.of_bodySF (plainFor_of_name pn_0) hisR ?_
  intro p e s m args below meth c s₁ Bd hml0 hP hK
  obtain ⟨rfl, hZ, hh⟩ := hP
  have hx := Bd.exec
  have hby := Bd.bytes
  have hml : c.maxLocals = 27 := hml0
  have hown : s.vm.findClass "com/example/stagecraft/stagecraft/examples/GenericDotProductApplyPinLaw" = some m.cls := findClass_of_methodNamed Bd.named
  have hnm := (name_of_methodNamed Bd.named Bd.method).1
  have X0 : Stand p l e room_1 s m #[(.int p1), (.long q2), (.long q3), (.long q4), (.long q5), (.int p6)] below meth c s₁ [] 0 0 := Stand.of_body Bd
  have e0 : s₁.heap = h0 := by rw [← hh, Bd.state]; rfl
  have N0 := Fr.nil n0
  have pre0 : ∀ t, Steps p.tables e below (s₁.setTop (mkF m 0 #[.val (.int p1), .val (.long q2), .second, .val (.long q3), .second, .val (.long q4), .second, .val (.long q5), .second, .val (.int p6), .unset, .unset, .unset, .unset, .unset, .unset, .unset, .unset, .unset, .unset, .unset, .unset, .unset, .unset, .unset, .unset, .unset] [])) t → Steps p.tables e below (s₁.setTop (entryFrame m #[(.int p1), (.long q2), (.long q3), (.long q4), (.long q5), (.int p6)] maxLocals)) t := fun t k => castTop (ef_0 m p1 q2 q3 q4 q5 p6) k
  -- 3. LAWS
  have jmp_0 : ∀ target, Steps p.tables e below (s₁.setTop (mkF m 71 (own_L p1 q2 q3 q4 q5 p6 (3 : Int32) (0 : Int32) v0 v1 v2 v3 w0 w1 w2 w3 [.unset, .unset, .unset, .unset, .unset, .unset]) [])) target → Steps p.tables e below (s₁.setTop (mkF m 0 #[.val (.int p1), .val (.long q2), .second, .val (.long q3), .second, .val (.long q4), .second, .val (.long q5), .second, .val (.int p6), .unset, .unset, .unset, .unset, .unset, .unset, .unset, .unset, .unset, .unset, .unset, .unset, .unset, .unset, .unset, .unset, .unset] [])) target := fun target kt => own_j0 p1 q2 q3 q4 q5 p6 X0 hx hZ hw hby hown hc9 target (castTop (by rw [hk, h_v0, h_v1, h_v2, h_v3, h_w0, h_w1, h_w2, h_w3]) kt)
  obtain ⟨T7, h7, k7, X7, e7, E7, A7, I7, st7⟩ := newPE X0 hx hZ (hw _ (List.mem_of_getElem? (i := 1) rfl)) e0 (g := (mkF m 73 (own_L p1 q2 q3 q4 q5 p6 (3 : Int32) (0 : Int32) v0 v1 v2 v3 w0 w1 w2 w3 [.unset, .unset, .unset, .unset, .unset, .unset]) [(.int (3 : Int32))])) rfl (hb hby at_73) rfl (by decide) (cap := 3) (by decide) (by decide) (by decide) (by decide) (ad := "[I") rfl
  obtain ⟨b7, g7⟩ : ∃ z, z = h0.size := ⟨_, rfl⟩      -- the fresh array's address
  have Z7 : n0 ≤ h7.size := Nat.le_trans Z0 E7.1
  rw [← g7] at A7 I7 st7
  have V_b7 : Arv Z h7 b7 k7 .int (3 : Int32) [(.int (0 : Int32)), (.int (0 : Int32)), (.int (0 : Int32))] (.int (0 : Int32)) := (Arv.new A7 (by decide)).pad (pad_rep [] (.int (0 : Int32)) 3)
  have g_b7 : n0 ≤ b7 := Nat.le_trans Z0 (Nat.le_of_eq g7.symm)
  have sz_b7 : h0.size ≤ b7 := (Nat.le_trans (Keep.refl h0 []).1 (Nat.le_of_eq g7.symm))
  have K7 : Keep h0 h7 [] := (Keep.refl h0 []).ext E7
  obtain ⟨cl_b7_87, Ar_b7, q_b7, S_b7, N_b7, H_b7, G_b7⟩ := V_b7      -- open the array's fact as it stands now (its cell, kind, length, elements)
  have hin87 : ¬ ((0 : Int32) < 0 ∨ cl_b7_87.slots.size ≤ ((0 : Int32)).toNatClampNeg) := inb_of S_b7 ⟨by decide, by decide⟩
  obtain ⟨T8, h8, X8, e8, W8, st8⟩ := stI X7 hx hZ e7 Ar_b7 (j := (0 : Int32)) hin87 (g := (mkF m 87 (own_L p1 q2 q3 q4 q5 p6 (3 : Int32) (0 : Int32) v0 v1 v2 v3 w0 w1 w2 w3 [.val (.ref b7), .unset, .unset, .unset, .unset, .unset]) [(.int v0), (.int (0 : Int32)), (.ref b7)])) rfl rfl (hb hby at_87)
  have Z8 : n0 ≤ h8.size := Nat.le_trans Z7 (Keep.of_wr W8).1
  have V_b7_8 := Arv.set Ar_b7 q_b7 S_b7 N_b7 H_b7 G_b7 rfl W8 0 rfl (Nat.le_of_ble_eq_true rfl)      -- the array as it stands now (the place must lie among its first values: Arv.pad with pad_rep lengthens them)
  have K8 : Keep h0 h8 [] := K7.wr W8 (Or.inr sz_b7)
  have N8 := Fr.snoc X8 N0 g_b7
  obtain ⟨cl_b7_99, Ar_b7, q_b7, S_b7, N_b7, H_b7, G_b7⟩ := V_b7_8      -- open the array's fact as it stands now (its cell, kind, length, elements)
  have hin99 : ¬ ((1 : Int32) < 0 ∨ cl_b7_99.slots.size ≤ ((1 : Int32)).toNatClampNeg) := inb_of S_b7 ⟨by decide, by decide⟩
  obtain ⟨T9, h9, X9, e9, W9, st9⟩ := stI X8 hx hZ e8 Ar_b7 (j := (1 : Int32)) hin99 (g := (mkF m 99 (own_L p1 q2 q3 q4 q5 p6 (3 : Int32) (0 : Int32) v0 v1 v2 v3 w0 w1 w2 w3 [.val (.ref b7), .unset, .unset, .unset, .unset, .unset]) [(.int v1), (.int (1 : Int32)), (.ref b7)])) rfl rfl (hb hby at_99)
  have Z9 : n0 ≤ h9.size := Nat.le_trans Z8 (Keep.of_wr W9).1
  have V_b7_9 := Arv.set Ar_b7 q_b7 S_b7 N_b7 H_b7 G_b7 rfl W9 1 rfl (Nat.le_of_ble_eq_true rfl)      -- the array as it stands now (the place must lie among its first values: Arv.pad with pad_rep lengthens them)
  have K9 : Keep h0 h9 [] := K8.wr W9 (Or.inr sz_b7)
  have N9 := Fr.snoc X9 N8 g_b7
  obtain ⟨cl_b7_111, Ar_b7, q_b7, S_b7, N_b7, H_b7, G_b7⟩ := V_b7_9      -- open the array's fact as it stands now (its cell, kind, length, elements)
  have hin111 : ¬ ((2 : Int32) < 0 ∨ cl_b7_111.slots.size ≤ ((2 : Int32)).toNatClampNeg) := inb_of S_b7 ⟨by decide, by decide⟩
  obtain ⟨T10, h10, X10, e10, W10, st10⟩ := stI X9 hx hZ e9 Ar_b7 (j := (2 : Int32)) hin111 (g := (mkF m 111 (own_L p1 q2 q3 q4 q5 p6 (3 : Int32) (0 : Int32) v0 v1 v2 v3 w0 w1 w2 w3 [.val (.ref b7), .unset, .unset, .unset, .unset, .unset]) [(.int v2), (.int (2 : Int32)), (.ref b7)])) rfl rfl (hb hby at_111)
  have Z10 : n0 ≤ h10.size := Nat.le_trans Z9 (Keep.of_wr W10).1
  have V_b7_10 := Arv.set Ar_b7 q_b7 S_b7 N_b7 H_b7 G_b7 rfl W10 2 rfl (Nat.le_of_ble_eq_true rfl)      -- the array as it stands now (the place must lie among its first values: Arv.pad with pad_rep lengthens them)
  have K10 : Keep h0 h10 [] := K9.wr W10 (Or.inr sz_b7)
  have N10 := Fr.snoc X10 N9 g_b7
  have jmp_124 : ∀ target, Steps p.tables e below (T10.setTop (mkF m 131 (own_L p1 q2 q3 q4 q5 p6 (3 : Int32) (0 : Int32) v0 v1 v2 v3 w0 w1 w2 w3 [.val (.ref b7), .val (.int (3 : Int32)), .unset, .unset, .unset, .unset]) [])) target → Steps p.tables e below (T10.setTop (mkF m 124 (own_L p1 q2 q3 q4 q5 p6 (3 : Int32) (0 : Int32) v0 v1 v2 v3 w0 w1 w2 w3 [.val (.ref b7), .unset, .unset, .unset, .unset, .unset]) [])) target := by
    intro target kt
    · have hm : (3 : Int32) + (0 : Int32) = (3 : Int32) := by decide
      show Steps p.tables e below (T10.setTop (mkF m 124 (own_L p1 q2 q3 q4 q5 p6 (3 : Int32) (0 : Int32) v0 v1 v2 v3 w0 w1 w2 w3 [.val (.ref b7), .unset, .unset, .unset, .unset, .unset]) [])) _
      refine XS.iload X10.here hx rfl (hb hby at_124) rfl ?_
      show Steps p.tables e below (T10.setTop (mkF m 126 (own_L p1 q2 q3 q4 q5 p6 (3 : Int32) (0 : Int32) v0 v1 v2 v3 w0 w1 w2 w3 [.val (.ref b7), .unset, .unset, .unset, .unset, .unset]) [(.int (3 : Int32))])) _
      refine XS.iload X10.here hx rfl (hb hby at_126) rfl ?_
      show Steps p.tables e below (T10.setTop (mkF m 128 (own_L p1 q2 q3 q4 q5 p6 (3 : Int32) (0 : Int32) v0 v1 v2 v3 w0 w1 w2 w3 [.val (.ref b7), .unset, .unset, .unset, .unset, .unset]) [(.int (0 : Int32)), (.int (3 : Int32))])) _
      refine XS.iadd X10.here hx rfl (hb hby at_128) rfl ?_
      show Steps p.tables e below (T10.setTop (mkF m 129 (own_L p1 q2 q3 q4 q5 p6 (3 : Int32) (0 : Int32) v0 v1 v2 v3 w0 w1 w2 w3 [.val (.ref b7), .unset, .unset, .unset, .unset, .unset]) [(.int ((3 : Int32) + (0 : Int32)))])) _
      refine XS.istore X10.here hx rfl (hb hby at_129) rfl (l' := (own_L p1 q2 q3 q4 q5 p6 (3 : Int32) (0 : Int32) v0 v1 v2 v3 w0 w1 w2 w3 [.val (.ref b7), .val (.int ((3 : Int32) + (0 : Int32))), .unset, .unset, .unset, .unset])) rfl ?_
      exact castTop (by rw [hm]) kt
  obtain ⟨T11, h11, k11, X11, e11, E11, A11, I11, st11⟩ := newPE X10 hx hZ (hw _ (List.mem_of_getElem? (i := 1) rfl)) e10 (g := (mkF m 133 (own_L p1 q2 q3 q4 q5 p6 (3 : Int32) (0 : Int32) v0 v1 v2 v3 w0 w1 w2 w3 [.val (.ref b7), .val (.int (3 : Int32)), .unset, .unset, .unset, .unset]) [(.int (3 : Int32))])) rfl (hb hby at_133) rfl (by decide) (cap := 3) (by decide) (by decide) (by decide) (by decide) (ad := "[I") rfl
  obtain ⟨b11, g11⟩ : ∃ z, z = h10.size := ⟨_, rfl⟩      -- the fresh array's address
  have Z11 : n0 ≤ h11.size := Nat.le_trans Z10 E11.1
  rw [← g11] at A11 I11 st11
  have V_b11 : Arv Z h11 b11 k11 .int (3 : Int32) [(.int (0 : Int32)), (.int (0 : Int32)), (.int (0 : Int32))] (.int (0 : Int32)) := (Arv.new A11 (by decide)).pad (pad_rep [] (.int (0 : Int32)) 3)
  have g_b11 : n0 ≤ b11 := Nat.le_trans (Nat.le_trans (Nat.le_trans (Nat.le_trans (Nat.le_trans Z0 E7.1) (Keep.of_wr W8).1) (Keep.of_wr W9).1) (Keep.of_wr W10).1) (Nat.le_of_eq g11.symm)
  have sz_b11 : h0.size ≤ b11 := (Nat.le_trans K10.1 (Nat.le_of_eq g11.symm))
  have K11 : Keep h0 h11 [] := K10.ext E11
  obtain ⟨cl_b11_147, Ar_b11, q_b11, S_b11, N_b11, H_b11, G_b11⟩ := V_b11      -- open the array's fact as it stands now (its cell, kind, length, elements)
  have hin147 : ¬ ((0 : Int32) < 0 ∨ cl_b11_147.slots.size ≤ ((0 : Int32)).toNatClampNeg) := inb_of S_b11 ⟨by decide, by decide⟩
  obtain ⟨T12, h12, X12, e12, W12, st12⟩ := stI X11 hx hZ e11 Ar_b11 (j := (0 : Int32)) hin147 (g := (mkF m 147 (own_L p1 q2 q3 q4 q5 p6 (3 : Int32) (0 : Int32) v0 v1 v2 v3 w0 w1 w2 w3 [.val (.ref b7), .val (.int (3 : Int32)), .val (.ref b11), .unset, .unset, .unset]) [(.int w0), (.int (0 : Int32)), (.ref b11)])) rfl rfl (hb hby at_147)
  have Z12 : n0 ≤ h12.size := Nat.le_trans Z11 (Keep.of_wr W12).1
  have V_b11_12 := Arv.set Ar_b11 q_b11 S_b11 N_b11 H_b11 G_b11 rfl W12 0 rfl (Nat.le_of_ble_eq_true rfl)      -- the array as it stands now (the place must lie among its first values: Arv.pad with pad_rep lengthens them)
  have K12 : Keep h0 h12 [] := K11.wr W12 (Or.inr sz_b11)
  have N12 := Fr.snoc X12 N10 g_b11
  obtain ⟨cl_b11_159, Ar_b11, q_b11, S_b11, N_b11, H_b11, G_b11⟩ := V_b11_12      -- open the array's fact as it stands now (its cell, kind, length, elements)
  have hin159 : ¬ ((1 : Int32) < 0 ∨ cl_b11_159.slots.size ≤ ((1 : Int32)).toNatClampNeg) := inb_of S_b11 ⟨by decide, by decide⟩
  obtain ⟨T13, h13, X13, e13, W13, st13⟩ := stI X12 hx hZ e12 Ar_b11 (j := (1 : Int32)) hin159 (g := (mkF m 159 (own_L p1 q2 q3 q4 q5 p6 (3 : Int32) (0 : Int32) v0 v1 v2 v3 w0 w1 w2 w3 [.val (.ref b7), .val (.int (3 : Int32)), .val (.ref b11), .unset, .unset, .unset]) [(.int w1), (.int (1 : Int32)), (.ref b11)])) rfl rfl (hb hby at_159)
  have Z13 : n0 ≤ h13.size := Nat.le_trans Z12 (Keep.of_wr W13).1
  have V_b11_13 := Arv.set Ar_b11 q_b11 S_b11 N_b11 H_b11 G_b11 rfl W13 1 rfl (Nat.le_of_ble_eq_true rfl)      -- the array as it stands now (the place must lie among its first values: Arv.pad with pad_rep lengthens them)
  have K13 : Keep h0 h13 [] := K12.wr W13 (Or.inr sz_b11)
  have N13 := Fr.snoc X13 N12 g_b11
  obtain ⟨cl_b11_171, Ar_b11, q_b11, S_b11, N_b11, H_b11, G_b11⟩ := V_b11_13      -- open the array's fact as it stands now (its cell, kind, length, elements)
  have hin171 : ¬ ((2 : Int32) < 0 ∨ cl_b11_171.slots.size ≤ ((2 : Int32)).toNatClampNeg) := inb_of S_b11 ⟨by decide, by decide⟩
  obtain ⟨T14, h14, X14, e14, W14, st14⟩ := stI X13 hx hZ e13 Ar_b11 (j := (2 : Int32)) hin171 (g := (mkF m 171 (own_L p1 q2 q3 q4 q5 p6 (3 : Int32) (0 : Int32) v0 v1 v2 v3 w0 w1 w2 w3 [.val (.ref b7), .val (.int (3 : Int32)), .val (.ref b11), .unset, .unset, .unset]) [(.int w2), (.int (2 : Int32)), (.ref b11)])) rfl rfl (hb hby at_171)
  have Z14 : n0 ≤ h14.size := Nat.le_trans Z13 (Keep.of_wr W14).1
  have V_b11_14 := Arv.set Ar_b11 q_b11 S_b11 N_b11 H_b11 G_b11 rfl W14 2 rfl (Nat.le_of_ble_eq_true rfl)      -- the array as it stands now (the place must lie among its first values: Arv.pad with pad_rep lengthens them)
  have K14 : Keep h0 h14 [] := K13.wr W14 (Or.inr sz_b11)
  have N14 := Fr.snoc X14 N13 g_b11
  obtain ⟨T15, h15, X15, e15, E15, A15, D15, -, st15⟩ := newO X14 hx hZ hown (hw _ (List.mem_of_getElem? (i := 2) rfl)) (hw _ (List.mem_of_getElem? (i := 3) rfl)) (hw _ (List.mem_of_getElem? (i := 4) rfl)) e14 (g := (mkF m 196 (own_L p1 q2 q3 q4 q5 p6 (3 : Int32) (0 : Int32) v0 v1 v2 v3 w0 w1 w2 w3 [.val (.ref b7), .val (.int (3 : Int32)), .val (.ref b11), .unset, .unset, .unset]) [])) rfl (hb hby at_196) (by decide) (by decide)
  obtain ⟨b15, g15⟩ : ∃ z, z = h14.size := ⟨_, rfl⟩      -- the fresh object's address
  have Z15 : n0 ≤ h15.size := Nat.le_trans Z14 E15.1
  rw [← g15] at A15 D15 st15      -- A15 : Exa Z h15 b15 "com/example/stagecraft/stagecraft/examples/GenericDotProduct"; E15 : Ext h14 h15 (carries every older fact: .ext E15)
  have F_fixed_b15 : Fld Z h15 b15 "com/example/stagecraft/stagecraft/examples/GenericDotProduct" "fixed" "[I" .null := D15 (Or.inr (hw _ (List.mem_of_getElem? (i := 21) rfl))) (ty := (.array .int)) (by decide)
  have E_b15 := A15
  have g_b15 : n0 ≤ b15 := Nat.le_trans (Nat.le_trans (Nat.le_trans (Nat.le_trans (Nat.le_trans (Nat.le_trans (Nat.le_trans (Nat.le_trans (Nat.le_trans Z0 E7.1) (Keep.of_wr W8).1) (Keep.of_wr W9).1) (Keep.of_wr W10).1) E11.1) (Keep.of_wr W12).1) (Keep.of_wr W13).1) (Keep.of_wr W14).1) (Nat.le_of_eq g15.symm)
  have sz_b15 : h0.size ≤ b15 := (Nat.le_trans K14.1 (Nat.le_of_eq g15.symm))
  have K15 : Keep h0 h15 [] := K14.ext E15
  have CV1_b7 := (((((V_b7_10.ext E11).other W12 (Nat.ne_of_lt (Nat.lt_of_lt_of_le V_b7_10.lt (Nat.le_of_eq g11.symm)))).other W13 (Nat.ne_of_lt (Nat.lt_of_lt_of_le V_b7_10.lt (Nat.le_of_eq g11.symm)))).other W14 (Nat.ne_of_lt (Nat.lt_of_lt_of_le V_b7_10.lt (Nat.le_of_eq g11.symm)))).ext E15)
  have CE1_b7 := ((((((((I7.wr W8).wr W9).wr W10).ext E11).wr W12).wr W13).wr W14).ext E15)
  have CV1_b11 := (V_b11_14.ext E15)
  have CE1_b11 := ((((I11.wr W12).wr W13).wr W14).ext E15)
  have CE1_b15 := E_b15
  -- pc 202: the constructor of com/example/stagecraft/stagecraft/examples/GenericDotProduct by its contract rm1
  obtain ⟨_, _, ⟨T16, L16, k16, n16⟩, -, X16, ⟨Lc16, hQ16, l16, y16, z16⟩, st16⟩ := X15.specialBack hx (y := (⟨"com/example/stagecraft/stagecraft/examples/GenericDotProduct", "<init>", "([I)V"⟩ : MethodName)) rfl hown (mvT hZ (hw _ (List.mem_of_getElem? (i := 5) rfl))) (mvT hZ (hw _ (List.mem_of_getElem? (i := 6) rfl))) (mvT hZ (hw _ (List.mem_of_getElem? (i := 7) rfl))) (by decide) (backOf (W := 1) (rm1 l Z a0 hw [] b15 b7 k7 (3 : Int32) [(.int v0), (.int v1), (.int v2)] .null h15 n0 Z15 CV1_b7 (by decide) CE1_b7 E_b15 F_fixed_b15 g_b15) hZ (hw _ (List.mem_of_getElem? (i := 7) rfl)) (hw _ (List.mem_of_getElem? (i := 4) rfl)) (by decide) (by decide)) (g := (mkF m 202 (own_L p1 q2 q3 q4 q5 p6 (3 : Int32) (0 : Int32) v0 v1 v2 v3 w0 w1 w2 w3 [.val (.ref b7), .val (.int (3 : Int32)), .val (.ref b11), .unset, .unset, .unset]) [(.ref b7), (.ref b15), (.ref b15)])) rfl (by rw [hml]; rfl) (Steps.refl _) (a := b15) (argsL := [(.ref b7)]) (rest := [(.ref b15)]) (lenOf pd_0_0 rfl) rfl (by show 2 * 0 + _ ≤ _; exact Nat.le_of_eq rfl) (hb hby at_202) (fun _ _ => ⟨rfl, e15, (by decide : 3 + 1 ≤ _), (by decide : 7 + 4 ≤ _)⟩)
  dsimp only [Pt.U, Pt.locs, Pt.cells, Pt.slots] at X16 l16 y16 z16 st16 hQ16
  subst l16 y16 z16
  obtain ⟨rfl, N16q, K16q, E16x, t16, F16a, V16a⟩ := hQ16
  have Z16 : n0 ≤ T16.heap.size := Nat.le_trans Z15 K16q.1
  have N16 := Fr.app N14 N16q
  have CE2_b7 := (((((((((I7.wr W8).wr W9).wr W10).ext E11).wr W12).wr W13).wr W14).ext E15).keep K16q)
  have CE2_b11 := (((((I11.wr W12).wr W13).wr W14).ext E15).keep K16q)
  have CE2_b15 := (E_b15.keep K16q)
  -- pc 211: com/example/stagecraft/stagecraft/examples/GenericDotProduct.apply by the contract of the body that the receiver's class selects, rm3
  obtain ⟨cq17, kq17, q17a, q17b, q17c⟩ := isOf hZ rfl (E_b15.keep K16q)
  obtain ⟨_, _, ⟨T17, L17, k17, n17⟩, -, X17, ⟨Lc17, hQ17, l17, y17, z17⟩, st17⟩ := X16.virtualBack hx (y := (⟨"com/example/stagecraft/stagecraft/examples/GenericDotProduct", "apply", "([I)I"⟩ : MethodName)) (z := (⟨"com/example/stagecraft/stagecraft/examples/GenericDotProduct", "apply", "([I)I"⟩ : MethodName)) hown (mvT hZ (hw _ (List.mem_of_getElem? (i := 22) rfl))) (mvT hZ (hw _ (List.mem_of_getElem? (i := 23) rfl))) (notFace_of_selects (args := #[]) (mvT hZ (hw _ (List.mem_of_getElem? (i := 25) rfl)))) (mvT hZ (hw _ (List.mem_of_getElem? (i := 25) rfl))) (mvT hZ (hw _ (List.mem_of_getElem? (i := 24) rfl))) (by decide) (backOf (W := 0) (rm3 l Z a0 hw [] b15 b11 t16 k7 k11 (3 : Int32) (3 : Int32) [(.int v0), (.int v1), (.int v2)] [(.int w0), (.int w1), (.int w2)] (fun j => [v0, v1, v2, v3].getD j 0) (fun j => [w0, w1, w2, w3].getD j 0) 3 T16.heap n0 Z16 (by decide) rfl (by decide) F16a V16a (CV1_b11.keep K16q (ninS (Nat.ne_of_lt (Nat.lt_of_lt_of_le V_b11_14.lt (Nat.le_of_eq g15.symm))) nin0)) (fun j hj => by rcases j with _ | _ | _ | _ | j <;> first | rfl | (exfalso; omega)) (fun j hj => by rcases j with _ | _ | _ | _ | j <;> first | rfl | (exfalso; omega))) hZ (hw _ (List.mem_of_getElem? (i := 26) rfl)) (hw _ (List.mem_of_getElem? (i := 4) rfl)) (by decide) (by decide)) q17a q17c (g := (mkF m 211 (own_L p1 q2 q3 q4 q5 p6 (3 : Int32) (0 : Int32) v0 v1 v2 v3 w0 w1 w2 w3 [.val (.ref b7), .val (.int (3 : Int32)), .val (.ref b11), .val (.ref b15), .unset, .unset]) [(.ref b11), (.ref b15)])) rfl (by rw [hml]; rfl) (Steps.refl _) (argsL := [(.ref b11)]) (rest := []) (lenOf pd_0_3 rfl) rfl (by show 2 * 0 + _ ≤ _; exact Nat.le_of_eq rfl) (hb hby at_211) (fun _ _ => ⟨rfl, rfl, (by decide : 4 + 0 ≤ _), (by decide : 11 + 0 ≤ _)⟩)
  dsimp only [Pt.U, Pt.locs, Pt.cells, Pt.slots] at X17 l17 y17 z17 st17 hQ17
  subst l17 y17 z17
  obtain ⟨rfl, N17q, E17q⟩ := hQ17
  have K17q : Keep T16.heap T17.heap [] := by rw [E17q]; exact Keep.refl _ _
  have Z17 : n0 ≤ T17.heap.size := Nat.le_trans Z16 K17q.1
  have N17 := Fr.app N16 N17q
  obtain ⟨fs, hr, hrun, hended, hW, hsame⟩ := X17.leave (v := some (.int (1 : Int32))) (fun h => by rw [Bd.returns] at h; cases h)
  refine ⟨_, _, pre0 _ ?_, hrun, hended, _, _, rfl, ?_, ⟨_, rfl⟩, hW, hsame.mono (by decide) (by decide)⟩
  -- 4. STEPS
  · show Steps p.tables e below (s₁.setTop (mkF m 0 #[.val (.int p1), .val (.long q2), .second, .val (.long q3), .second, .val (.long q4), .second, .val (.long q5), .second, .val (.int p6), .unset, .unset, .unset, .unset, .unset, .unset, .unset, .unset, .unset, .unset, .unset, .unset, .unset, .unset, .unset, .unset, .unset] [])) _
    refine jmp_0 _ ?_
    show Steps p.tables e below (s₁.setTop (mkF m 71 (own_L p1 q2 q3 q4 q5 p6 (3 : Int32) (0 : Int32) v0 v1 v2 v3 w0 w1 w2 w3 [.unset, .unset, .unset, .unset, .unset, .unset]) [])) _
    refine XS.iload X0.here hx rfl (hb hby at_71) rfl ?_
    show Steps p.tables e below (s₁.setTop (mkF m 73 (own_L p1 q2 q3 q4 q5 p6 (3 : Int32) (0 : Int32) v0 v1 v2 v3 w0 w1 w2 w3 [.unset, .unset, .unset, .unset, .unset, .unset]) [(.int (3 : Int32))])) _
    refine st7 _ ?_
    show Steps p.tables e below (T7.setTop (mkF m 75 (own_L p1 q2 q3 q4 q5 p6 (3 : Int32) (0 : Int32) v0 v1 v2 v3 w0 w1 w2 w3 [.unset, .unset, .unset, .unset, .unset, .unset]) [(.ref b7)])) _
    refine XS.astore X7.here hx rfl (hb hby at_75) rfl rfl (l' := (own_L p1 q2 q3 q4 q5 p6 (3 : Int32) (0 : Int32) v0 v1 v2 v3 w0 w1 w2 w3 [.val (.ref b7), .unset, .unset, .unset, .unset, .unset])) rfl ?_
    show Steps p.tables e below (T7.setTop (mkF m 77 (own_L p1 q2 q3 q4 q5 p6 (3 : Int32) (0 : Int32) v0 v1 v2 v3 w0 w1 w2 w3 [.val (.ref b7), .unset, .unset, .unset, .unset, .unset]) [])) _
    refine XS.iload X7.here hx rfl (hb hby at_77) rfl ?_
    show Steps p.tables e below (T7.setTop (mkF m 79 (own_L p1 q2 q3 q4 q5 p6 (3 : Int32) (0 : Int32) v0 v1 v2 v3 w0 w1 w2 w3 [.val (.ref b7), .unset, .unset, .unset, .unset, .unset]) [(.int (3 : Int32))])) _
    refine XS.ifNo X7.here hx rfl (hb hby at_79) rfl ((if0 _ _).trans (tlt (by decide : (0 : Int32) < (3 : Int32))).2.2.2) ?_
    show Steps p.tables e below (T7.setTop (mkF m 82 (own_L p1 q2 q3 q4 q5 p6 (3 : Int32) (0 : Int32) v0 v1 v2 v3 w0 w1 w2 w3 [.val (.ref b7), .unset, .unset, .unset, .unset, .unset]) [])) _
    refine XS.aload X7.here hx rfl (hb hby at_82) rfl rfl ?_
    show Steps p.tables e below (T7.setTop (mkF m 84 (own_L p1 q2 q3 q4 q5 p6 (3 : Int32) (0 : Int32) v0 v1 v2 v3 w0 w1 w2 w3 [.val (.ref b7), .unset, .unset, .unset, .unset, .unset]) [(.ref b7)])) _
    refine XS.iconst X7.here hx rfl (hb hby at_84) ?_
    show Steps p.tables e below (T7.setTop (mkF m 85 (own_L p1 q2 q3 q4 q5 p6 (3 : Int32) (0 : Int32) v0 v1 v2 v3 w0 w1 w2 w3 [.val (.ref b7), .unset, .unset, .unset, .unset, .unset]) [(.int (0 : Int32)), (.ref b7)])) _
    refine XS.iload X7.here hx rfl (hb hby at_85) rfl ?_
    show Steps p.tables e below (T7.setTop (mkF m 87 (own_L p1 q2 q3 q4 q5 p6 (3 : Int32) (0 : Int32) v0 v1 v2 v3 w0 w1 w2 w3 [.val (.ref b7), .unset, .unset, .unset, .unset, .unset]) [(.int v0), (.int (0 : Int32)), (.ref b7)])) _
    refine st8 _ ?_
    show Steps p.tables e below (T8.setTop (mkF m 88 (own_L p1 q2 q3 q4 q5 p6 (3 : Int32) (0 : Int32) v0 v1 v2 v3 w0 w1 w2 w3 [.val (.ref b7), .unset, .unset, .unset, .unset, .unset]) [])) _
    refine XS.iload X8.here hx rfl (hb hby at_88) rfl ?_
    show Steps p.tables e below (T8.setTop (mkF m 90 (own_L p1 q2 q3 q4 q5 p6 (3 : Int32) (0 : Int32) v0 v1 v2 v3 w0 w1 w2 w3 [.val (.ref b7), .unset, .unset, .unset, .unset, .unset]) [(.int (3 : Int32))])) _
    refine XS.iconst X8.here hx rfl (hb hby at_90) ?_
    show Steps p.tables e below (T8.setTop (mkF m 91 (own_L p1 q2 q3 q4 q5 p6 (3 : Int32) (0 : Int32) v0 v1 v2 v3 w0 w1 w2 w3 [.val (.ref b7), .unset, .unset, .unset, .unset, .unset]) [(.int (1 : Int32)), (.int (3 : Int32))])) _
    refine XS.icmpNo X8.here hx rfl (hb hby at_91) rfl (tlt (by decide : (1 : Int32) < (3 : Int32))).2.2.2 ?_
    show Steps p.tables e below (T8.setTop (mkF m 94 (own_L p1 q2 q3 q4 q5 p6 (3 : Int32) (0 : Int32) v0 v1 v2 v3 w0 w1 w2 w3 [.val (.ref b7), .unset, .unset, .unset, .unset, .unset]) [])) _
    refine XS.aload X8.here hx rfl (hb hby at_94) rfl rfl ?_
    show Steps p.tables e below (T8.setTop (mkF m 96 (own_L p1 q2 q3 q4 q5 p6 (3 : Int32) (0 : Int32) v0 v1 v2 v3 w0 w1 w2 w3 [.val (.ref b7), .unset, .unset, .unset, .unset, .unset]) [(.ref b7)])) _
    refine XS.iconst X8.here hx rfl (hb hby at_96) ?_
    show Steps p.tables e below (T8.setTop (mkF m 97 (own_L p1 q2 q3 q4 q5 p6 (3 : Int32) (0 : Int32) v0 v1 v2 v3 w0 w1 w2 w3 [.val (.ref b7), .unset, .unset, .unset, .unset, .unset]) [(.int (1 : Int32)), (.ref b7)])) _
    refine XS.iload X8.here hx rfl (hb hby at_97) rfl ?_
    show Steps p.tables e below (T8.setTop (mkF m 99 (own_L p1 q2 q3 q4 q5 p6 (3 : Int32) (0 : Int32) v0 v1 v2 v3 w0 w1 w2 w3 [.val (.ref b7), .unset, .unset, .unset, .unset, .unset]) [(.int v1), (.int (1 : Int32)), (.ref b7)])) _
    refine st9 _ ?_
    show Steps p.tables e below (T9.setTop (mkF m 100 (own_L p1 q2 q3 q4 q5 p6 (3 : Int32) (0 : Int32) v0 v1 v2 v3 w0 w1 w2 w3 [.val (.ref b7), .unset, .unset, .unset, .unset, .unset]) [])) _
    refine XS.iload X9.here hx rfl (hb hby at_100) rfl ?_
    show Steps p.tables e below (T9.setTop (mkF m 102 (own_L p1 q2 q3 q4 q5 p6 (3 : Int32) (0 : Int32) v0 v1 v2 v3 w0 w1 w2 w3 [.val (.ref b7), .unset, .unset, .unset, .unset, .unset]) [(.int (3 : Int32))])) _
    refine XS.iconst X9.here hx rfl (hb hby at_102) ?_
    show Steps p.tables e below (T9.setTop (mkF m 103 (own_L p1 q2 q3 q4 q5 p6 (3 : Int32) (0 : Int32) v0 v1 v2 v3 w0 w1 w2 w3 [.val (.ref b7), .unset, .unset, .unset, .unset, .unset]) [(.int (2 : Int32)), (.int (3 : Int32))])) _
    refine XS.icmpNo X9.here hx rfl (hb hby at_103) rfl (tlt (by decide : (2 : Int32) < (3 : Int32))).2.2.2 ?_
    show Steps p.tables e below (T9.setTop (mkF m 106 (own_L p1 q2 q3 q4 q5 p6 (3 : Int32) (0 : Int32) v0 v1 v2 v3 w0 w1 w2 w3 [.val (.ref b7), .unset, .unset, .unset, .unset, .unset]) [])) _
    refine XS.aload X9.here hx rfl (hb hby at_106) rfl rfl ?_
    show Steps p.tables e below (T9.setTop (mkF m 108 (own_L p1 q2 q3 q4 q5 p6 (3 : Int32) (0 : Int32) v0 v1 v2 v3 w0 w1 w2 w3 [.val (.ref b7), .unset, .unset, .unset, .unset, .unset]) [(.ref b7)])) _
    refine XS.iconst X9.here hx rfl (hb hby at_108) ?_
    show Steps p.tables e below (T9.setTop (mkF m 109 (own_L p1 q2 q3 q4 q5 p6 (3 : Int32) (0 : Int32) v0 v1 v2 v3 w0 w1 w2 w3 [.val (.ref b7), .unset, .unset, .unset, .unset, .unset]) [(.int (2 : Int32)), (.ref b7)])) _
    refine XS.iload X9.here hx rfl (hb hby at_109) rfl ?_
    show Steps p.tables e below (T9.setTop (mkF m 111 (own_L p1 q2 q3 q4 q5 p6 (3 : Int32) (0 : Int32) v0 v1 v2 v3 w0 w1 w2 w3 [.val (.ref b7), .unset, .unset, .unset, .unset, .unset]) [(.int v2), (.int (2 : Int32)), (.ref b7)])) _
    refine st10 _ ?_
    show Steps p.tables e below (T10.setTop (mkF m 112 (own_L p1 q2 q3 q4 q5 p6 (3 : Int32) (0 : Int32) v0 v1 v2 v3 w0 w1 w2 w3 [.val (.ref b7), .unset, .unset, .unset, .unset, .unset]) [])) _
    refine XS.iload X10.here hx rfl (hb hby at_112) rfl ?_
    show Steps p.tables e below (T10.setTop (mkF m 114 (own_L p1 q2 q3 q4 q5 p6 (3 : Int32) (0 : Int32) v0 v1 v2 v3 w0 w1 w2 w3 [.val (.ref b7), .unset, .unset, .unset, .unset, .unset]) [(.int (3 : Int32))])) _
    refine XS.iconst X10.here hx rfl (hb hby at_114) ?_
    show Steps p.tables e below (T10.setTop (mkF m 115 (own_L p1 q2 q3 q4 q5 p6 (3 : Int32) (0 : Int32) v0 v1 v2 v3 w0 w1 w2 w3 [.val (.ref b7), .unset, .unset, .unset, .unset, .unset]) [(.int (3 : Int32)), (.int (3 : Int32))])) _
    refine XS.icmpYes X10.here hx rfl (pc0 := 115) (pc' := 124) rfl (hb hby at_115) rfl (flt (by decide : ¬ ((3 : Int32) < (3 : Int32)))).2.2.2 (by decide) (by decide) ?_
    show Steps p.tables e below (T10.setTop (mkF m 124 (own_L p1 q2 q3 q4 q5 p6 (3 : Int32) (0 : Int32) v0 v1 v2 v3 w0 w1 w2 w3 [.val (.ref b7), .unset, .unset, .unset, .unset, .unset]) [])) _
    refine jmp_124 _ ?_
    show Steps p.tables e below (T10.setTop (mkF m 131 (own_L p1 q2 q3 q4 q5 p6 (3 : Int32) (0 : Int32) v0 v1 v2 v3 w0 w1 w2 w3 [.val (.ref b7), .val (.int (3 : Int32)), .unset, .unset, .unset, .unset]) [])) _
    refine XS.iload X10.here hx rfl (hb hby at_131) rfl ?_
    show Steps p.tables e below (T10.setTop (mkF m 133 (own_L p1 q2 q3 q4 q5 p6 (3 : Int32) (0 : Int32) v0 v1 v2 v3 w0 w1 w2 w3 [.val (.ref b7), .val (.int (3 : Int32)), .unset, .unset, .unset, .unset]) [(.int (3 : Int32))])) _
    refine st11 _ ?_
    show Steps p.tables e below (T11.setTop (mkF m 135 (own_L p1 q2 q3 q4 q5 p6 (3 : Int32) (0 : Int32) v0 v1 v2 v3 w0 w1 w2 w3 [.val (.ref b7), .val (.int (3 : Int32)), .unset, .unset, .unset, .unset]) [(.ref b11)])) _
    refine XS.astore X11.here hx rfl (hb hby at_135) rfl rfl (l' := (own_L p1 q2 q3 q4 q5 p6 (3 : Int32) (0 : Int32) v0 v1 v2 v3 w0 w1 w2 w3 [.val (.ref b7), .val (.int (3 : Int32)), .val (.ref b11), .unset, .unset, .unset])) rfl ?_
    show Steps p.tables e below (T11.setTop (mkF m 137 (own_L p1 q2 q3 q4 q5 p6 (3 : Int32) (0 : Int32) v0 v1 v2 v3 w0 w1 w2 w3 [.val (.ref b7), .val (.int (3 : Int32)), .val (.ref b11), .unset, .unset, .unset]) [])) _
    refine XS.iload X11.here hx rfl (hb hby at_137) rfl ?_
    show Steps p.tables e below (T11.setTop (mkF m 139 (own_L p1 q2 q3 q4 q5 p6 (3 : Int32) (0 : Int32) v0 v1 v2 v3 w0 w1 w2 w3 [.val (.ref b7), .val (.int (3 : Int32)), .val (.ref b11), .unset, .unset, .unset]) [(.int (3 : Int32))])) _
    refine XS.ifNo X11.here hx rfl (hb hby at_139) rfl ((if0 _ _).trans (tlt (by decide : (0 : Int32) < (3 : Int32))).2.2.2) ?_
    show Steps p.tables e below (T11.setTop (mkF m 142 (own_L p1 q2 q3 q4 q5 p6 (3 : Int32) (0 : Int32) v0 v1 v2 v3 w0 w1 w2 w3 [.val (.ref b7), .val (.int (3 : Int32)), .val (.ref b11), .unset, .unset, .unset]) [])) _
    refine XS.aload X11.here hx rfl (hb hby at_142) rfl rfl ?_
    show Steps p.tables e below (T11.setTop (mkF m 144 (own_L p1 q2 q3 q4 q5 p6 (3 : Int32) (0 : Int32) v0 v1 v2 v3 w0 w1 w2 w3 [.val (.ref b7), .val (.int (3 : Int32)), .val (.ref b11), .unset, .unset, .unset]) [(.ref b11)])) _
    refine XS.iconst X11.here hx rfl (hb hby at_144) ?_
    show Steps p.tables e below (T11.setTop (mkF m 145 (own_L p1 q2 q3 q4 q5 p6 (3 : Int32) (0 : Int32) v0 v1 v2 v3 w0 w1 w2 w3 [.val (.ref b7), .val (.int (3 : Int32)), .val (.ref b11), .unset, .unset, .unset]) [(.int (0 : Int32)), (.ref b11)])) _
    refine XS.iload X11.here hx rfl (hb hby at_145) rfl ?_
    show Steps p.tables e below (T11.setTop (mkF m 147 (own_L p1 q2 q3 q4 q5 p6 (3 : Int32) (0 : Int32) v0 v1 v2 v3 w0 w1 w2 w3 [.val (.ref b7), .val (.int (3 : Int32)), .val (.ref b11), .unset, .unset, .unset]) [(.int w0), (.int (0 : Int32)), (.ref b11)])) _
    refine st12 _ ?_
    show Steps p.tables e below (T12.setTop (mkF m 148 (own_L p1 q2 q3 q4 q5 p6 (3 : Int32) (0 : Int32) v0 v1 v2 v3 w0 w1 w2 w3 [.val (.ref b7), .val (.int (3 : Int32)), .val (.ref b11), .unset, .unset, .unset]) [])) _
    refine XS.iload X12.here hx rfl (hb hby at_148) rfl ?_
    show Steps p.tables e below (T12.setTop (mkF m 150 (own_L p1 q2 q3 q4 q5 p6 (3 : Int32) (0 : Int32) v0 v1 v2 v3 w0 w1 w2 w3 [.val (.ref b7), .val (.int (3 : Int32)), .val (.ref b11), .unset, .unset, .unset]) [(.int (3 : Int32))])) _
    refine XS.iconst X12.here hx rfl (hb hby at_150) ?_
    show Steps p.tables e below (T12.setTop (mkF m 151 (own_L p1 q2 q3 q4 q5 p6 (3 : Int32) (0 : Int32) v0 v1 v2 v3 w0 w1 w2 w3 [.val (.ref b7), .val (.int (3 : Int32)), .val (.ref b11), .unset, .unset, .unset]) [(.int (1 : Int32)), (.int (3 : Int32))])) _
    refine XS.icmpNo X12.here hx rfl (hb hby at_151) rfl (tlt (by decide : (1 : Int32) < (3 : Int32))).2.2.2 ?_
    show Steps p.tables e below (T12.setTop (mkF m 154 (own_L p1 q2 q3 q4 q5 p6 (3 : Int32) (0 : Int32) v0 v1 v2 v3 w0 w1 w2 w3 [.val (.ref b7), .val (.int (3 : Int32)), .val (.ref b11), .unset, .unset, .unset]) [])) _
    refine XS.aload X12.here hx rfl (hb hby at_154) rfl rfl ?_
    show Steps p.tables e below (T12.setTop (mkF m 156 (own_L p1 q2 q3 q4 q5 p6 (3 : Int32) (0 : Int32) v0 v1 v2 v3 w0 w1 w2 w3 [.val (.ref b7), .val (.int (3 : Int32)), .val (.ref b11), .unset, .unset, .unset]) [(.ref b11)])) _
    refine XS.iconst X12.here hx rfl (hb hby at_156) ?_
    show Steps p.tables e below (T12.setTop (mkF m 157 (own_L p1 q2 q3 q4 q5 p6 (3 : Int32) (0 : Int32) v0 v1 v2 v3 w0 w1 w2 w3 [.val (.ref b7), .val (.int (3 : Int32)), .val (.ref b11), .unset, .unset, .unset]) [(.int (1 : Int32)), (.ref b11)])) _
    refine XS.iload X12.here hx rfl (hb hby at_157) rfl ?_
    show Steps p.tables e below (T12.setTop (mkF m 159 (own_L p1 q2 q3 q4 q5 p6 (3 : Int32) (0 : Int32) v0 v1 v2 v3 w0 w1 w2 w3 [.val (.ref b7), .val (.int (3 : Int32)), .val (.ref b11), .unset, .unset, .unset]) [(.int w1), (.int (1 : Int32)), (.ref b11)])) _
    refine st13 _ ?_
    show Steps p.tables e below (T13.setTop (mkF m 160 (own_L p1 q2 q3 q4 q5 p6 (3 : Int32) (0 : Int32) v0 v1 v2 v3 w0 w1 w2 w3 [.val (.ref b7), .val (.int (3 : Int32)), .val (.ref b11), .unset, .unset, .unset]) [])) _
    refine XS.iload X13.here hx rfl (hb hby at_160) rfl ?_
    show Steps p.tables e below (T13.setTop (mkF m 162 (own_L p1 q2 q3 q4 q5 p6 (3 : Int32) (0 : Int32) v0 v1 v2 v3 w0 w1 w2 w3 [.val (.ref b7), .val (.int (3 : Int32)), .val (.ref b11), .unset, .unset, .unset]) [(.int (3 : Int32))])) _
    refine XS.iconst X13.here hx rfl (hb hby at_162) ?_
    show Steps p.tables e below (T13.setTop (mkF m 163 (own_L p1 q2 q3 q4 q5 p6 (3 : Int32) (0 : Int32) v0 v1 v2 v3 w0 w1 w2 w3 [.val (.ref b7), .val (.int (3 : Int32)), .val (.ref b11), .unset, .unset, .unset]) [(.int (2 : Int32)), (.int (3 : Int32))])) _
    refine XS.icmpNo X13.here hx rfl (hb hby at_163) rfl (tlt (by decide : (2 : Int32) < (3 : Int32))).2.2.2 ?_
    show Steps p.tables e below (T13.setTop (mkF m 166 (own_L p1 q2 q3 q4 q5 p6 (3 : Int32) (0 : Int32) v0 v1 v2 v3 w0 w1 w2 w3 [.val (.ref b7), .val (.int (3 : Int32)), .val (.ref b11), .unset, .unset, .unset]) [])) _
    refine XS.aload X13.here hx rfl (hb hby at_166) rfl rfl ?_
    show Steps p.tables e below (T13.setTop (mkF m 168 (own_L p1 q2 q3 q4 q5 p6 (3 : Int32) (0 : Int32) v0 v1 v2 v3 w0 w1 w2 w3 [.val (.ref b7), .val (.int (3 : Int32)), .val (.ref b11), .unset, .unset, .unset]) [(.ref b11)])) _
    refine XS.iconst X13.here hx rfl (hb hby at_168) ?_
    show Steps p.tables e below (T13.setTop (mkF m 169 (own_L p1 q2 q3 q4 q5 p6 (3 : Int32) (0 : Int32) v0 v1 v2 v3 w0 w1 w2 w3 [.val (.ref b7), .val (.int (3 : Int32)), .val (.ref b11), .unset, .unset, .unset]) [(.int (2 : Int32)), (.ref b11)])) _
    refine XS.iload X13.here hx rfl (hb hby at_169) rfl ?_
    show Steps p.tables e below (T13.setTop (mkF m 171 (own_L p1 q2 q3 q4 q5 p6 (3 : Int32) (0 : Int32) v0 v1 v2 v3 w0 w1 w2 w3 [.val (.ref b7), .val (.int (3 : Int32)), .val (.ref b11), .unset, .unset, .unset]) [(.int w2), (.int (2 : Int32)), (.ref b11)])) _
    refine st14 _ ?_
    show Steps p.tables e below (T14.setTop (mkF m 172 (own_L p1 q2 q3 q4 q5 p6 (3 : Int32) (0 : Int32) v0 v1 v2 v3 w0 w1 w2 w3 [.val (.ref b7), .val (.int (3 : Int32)), .val (.ref b11), .unset, .unset, .unset]) [])) _
    refine XS.iload X14.here hx rfl (hb hby at_172) rfl ?_
    show Steps p.tables e below (T14.setTop (mkF m 174 (own_L p1 q2 q3 q4 q5 p6 (3 : Int32) (0 : Int32) v0 v1 v2 v3 w0 w1 w2 w3 [.val (.ref b7), .val (.int (3 : Int32)), .val (.ref b11), .unset, .unset, .unset]) [(.int (3 : Int32))])) _
    refine XS.iconst X14.here hx rfl (hb hby at_174) ?_
    show Steps p.tables e below (T14.setTop (mkF m 175 (own_L p1 q2 q3 q4 q5 p6 (3 : Int32) (0 : Int32) v0 v1 v2 v3 w0 w1 w2 w3 [.val (.ref b7), .val (.int (3 : Int32)), .val (.ref b11), .unset, .unset, .unset]) [(.int (3 : Int32)), (.int (3 : Int32))])) _
    refine XS.icmpYes X14.here hx rfl (pc0 := 175) (pc' := 184) rfl (hb hby at_175) rfl (flt (by decide : ¬ ((3 : Int32) < (3 : Int32)))).2.2.2 (by decide) (by decide) ?_
    show Steps p.tables e below (T14.setTop (mkF m 184 (own_L p1 q2 q3 q4 q5 p6 (3 : Int32) (0 : Int32) v0 v1 v2 v3 w0 w1 w2 w3 [.val (.ref b7), .val (.int (3 : Int32)), .val (.ref b11), .unset, .unset, .unset]) [])) _
    refine XS.iload X14.here hx rfl (hb hby at_184) rfl ?_
    show Steps p.tables e below (T14.setTop (mkF m 186 (own_L p1 q2 q3 q4 q5 p6 (3 : Int32) (0 : Int32) v0 v1 v2 v3 w0 w1 w2 w3 [.val (.ref b7), .val (.int (3 : Int32)), .val (.ref b11), .unset, .unset, .unset]) [(.int (3 : Int32))])) _
    refine XS.iconst X14.here hx rfl (hb hby at_186) ?_
    show Steps p.tables e below (T14.setTop (mkF m 187 (own_L p1 q2 q3 q4 q5 p6 (3 : Int32) (0 : Int32) v0 v1 v2 v3 w0 w1 w2 w3 [.val (.ref b7), .val (.int (3 : Int32)), .val (.ref b11), .unset, .unset, .unset]) [(.int (4 : Int32)), (.int (3 : Int32))])) _
    refine XS.icmpYes X14.here hx rfl (pc0 := 187) (pc' := 196) rfl (hb hby at_187) rfl (flt (by decide : ¬ ((4 : Int32) < (3 : Int32)))).2.2.2 (by decide) (by decide) ?_
    show Steps p.tables e below (T14.setTop (mkF m 196 (own_L p1 q2 q3 q4 q5 p6 (3 : Int32) (0 : Int32) v0 v1 v2 v3 w0 w1 w2 w3 [.val (.ref b7), .val (.int (3 : Int32)), .val (.ref b11), .unset, .unset, .unset]) [])) _
    refine st15 _ ?_
    show Steps p.tables e below (T15.setTop (mkF m 199 (own_L p1 q2 q3 q4 q5 p6 (3 : Int32) (0 : Int32) v0 v1 v2 v3 w0 w1 w2 w3 [.val (.ref b7), .val (.int (3 : Int32)), .val (.ref b11), .unset, .unset, .unset]) [(.ref b15)])) _
    refine XS.dup X15.here hx rfl (hb hby at_199) rfl rfl ?_
    show Steps p.tables e below (T15.setTop (mkF m 200 (own_L p1 q2 q3 q4 q5 p6 (3 : Int32) (0 : Int32) v0 v1 v2 v3 w0 w1 w2 w3 [.val (.ref b7), .val (.int (3 : Int32)), .val (.ref b11), .unset, .unset, .unset]) [(.ref b15), (.ref b15)])) _
    refine XS.aload X15.here hx rfl (hb hby at_200) rfl rfl ?_
    show Steps p.tables e below (T15.setTop (mkF m 202 (own_L p1 q2 q3 q4 q5 p6 (3 : Int32) (0 : Int32) v0 v1 v2 v3 w0 w1 w2 w3 [.val (.ref b7), .val (.int (3 : Int32)), .val (.ref b11), .unset, .unset, .unset]) [(.ref b7), (.ref b15), (.ref b15)])) _
    refine st16.trans ?_
    show Steps p.tables e below (T16.setTop (mkF m 205 (own_L p1 q2 q3 q4 q5 p6 (3 : Int32) (0 : Int32) v0 v1 v2 v3 w0 w1 w2 w3 [.val (.ref b7), .val (.int (3 : Int32)), .val (.ref b11), .unset, .unset, .unset]) [(.ref b15)])) _
    refine XS.astore X16.here hx rfl (hb hby at_205) rfl rfl (l' := (own_L p1 q2 q3 q4 q5 p6 (3 : Int32) (0 : Int32) v0 v1 v2 v3 w0 w1 w2 w3 [.val (.ref b7), .val (.int (3 : Int32)), .val (.ref b11), .val (.ref b15), .unset, .unset])) rfl ?_
    show Steps p.tables e below (T16.setTop (mkF m 207 (own_L p1 q2 q3 q4 q5 p6 (3 : Int32) (0 : Int32) v0 v1 v2 v3 w0 w1 w2 w3 [.val (.ref b7), .val (.int (3 : Int32)), .val (.ref b11), .val (.ref b15), .unset, .unset]) [])) _
    refine XS.aload X16.here hx rfl (hb hby at_207) rfl rfl ?_
    show Steps p.tables e below (T16.setTop (mkF m 209 (own_L p1 q2 q3 q4 q5 p6 (3 : Int32) (0 : Int32) v0 v1 v2 v3 w0 w1 w2 w3 [.val (.ref b7), .val (.int (3 : Int32)), .val (.ref b11), .val (.ref b15), .unset, .unset]) [(.ref b15)])) _
    refine XS.aload X16.here hx rfl (hb hby at_209) rfl rfl ?_
    show Steps p.tables e below (T16.setTop (mkF m 211 (own_L p1 q2 q3 q4 q5 p6 (3 : Int32) (0 : Int32) v0 v1 v2 v3 w0 w1 w2 w3 [.val (.ref b7), .val (.int (3 : Int32)), .val (.ref b11), .val (.ref b15), .unset, .unset]) [(.ref b11), (.ref b15)])) _
    refine st17.trans ?_
    show Steps p.tables e below (T17.setTop (mkF m 214 (own_L p1 q2 q3 q4 q5 p6 (3 : Int32) (0 : Int32) v0 v1 v2 v3 w0 w1 w2 w3 [.val (.ref b7), .val (.int (3 : Int32)), .val (.ref b11), .val (.ref b15), .unset, .unset]) [(.int (own_acc (fun j => [v0, v1, v2, v3].getD j 0) (fun j => [w0, w1, w2, w3].getD j 0) 3 0 0))])) _
    refine XS.istore X17.here hx rfl (hb hby at_214) rfl (l' := (own_L p1 q2 q3 q4 q5 p6 (3 : Int32) (0 : Int32) v0 v1 v2 v3 w0 w1 w2 w3 [.val (.ref b7), .val (.int (3 : Int32)), .val (.ref b11), .val (.ref b15), .val (.int (own_acc (fun j => [v0, v1, v2, v3].getD j 0) (fun j => [w0, w1, w2, w3].getD j 0) 3 0 0)), .unset])) rfl ?_
    show Steps p.tables e below (T17.setTop (mkF m 216 (own_L p1 q2 q3 q4 q5 p6 (3 : Int32) (0 : Int32) v0 v1 v2 v3 w0 w1 w2 w3 [.val (.ref b7), .val (.int (3 : Int32)), .val (.ref b11), .val (.ref b15), .val (.int (own_acc (fun j => [v0, v1, v2, v3].getD j 0) (fun j => [w0, w1, w2, w3].getD j 0) 3 0 0)), .unset]) [])) _
    refine XS.iconst X17.here hx rfl (hb hby at_216) ?_
    show Steps p.tables e below (T17.setTop (mkF m 217 (own_L p1 q2 q3 q4 q5 p6 (3 : Int32) (0 : Int32) v0 v1 v2 v3 w0 w1 w2 w3 [.val (.ref b7), .val (.int (3 : Int32)), .val (.ref b11), .val (.ref b15), .val (.int (own_acc (fun j => [v0, v1, v2, v3].getD j 0) (fun j => [w0, w1, w2, w3].getD j 0) 3 0 0)), .unset]) [(.int (0 : Int32))])) _
    refine XS.istore X17.here hx rfl (hb hby at_217) rfl (l' := (own_L p1 q2 q3 q4 q5 p6 (3 : Int32) (0 : Int32) v0 v1 v2 v3 w0 w1 w2 w3 [.val (.ref b7), .val (.int (3 : Int32)), .val (.ref b11), .val (.ref b15), .val (.int (own_acc (fun j => [v0, v1, v2, v3].getD j 0) (fun j => [w0, w1, w2, w3].getD j 0) 3 0 0)), .val (.int (0 : Int32))])) rfl ?_
    show Steps p.tables e below (T17.setTop (mkF m 219 (own_L p1 q2 q3 q4 q5 p6 (3 : Int32) (0 : Int32) v0 v1 v2 v3 w0 w1 w2 w3 [.val (.ref b7), .val (.int (3 : Int32)), .val (.ref b11), .val (.ref b15), .val (.int (own_acc (fun j => [v0, v1, v2, v3].getD j 0) (fun j => [w0, w1, w2, w3].getD j 0) 3 0 0)), .val (.int (0 : Int32))]) [])) _
    refine XS.iload X17.here hx rfl (hb hby at_219) rfl ?_
    show Steps p.tables e below (T17.setTop (mkF m 221 (own_L p1 q2 q3 q4 q5 p6 (3 : Int32) (0 : Int32) v0 v1 v2 v3 w0 w1 w2 w3 [.val (.ref b7), .val (.int (3 : Int32)), .val (.ref b11), .val (.ref b15), .val (.int (own_acc (fun j => [v0, v1, v2, v3].getD j 0) (fun j => [w0, w1, w2, w3].getD j 0) 3 0 0)), .val (.int (0 : Int32))]) [(.int (3 : Int32))])) _
    refine XS.ifNo X17.here hx rfl (hb hby at_221) rfl ((if0 _ _).trans (tlt (by decide : (0 : Int32) < (3 : Int32))).2.2.2) ?_
    show Steps p.tables e below (T17.setTop (mkF m 224 (own_L p1 q2 q3 q4 q5 p6 (3 : Int32) (0 : Int32) v0 v1 v2 v3 w0 w1 w2 w3 [.val (.ref b7), .val (.int (3 : Int32)), .val (.ref b11), .val (.ref b15), .val (.int (own_acc (fun j => [v0, v1, v2, v3].getD j 0) (fun j => [w0, w1, w2, w3].getD j 0) 3 0 0)), .val (.int (0 : Int32))]) [])) _
    refine XS.iload X17.here hx rfl (hb hby at_224) rfl ?_
    show Steps p.tables e below (T17.setTop (mkF m 226 (own_L p1 q2 q3 q4 q5 p6 (3 : Int32) (0 : Int32) v0 v1 v2 v3 w0 w1 w2 w3 [.val (.ref b7), .val (.int (3 : Int32)), .val (.ref b11), .val (.ref b15), .val (.int (own_acc (fun j => [v0, v1, v2, v3].getD j 0) (fun j => [w0, w1, w2, w3].getD j 0) 3 0 0)), .val (.int (0 : Int32))]) [(.int (0 : Int32))])) _
    refine XS.iload X17.here hx rfl (hb hby at_226) rfl ?_
    show Steps p.tables e below (T17.setTop (mkF m 228 (own_L p1 q2 q3 q4 q5 p6 (3 : Int32) (0 : Int32) v0 v1 v2 v3 w0 w1 w2 w3 [.val (.ref b7), .val (.int (3 : Int32)), .val (.ref b11), .val (.ref b15), .val (.int (own_acc (fun j => [v0, v1, v2, v3].getD j 0) (fun j => [w0, w1, w2, w3].getD j 0) 3 0 0)), .val (.int (0 : Int32))]) [(.int v0), (.int (0 : Int32))])) _
    refine XS.iload X17.here hx rfl (hb hby at_228) rfl ?_
    show Steps p.tables e below (T17.setTop (mkF m 230 (own_L p1 q2 q3 q4 q5 p6 (3 : Int32) (0 : Int32) v0 v1 v2 v3 w0 w1 w2 w3 [.val (.ref b7), .val (.int (3 : Int32)), .val (.ref b11), .val (.ref b15), .val (.int (own_acc (fun j => [v0, v1, v2, v3].getD j 0) (fun j => [w0, w1, w2, w3].getD j 0) 3 0 0)), .val (.int (0 : Int32))]) [(.int w0), (.int v0), (.int (0 : Int32))])) _
    refine XS.imul X17.here hx rfl (hb hby at_230) rfl ?_
    show Steps p.tables e below (T17.setTop (mkF m 231 (own_L p1 q2 q3 q4 q5 p6 (3 : Int32) (0 : Int32) v0 v1 v2 v3 w0 w1 w2 w3 [.val (.ref b7), .val (.int (3 : Int32)), .val (.ref b11), .val (.ref b15), .val (.int (own_acc (fun j => [v0, v1, v2, v3].getD j 0) (fun j => [w0, w1, w2, w3].getD j 0) 3 0 0)), .val (.int (0 : Int32))]) [(.int (v0 * w0)), (.int (0 : Int32))])) _
    refine XS.iadd X17.here hx rfl (hb hby at_231) rfl ?_
    show Steps p.tables e below (T17.setTop (mkF m 232 (own_L p1 q2 q3 q4 q5 p6 (3 : Int32) (0 : Int32) v0 v1 v2 v3 w0 w1 w2 w3 [.val (.ref b7), .val (.int (3 : Int32)), .val (.ref b11), .val (.ref b15), .val (.int (own_acc (fun j => [v0, v1, v2, v3].getD j 0) (fun j => [w0, w1, w2, w3].getD j 0) 3 0 0)), .val (.int (0 : Int32))]) [(.int ((0 : Int32) + (v0 * w0)))])) _
    refine XS.istore X17.here hx rfl (hb hby at_232) rfl (l' := (own_L p1 q2 q3 q4 q5 p6 (3 : Int32) (0 : Int32) v0 v1 v2 v3 w0 w1 w2 w3 [.val (.ref b7), .val (.int (3 : Int32)), .val (.ref b11), .val (.ref b15), .val (.int (own_acc (fun j => [v0, v1, v2, v3].getD j 0) (fun j => [w0, w1, w2, w3].getD j 0) 3 0 0)), .val (.int ((0 : Int32) + (v0 * w0)))])) rfl ?_
    show Steps p.tables e below (T17.setTop (mkF m 234 (own_L p1 q2 q3 q4 q5 p6 (3 : Int32) (0 : Int32) v0 v1 v2 v3 w0 w1 w2 w3 [.val (.ref b7), .val (.int (3 : Int32)), .val (.ref b11), .val (.ref b15), .val (.int (own_acc (fun j => [v0, v1, v2, v3].getD j 0) (fun j => [w0, w1, w2, w3].getD j 0) 3 0 0)), .val (.int ((0 : Int32) + (v0 * w0)))]) [])) _
    refine XS.iload X17.here hx rfl (hb hby at_234) rfl ?_
    show Steps p.tables e below (T17.setTop (mkF m 236 (own_L p1 q2 q3 q4 q5 p6 (3 : Int32) (0 : Int32) v0 v1 v2 v3 w0 w1 w2 w3 [.val (.ref b7), .val (.int (3 : Int32)), .val (.ref b11), .val (.ref b15), .val (.int (own_acc (fun j => [v0, v1, v2, v3].getD j 0) (fun j => [w0, w1, w2, w3].getD j 0) 3 0 0)), .val (.int ((0 : Int32) + (v0 * w0)))]) [(.int (3 : Int32))])) _
    refine XS.iconst X17.here hx rfl (hb hby at_236) ?_
    show Steps p.tables e below (T17.setTop (mkF m 237 (own_L p1 q2 q3 q4 q5 p6 (3 : Int32) (0 : Int32) v0 v1 v2 v3 w0 w1 w2 w3 [.val (.ref b7), .val (.int (3 : Int32)), .val (.ref b11), .val (.ref b15), .val (.int (own_acc (fun j => [v0, v1, v2, v3].getD j 0) (fun j => [w0, w1, w2, w3].getD j 0) 3 0 0)), .val (.int ((0 : Int32) + (v0 * w0)))]) [(.int (1 : Int32)), (.int (3 : Int32))])) _
    refine XS.icmpNo X17.here hx rfl (hb hby at_237) rfl (tlt (by decide : (1 : Int32) < (3 : Int32))).2.2.2 ?_
    show Steps p.tables e below (T17.setTop (mkF m 240 (own_L p1 q2 q3 q4 q5 p6 (3 : Int32) (0 : Int32) v0 v1 v2 v3 w0 w1 w2 w3 [.val (.ref b7), .val (.int (3 : Int32)), .val (.ref b11), .val (.ref b15), .val (.int (own_acc (fun j => [v0, v1, v2, v3].getD j 0) (fun j => [w0, w1, w2, w3].getD j 0) 3 0 0)), .val (.int ((0 : Int32) + (v0 * w0)))]) [])) _
    refine XS.iload X17.here hx rfl (hb hby at_240) rfl ?_
    show Steps p.tables e below (T17.setTop (mkF m 242 (own_L p1 q2 q3 q4 q5 p6 (3 : Int32) (0 : Int32) v0 v1 v2 v3 w0 w1 w2 w3 [.val (.ref b7), .val (.int (3 : Int32)), .val (.ref b11), .val (.ref b15), .val (.int (own_acc (fun j => [v0, v1, v2, v3].getD j 0) (fun j => [w0, w1, w2, w3].getD j 0) 3 0 0)), .val (.int ((0 : Int32) + (v0 * w0)))]) [(.int ((0 : Int32) + (v0 * w0)))])) _
    refine XS.iload X17.here hx rfl (hb hby at_242) rfl ?_
    show Steps p.tables e below (T17.setTop (mkF m 244 (own_L p1 q2 q3 q4 q5 p6 (3 : Int32) (0 : Int32) v0 v1 v2 v3 w0 w1 w2 w3 [.val (.ref b7), .val (.int (3 : Int32)), .val (.ref b11), .val (.ref b15), .val (.int (own_acc (fun j => [v0, v1, v2, v3].getD j 0) (fun j => [w0, w1, w2, w3].getD j 0) 3 0 0)), .val (.int ((0 : Int32) + (v0 * w0)))]) [(.int v1), (.int ((0 : Int32) + (v0 * w0)))])) _
    refine XS.iload X17.here hx rfl (hb hby at_244) rfl ?_
    show Steps p.tables e below (T17.setTop (mkF m 246 (own_L p1 q2 q3 q4 q5 p6 (3 : Int32) (0 : Int32) v0 v1 v2 v3 w0 w1 w2 w3 [.val (.ref b7), .val (.int (3 : Int32)), .val (.ref b11), .val (.ref b15), .val (.int (own_acc (fun j => [v0, v1, v2, v3].getD j 0) (fun j => [w0, w1, w2, w3].getD j 0) 3 0 0)), .val (.int ((0 : Int32) + (v0 * w0)))]) [(.int w1), (.int v1), (.int ((0 : Int32) + (v0 * w0)))])) _
    refine XS.imul X17.here hx rfl (hb hby at_246) rfl ?_
    show Steps p.tables e below (T17.setTop (mkF m 247 (own_L p1 q2 q3 q4 q5 p6 (3 : Int32) (0 : Int32) v0 v1 v2 v3 w0 w1 w2 w3 [.val (.ref b7), .val (.int (3 : Int32)), .val (.ref b11), .val (.ref b15), .val (.int (own_acc (fun j => [v0, v1, v2, v3].getD j 0) (fun j => [w0, w1, w2, w3].getD j 0) 3 0 0)), .val (.int ((0 : Int32) + (v0 * w0)))]) [(.int (v1 * w1)), (.int ((0 : Int32) + (v0 * w0)))])) _
    refine XS.iadd X17.here hx rfl (hb hby at_247) rfl ?_
    show Steps p.tables e below (T17.setTop (mkF m 248 (own_L p1 q2 q3 q4 q5 p6 (3 : Int32) (0 : Int32) v0 v1 v2 v3 w0 w1 w2 w3 [.val (.ref b7), .val (.int (3 : Int32)), .val (.ref b11), .val (.ref b15), .val (.int (own_acc (fun j => [v0, v1, v2, v3].getD j 0) (fun j => [w0, w1, w2, w3].getD j 0) 3 0 0)), .val (.int ((0 : Int32) + (v0 * w0)))]) [(.int (((0 : Int32) + (v0 * w0)) + (v1 * w1)))])) _
    refine XS.istore X17.here hx rfl (hb hby at_248) rfl (l' := (own_L p1 q2 q3 q4 q5 p6 (3 : Int32) (0 : Int32) v0 v1 v2 v3 w0 w1 w2 w3 [.val (.ref b7), .val (.int (3 : Int32)), .val (.ref b11), .val (.ref b15), .val (.int (own_acc (fun j => [v0, v1, v2, v3].getD j 0) (fun j => [w0, w1, w2, w3].getD j 0) 3 0 0)), .val (.int (((0 : Int32) + (v0 * w0)) + (v1 * w1)))])) rfl ?_
    show Steps p.tables e below (T17.setTop (mkF m 250 (own_L p1 q2 q3 q4 q5 p6 (3 : Int32) (0 : Int32) v0 v1 v2 v3 w0 w1 w2 w3 [.val (.ref b7), .val (.int (3 : Int32)), .val (.ref b11), .val (.ref b15), .val (.int (own_acc (fun j => [v0, v1, v2, v3].getD j 0) (fun j => [w0, w1, w2, w3].getD j 0) 3 0 0)), .val (.int (((0 : Int32) + (v0 * w0)) + (v1 * w1)))]) [])) _
    refine XS.iload X17.here hx rfl (hb hby at_250) rfl ?_
    show Steps p.tables e below (T17.setTop (mkF m 252 (own_L p1 q2 q3 q4 q5 p6 (3 : Int32) (0 : Int32) v0 v1 v2 v3 w0 w1 w2 w3 [.val (.ref b7), .val (.int (3 : Int32)), .val (.ref b11), .val (.ref b15), .val (.int (own_acc (fun j => [v0, v1, v2, v3].getD j 0) (fun j => [w0, w1, w2, w3].getD j 0) 3 0 0)), .val (.int (((0 : Int32) + (v0 * w0)) + (v1 * w1)))]) [(.int (3 : Int32))])) _
    refine XS.iconst X17.here hx rfl (hb hby at_252) ?_
    show Steps p.tables e below (T17.setTop (mkF m 253 (own_L p1 q2 q3 q4 q5 p6 (3 : Int32) (0 : Int32) v0 v1 v2 v3 w0 w1 w2 w3 [.val (.ref b7), .val (.int (3 : Int32)), .val (.ref b11), .val (.ref b15), .val (.int (own_acc (fun j => [v0, v1, v2, v3].getD j 0) (fun j => [w0, w1, w2, w3].getD j 0) 3 0 0)), .val (.int (((0 : Int32) + (v0 * w0)) + (v1 * w1)))]) [(.int (2 : Int32)), (.int (3 : Int32))])) _
    refine XS.icmpNo X17.here hx rfl (hb hby at_253) rfl (tlt (by decide : (2 : Int32) < (3 : Int32))).2.2.2 ?_
    show Steps p.tables e below (T17.setTop (mkF m 256 (own_L p1 q2 q3 q4 q5 p6 (3 : Int32) (0 : Int32) v0 v1 v2 v3 w0 w1 w2 w3 [.val (.ref b7), .val (.int (3 : Int32)), .val (.ref b11), .val (.ref b15), .val (.int (own_acc (fun j => [v0, v1, v2, v3].getD j 0) (fun j => [w0, w1, w2, w3].getD j 0) 3 0 0)), .val (.int (((0 : Int32) + (v0 * w0)) + (v1 * w1)))]) [])) _
    refine XS.iload X17.here hx rfl (hb hby at_256) rfl ?_
    show Steps p.tables e below (T17.setTop (mkF m 258 (own_L p1 q2 q3 q4 q5 p6 (3 : Int32) (0 : Int32) v0 v1 v2 v3 w0 w1 w2 w3 [.val (.ref b7), .val (.int (3 : Int32)), .val (.ref b11), .val (.ref b15), .val (.int (own_acc (fun j => [v0, v1, v2, v3].getD j 0) (fun j => [w0, w1, w2, w3].getD j 0) 3 0 0)), .val (.int (((0 : Int32) + (v0 * w0)) + (v1 * w1)))]) [(.int (((0 : Int32) + (v0 * w0)) + (v1 * w1)))])) _
    refine XS.iload X17.here hx rfl (hb hby at_258) rfl ?_
    show Steps p.tables e below (T17.setTop (mkF m 260 (own_L p1 q2 q3 q4 q5 p6 (3 : Int32) (0 : Int32) v0 v1 v2 v3 w0 w1 w2 w3 [.val (.ref b7), .val (.int (3 : Int32)), .val (.ref b11), .val (.ref b15), .val (.int (own_acc (fun j => [v0, v1, v2, v3].getD j 0) (fun j => [w0, w1, w2, w3].getD j 0) 3 0 0)), .val (.int (((0 : Int32) + (v0 * w0)) + (v1 * w1)))]) [(.int v2), (.int (((0 : Int32) + (v0 * w0)) + (v1 * w1)))])) _
    refine XS.iload X17.here hx rfl (hb hby at_260) rfl ?_
    show Steps p.tables e below (T17.setTop (mkF m 262 (own_L p1 q2 q3 q4 q5 p6 (3 : Int32) (0 : Int32) v0 v1 v2 v3 w0 w1 w2 w3 [.val (.ref b7), .val (.int (3 : Int32)), .val (.ref b11), .val (.ref b15), .val (.int (own_acc (fun j => [v0, v1, v2, v3].getD j 0) (fun j => [w0, w1, w2, w3].getD j 0) 3 0 0)), .val (.int (((0 : Int32) + (v0 * w0)) + (v1 * w1)))]) [(.int w2), (.int v2), (.int (((0 : Int32) + (v0 * w0)) + (v1 * w1)))])) _
    refine XS.imul X17.here hx rfl (hb hby at_262) rfl ?_
    show Steps p.tables e below (T17.setTop (mkF m 263 (own_L p1 q2 q3 q4 q5 p6 (3 : Int32) (0 : Int32) v0 v1 v2 v3 w0 w1 w2 w3 [.val (.ref b7), .val (.int (3 : Int32)), .val (.ref b11), .val (.ref b15), .val (.int (own_acc (fun j => [v0, v1, v2, v3].getD j 0) (fun j => [w0, w1, w2, w3].getD j 0) 3 0 0)), .val (.int (((0 : Int32) + (v0 * w0)) + (v1 * w1)))]) [(.int (v2 * w2)), (.int (((0 : Int32) + (v0 * w0)) + (v1 * w1)))])) _
    refine XS.iadd X17.here hx rfl (hb hby at_263) rfl ?_
    show Steps p.tables e below (T17.setTop (mkF m 264 (own_L p1 q2 q3 q4 q5 p6 (3 : Int32) (0 : Int32) v0 v1 v2 v3 w0 w1 w2 w3 [.val (.ref b7), .val (.int (3 : Int32)), .val (.ref b11), .val (.ref b15), .val (.int (own_acc (fun j => [v0, v1, v2, v3].getD j 0) (fun j => [w0, w1, w2, w3].getD j 0) 3 0 0)), .val (.int (((0 : Int32) + (v0 * w0)) + (v1 * w1)))]) [(.int ((((0 : Int32) + (v0 * w0)) + (v1 * w1)) + (v2 * w2)))])) _
    refine XS.istore X17.here hx rfl (hb hby at_264) rfl (l' := (own_L p1 q2 q3 q4 q5 p6 (3 : Int32) (0 : Int32) v0 v1 v2 v3 w0 w1 w2 w3 [.val (.ref b7), .val (.int (3 : Int32)), .val (.ref b11), .val (.ref b15), .val (.int (own_acc (fun j => [v0, v1, v2, v3].getD j 0) (fun j => [w0, w1, w2, w3].getD j 0) 3 0 0)), .val (.int ((((0 : Int32) + (v0 * w0)) + (v1 * w1)) + (v2 * w2)))])) rfl ?_
    show Steps p.tables e below (T17.setTop (mkF m 266 (own_L p1 q2 q3 q4 q5 p6 (3 : Int32) (0 : Int32) v0 v1 v2 v3 w0 w1 w2 w3 [.val (.ref b7), .val (.int (3 : Int32)), .val (.ref b11), .val (.ref b15), .val (.int (own_acc (fun j => [v0, v1, v2, v3].getD j 0) (fun j => [w0, w1, w2, w3].getD j 0) 3 0 0)), .val (.int ((((0 : Int32) + (v0 * w0)) + (v1 * w1)) + (v2 * w2)))]) [])) _
    refine XS.iload X17.here hx rfl (hb hby at_266) rfl ?_
    show Steps p.tables e below (T17.setTop (mkF m 268 (own_L p1 q2 q3 q4 q5 p6 (3 : Int32) (0 : Int32) v0 v1 v2 v3 w0 w1 w2 w3 [.val (.ref b7), .val (.int (3 : Int32)), .val (.ref b11), .val (.ref b15), .val (.int (own_acc (fun j => [v0, v1, v2, v3].getD j 0) (fun j => [w0, w1, w2, w3].getD j 0) 3 0 0)), .val (.int ((((0 : Int32) + (v0 * w0)) + (v1 * w1)) + (v2 * w2)))]) [(.int (3 : Int32))])) _
    refine XS.iconst X17.here hx rfl (hb hby at_268) ?_
    show Steps p.tables e below (T17.setTop (mkF m 269 (own_L p1 q2 q3 q4 q5 p6 (3 : Int32) (0 : Int32) v0 v1 v2 v3 w0 w1 w2 w3 [.val (.ref b7), .val (.int (3 : Int32)), .val (.ref b11), .val (.ref b15), .val (.int (own_acc (fun j => [v0, v1, v2, v3].getD j 0) (fun j => [w0, w1, w2, w3].getD j 0) 3 0 0)), .val (.int ((((0 : Int32) + (v0 * w0)) + (v1 * w1)) + (v2 * w2)))]) [(.int (3 : Int32)), (.int (3 : Int32))])) _
    refine XS.icmpYes X17.here hx rfl (pc0 := 269) (pc' := 282) rfl (hb hby at_269) rfl (flt (by decide : ¬ ((3 : Int32) < (3 : Int32)))).2.2.2 (by decide) (by decide) ?_
    show Steps p.tables e below (T17.setTop (mkF m 282 (own_L p1 q2 q3 q4 q5 p6 (3 : Int32) (0 : Int32) v0 v1 v2 v3 w0 w1 w2 w3 [.val (.ref b7), .val (.int (3 : Int32)), .val (.ref b11), .val (.ref b15), .val (.int (own_acc (fun j => [v0, v1, v2, v3].getD j 0) (fun j => [w0, w1, w2, w3].getD j 0) 3 0 0)), .val (.int ((((0 : Int32) + (v0 * w0)) + (v1 * w1)) + (v2 * w2)))]) [])) _
    refine XS.iload X17.here hx rfl (hb hby at_282) rfl ?_
    show Steps p.tables e below (T17.setTop (mkF m 284 (own_L p1 q2 q3 q4 q5 p6 (3 : Int32) (0 : Int32) v0 v1 v2 v3 w0 w1 w2 w3 [.val (.ref b7), .val (.int (3 : Int32)), .val (.ref b11), .val (.ref b15), .val (.int (own_acc (fun j => [v0, v1, v2, v3].getD j 0) (fun j => [w0, w1, w2, w3].getD j 0) 3 0 0)), .val (.int ((((0 : Int32) + (v0 * w0)) + (v1 * w1)) + (v2 * w2)))]) [(.int (own_acc (fun j => [v0, v1, v2, v3].getD j 0) (fun j => [w0, w1, w2, w3].getD j 0) 3 0 0))])) _
    refine XS.iload X17.here hx rfl (hb hby at_284) rfl ?_
    show Steps p.tables e below (T17.setTop (mkF m 286 (own_L p1 q2 q3 q4 q5 p6 (3 : Int32) (0 : Int32) v0 v1 v2 v3 w0 w1 w2 w3 [.val (.ref b7), .val (.int (3 : Int32)), .val (.ref b11), .val (.ref b15), .val (.int (own_acc (fun j => [v0, v1, v2, v3].getD j 0) (fun j => [w0, w1, w2, w3].getD j 0) 3 0 0)), .val (.int ((((0 : Int32) + (v0 * w0)) + (v1 * w1)) + (v2 * w2)))]) [(.int ((((0 : Int32) + (v0 * w0)) + (v1 * w1)) + (v2 * w2))), (.int (own_acc (fun j => [v0, v1, v2, v3].getD j 0) (fun j => [w0, w1, w2, w3].getD j 0) 3 0 0))])) _
    refine XS.icmpNo X17.here hx rfl (hb hby at_286) rfl (teq (rfl : (own_acc (fun j => [v0, v1, v2, v3].getD j 0) (fun j => [w0, w1, w2, w3].getD j 0) 3 0 0) = ((((0 : Int32) + (v0 * w0)) + (v1 * w1)) + (v2 * w2)))).2 ?_
    show Steps p.tables e below (T17.setTop (mkF m 289 (own_L p1 q2 q3 q4 q5 p6 (3 : Int32) (0 : Int32) v0 v1 v2 v3 w0 w1 w2 w3 [.val (.ref b7), .val (.int (3 : Int32)), .val (.ref b11), .val (.ref b15), .val (.int (own_acc (fun j => [v0, v1, v2, v3].getD j 0) (fun j => [w0, w1, w2, w3].getD j 0) 3 0 0)), .val (.int ((((0 : Int32) + (v0 * w0)) + (v1 * w1)) + (v2 * w2)))]) [])) _
    refine XS.iconst X17.here hx rfl (hb hby at_289) ?_
    show Steps p.tables e below (T17.setTop (mkF m 290 (own_L p1 q2 q3 q4 q5 p6 (3 : Int32) (0 : Int32) v0 v1 v2 v3 w0 w1 w2 w3 [.val (.ref b7), .val (.int (3 : Int32)), .val (.ref b11), .val (.ref b15), .val (.int (own_acc (fun j => [v0, v1, v2, v3].getD j 0) (fun j => [w0, w1, w2, w3].getD j 0) 3 0 0)), .val (.int ((((0 : Int32) + (v0 * w0)) + (v1 * w1)) + (v2 * w2)))]) [(.int (1 : Int32))])) _
    refine XS.goto X17.here hx rfl (pc0 := 290) (pc' := 294) rfl (hb hby at_290) (by decide) (by decide) ?_
    show Steps p.tables e below (T17.setTop (mkF m 294 (own_L p1 q2 q3 q4 q5 p6 (3 : Int32) (0 : Int32) v0 v1 v2 v3 w0 w1 w2 w3 [.val (.ref b7), .val (.int (3 : Int32)), .val (.ref b11), .val (.ref b15), .val (.int (own_acc (fun j => [v0, v1, v2, v3].getD j 0) (fun j => [w0, w1, w2, w3].getD j 0) 3 0 0)), .val (.int ((((0 : Int32) + (v0 * w0)) + (v1 * w1)) + (v2 * w2)))]) [(.int (1 : Int32))])) _
    exact retN X17 hx (t := .boolean) Bd.returns (by simp) (hb hby at_294) hr
  · show Q0 Z p1 q2 q3 q4 q5 p6 h0 n0 _ T17.heap _
    exact ⟨rfl, N17⟩
set_option maxRecDepth 65536 in
set_option maxHeartbeats 40000000 in
theorem rm0_3_1 (l : Launch) (Z : State) (a0 : Array Value) (hw : ∀ d ∈ tables_1, d.before a0 Z = true) (ws : List Jvm.Cond) (p1 : Int32) (q2 : Int64) (q3 : Int64) (q4 : Int64) (q5 : Int64) (p6 : Int32) (h0 : Heap) (n0 : Nat) (Z0 : n0 ≤ h0.size) (v0 v1 v2 v3 w0 w1 w2 w3 : Int32) (h_v0 : (q2.toInt32) = v0) (h_v1 : (((q2.toUInt64 >>> ((32 : Int32) &&& 0x3f).toInt64.toUInt64).toInt64).toInt32) = v1) (h_v2 : (q3.toInt32) = v2) (h_v3 : (((q3.toUInt64 >>> ((32 : Int32) &&& 0x3f).toInt64.toUInt64).toInt64).toInt32) = v3) (h_w0 : (q4.toInt32) = w0) (h_w1 : (((q4.toUInt64 >>> ((32 : Int32) &&& 0x3f).toInt64.toUInt64).toInt64).toInt32) = w1) (h_w2 : (q5.toInt32) = w2) (h_w3 : (((q5.toUInt64 >>> ((32 : Int32) &&& 0x3f).toInt64.toUInt64).toInt64).toInt32) = w3) (hk : ((p1 &&& (2147483647 : Int32)) % (5 : Int32)) = (3 : Int32)) (hc9 : p1 < (0 : Int32)) :
    MetFree l x (head1 (Jvm.Cond.code x code maxLocals ret :: ws) room_1) (fun a U => a = #[(.int p1), (.long q2), (.long q3), (.long q4), (.long q5), (.int p6)] ∧ Z.Warmed39 U.vm ∧ U.heap = h0) (fun _ _ _ _ _ => True) (fun _ U o U' => ∃ v L, o = .returned v ∧ Q0 Z p1 q2 q3 q4 q5 p6 h0 n0 v U'.heap L ∧ FrameEnd U o U' L room_1.cells room_1.slots) := by
  refine MetFree.of_bodySF (plainFor_of_name pn_0) hisR ?_
  intro p e s m args below meth c s₁ Bd hml0 hP hK
  obtain ⟨rfl, hZ, hh⟩ := hP
  have hx := Bd.exec
  have hby := Bd.bytes
  have hml : c.maxLocals = 27 := hml0
  have hown : s.vm.findClass "com/example/stagecraft/stagecraft/examples/GenericDotProductApplyPinLaw" = some m.cls := findClass_of_methodNamed Bd.named
  have hnm := (name_of_methodNamed Bd.named Bd.method).1
  have X0 : Stand p l e room_1 s m #[(.int p1), (.long q2), (.long q3), (.long q4), (.long q5), (.int p6)] below meth c s₁ [] 0 0 := Stand.of_body Bd
  have e0 : s₁.heap = h0 := by rw [← hh, Bd.state]; rfl
  have N0 := Fr.nil n0
  have pre0 : ∀ t, Steps p.tables e below (s₁.setTop (mkF m 0 #[.val (.int p1), .val (.long q2), .second, .val (.long q3), .second, .val (.long q4), .second, .val (.long q5), .second, .val (.int p6), .unset, .unset, .unset, .unset, .unset, .unset, .unset, .unset, .unset, .unset, .unset, .unset, .unset, .unset, .unset, .unset, .unset] [])) t → Steps p.tables e below (s₁.setTop (entryFrame m #[(.int p1), (.long q2), (.long q3), (.long q4), (.long q5), (.int p6)] maxLocals)) t := fun t k => castTop (ef_0 m p1 q2 q3 q4 q5 p6) k
  -- 3. LAWS
  have jmp_0 : ∀ target, Steps p.tables e below (s₁.setTop (mkF m 71 (own_L p1 q2 q3 q4 q5 p6 (3 : Int32) (1 : Int32) v0 v1 v2 v3 w0 w1 w2 w3 [.unset, .unset, .unset, .unset, .unset, .unset]) [])) target → Steps p.tables e below (s₁.setTop (mkF m 0 #[.val (.int p1), .val (.long q2), .second, .val (.long q3), .second, .val (.long q4), .second, .val (.long q5), .second, .val (.int p6), .unset, .unset, .unset, .unset, .unset, .unset, .unset, .unset, .unset, .unset, .unset, .unset, .unset, .unset, .unset, .unset, .unset] [])) target := fun target kt => own_j1 p1 q2 q3 q4 q5 p6 X0 hx hZ hw hby hown hc9 target (castTop (by rw [hk, h_v0, h_v1, h_v2, h_v3, h_w0, h_w1, h_w2, h_w3]) kt)
  obtain ⟨T7, h7, k7, X7, e7, E7, A7, I7, st7⟩ := newPE X0 hx hZ (hw _ (List.mem_of_getElem? (i := 1) rfl)) e0 (g := (mkF m 73 (own_L p1 q2 q3 q4 q5 p6 (3 : Int32) (1 : Int32) v0 v1 v2 v3 w0 w1 w2 w3 [.unset, .unset, .unset, .unset, .unset, .unset]) [(.int (3 : Int32))])) rfl (hb hby at_73) rfl (by decide) (cap := 3) (by decide) (by decide) (by decide) (by decide) (ad := "[I") rfl
  obtain ⟨b7, g7⟩ : ∃ z, z = h0.size := ⟨_, rfl⟩      -- the fresh array's address
  have Z7 : n0 ≤ h7.size := Nat.le_trans Z0 E7.1
  rw [← g7] at A7 I7 st7
  have V_b7 : Arv Z h7 b7 k7 .int (3 : Int32) [(.int (0 : Int32)), (.int (0 : Int32)), (.int (0 : Int32))] (.int (0 : Int32)) := (Arv.new A7 (by decide)).pad (pad_rep [] (.int (0 : Int32)) 3)
  have g_b7 : n0 ≤ b7 := Nat.le_trans Z0 (Nat.le_of_eq g7.symm)
  have sz_b7 : h0.size ≤ b7 := (Nat.le_trans (Keep.refl h0 []).1 (Nat.le_of_eq g7.symm))
  have K7 : Keep h0 h7 [] := (Keep.refl h0 []).ext E7
  obtain ⟨cl_b7_87, Ar_b7, q_b7, S_b7, N_b7, H_b7, G_b7⟩ := V_b7      -- open the array's fact as it stands now (its cell, kind, length, elements)
  have hin87 : ¬ ((0 : Int32) < 0 ∨ cl_b7_87.slots.size ≤ ((0 : Int32)).toNatClampNeg) := inb_of S_b7 ⟨by decide, by decide⟩
  obtain ⟨T8, h8, X8, e8, W8, st8⟩ := stI X7 hx hZ e7 Ar_b7 (j := (0 : Int32)) hin87 (g := (mkF m 87 (own_L p1 q2 q3 q4 q5 p6 (3 : Int32) (1 : Int32) v0 v1 v2 v3 w0 w1 w2 w3 [.val (.ref b7), .unset, .unset, .unset, .unset, .unset]) [(.int v0), (.int (0 : Int32)), (.ref b7)])) rfl rfl (hb hby at_87)
  have Z8 : n0 ≤ h8.size := Nat.le_trans Z7 (Keep.of_wr W8).1
  have V_b7_8 := Arv.set Ar_b7 q_b7 S_b7 N_b7 H_b7 G_b7 rfl W8 0 rfl (Nat.le_of_ble_eq_true rfl)      -- the array as it stands now (the place must lie among its first values: Arv.pad with pad_rep lengthens them)
  have K8 : Keep h0 h8 [] := K7.wr W8 (Or.inr sz_b7)
  have N8 := Fr.snoc X8 N0 g_b7
  obtain ⟨cl_b7_99, Ar_b7, q_b7, S_b7, N_b7, H_b7, G_b7⟩ := V_b7_8      -- open the array's fact as it stands now (its cell, kind, length, elements)
  have hin99 : ¬ ((1 : Int32) < 0 ∨ cl_b7_99.slots.size ≤ ((1 : Int32)).toNatClampNeg) := inb_of S_b7 ⟨by decide, by decide⟩
  obtain ⟨T9, h9, X9, e9, W9, st9⟩ := stI X8 hx hZ e8 Ar_b7 (j := (1 : Int32)) hin99 (g := (mkF m 99 (own_L p1 q2 q3 q4 q5 p6 (3 : Int32) (1 : Int32) v0 v1 v2 v3 w0 w1 w2 w3 [.val (.ref b7), .unset, .unset, .unset, .unset, .unset]) [(.int v1), (.int (1 : Int32)), (.ref b7)])) rfl rfl (hb hby at_99)
  have Z9 : n0 ≤ h9.size := Nat.le_trans Z8 (Keep.of_wr W9).1
  have V_b7_9 := Arv.set Ar_b7 q_b7 S_b7 N_b7 H_b7 G_b7 rfl W9 1 rfl (Nat.le_of_ble_eq_true rfl)      -- the array as it stands now (the place must lie among its first values: Arv.pad with pad_rep lengthens them)
  have K9 : Keep h0 h9 [] := K8.wr W9 (Or.inr sz_b7)
  have N9 := Fr.snoc X9 N8 g_b7
  obtain ⟨cl_b7_111, Ar_b7, q_b7, S_b7, N_b7, H_b7, G_b7⟩ := V_b7_9      -- open the array's fact as it stands now (its cell, kind, length, elements)
  have hin111 : ¬ ((2 : Int32) < 0 ∨ cl_b7_111.slots.size ≤ ((2 : Int32)).toNatClampNeg) := inb_of S_b7 ⟨by decide, by decide⟩
  obtain ⟨T10, h10, X10, e10, W10, st10⟩ := stI X9 hx hZ e9 Ar_b7 (j := (2 : Int32)) hin111 (g := (mkF m 111 (own_L p1 q2 q3 q4 q5 p6 (3 : Int32) (1 : Int32) v0 v1 v2 v3 w0 w1 w2 w3 [.val (.ref b7), .unset, .unset, .unset, .unset, .unset]) [(.int v2), (.int (2 : Int32)), (.ref b7)])) rfl rfl (hb hby at_111)
  have Z10 : n0 ≤ h10.size := Nat.le_trans Z9 (Keep.of_wr W10).1
  have V_b7_10 := Arv.set Ar_b7 q_b7 S_b7 N_b7 H_b7 G_b7 rfl W10 2 rfl (Nat.le_of_ble_eq_true rfl)      -- the array as it stands now (the place must lie among its first values: Arv.pad with pad_rep lengthens them)
  have K10 : Keep h0 h10 [] := K9.wr W10 (Or.inr sz_b7)
  have N10 := Fr.snoc X10 N9 g_b7
  have jmp_124 : ∀ target, Steps p.tables e below (T10.setTop (mkF m 131 (own_L p1 q2 q3 q4 q5 p6 (3 : Int32) (1 : Int32) v0 v1 v2 v3 w0 w1 w2 w3 [.val (.ref b7), .val (.int (4 : Int32)), .unset, .unset, .unset, .unset]) [])) target → Steps p.tables e below (T10.setTop (mkF m 124 (own_L p1 q2 q3 q4 q5 p6 (3 : Int32) (1 : Int32) v0 v1 v2 v3 w0 w1 w2 w3 [.val (.ref b7), .unset, .unset, .unset, .unset, .unset]) [])) target := by
    intro target kt
    · have hm : (3 : Int32) + (1 : Int32) = (4 : Int32) := by decide
      show Steps p.tables e below (T10.setTop (mkF m 124 (own_L p1 q2 q3 q4 q5 p6 (3 : Int32) (1 : Int32) v0 v1 v2 v3 w0 w1 w2 w3 [.val (.ref b7), .unset, .unset, .unset, .unset, .unset]) [])) _
      refine XS.iload X10.here hx rfl (hb hby at_124) rfl ?_
      show Steps p.tables e below (T10.setTop (mkF m 126 (own_L p1 q2 q3 q4 q5 p6 (3 : Int32) (1 : Int32) v0 v1 v2 v3 w0 w1 w2 w3 [.val (.ref b7), .unset, .unset, .unset, .unset, .unset]) [(.int (3 : Int32))])) _
      refine XS.iload X10.here hx rfl (hb hby at_126) rfl ?_
      show Steps p.tables e below (T10.setTop (mkF m 128 (own_L p1 q2 q3 q4 q5 p6 (3 : Int32) (1 : Int32) v0 v1 v2 v3 w0 w1 w2 w3 [.val (.ref b7), .unset, .unset, .unset, .unset, .unset]) [(.int (1 : Int32)), (.int (3 : Int32))])) _
      refine XS.iadd X10.here hx rfl (hb hby at_128) rfl ?_
      show Steps p.tables e below (T10.setTop (mkF m 129 (own_L p1 q2 q3 q4 q5 p6 (3 : Int32) (1 : Int32) v0 v1 v2 v3 w0 w1 w2 w3 [.val (.ref b7), .unset, .unset, .unset, .unset, .unset]) [(.int ((3 : Int32) + (1 : Int32)))])) _
      refine XS.istore X10.here hx rfl (hb hby at_129) rfl (l' := (own_L p1 q2 q3 q4 q5 p6 (3 : Int32) (1 : Int32) v0 v1 v2 v3 w0 w1 w2 w3 [.val (.ref b7), .val (.int ((3 : Int32) + (1 : Int32))), .unset, .unset, .unset, .unset])) rfl ?_
      exact castTop (by rw [hm]) kt
  obtain ⟨T11, h11, k11, X11, e11, E11, A11, I11, st11⟩ := newPE X10 hx hZ (hw _ (List.mem_of_getElem? (i := 1) rfl)) e10 (g := (mkF m 133 (own_L p1 q2 q3 q4 q5 p6 (3 : Int32) (1 : Int32) v0 v1 v2 v3 w0 w1 w2 w3 [.val (.ref b7), .val (.int (4 : Int32)), .unset, .unset, .unset, .unset]) [(.int (4 : Int32))])) rfl (hb hby at_133) rfl (by decide) (cap := 4) (by decide) (by decide) (by decide) (by decide) (ad := "[I") rfl
  obtain ⟨b11, g11⟩ : ∃ z, z = h10.size := ⟨_, rfl⟩      -- the fresh array's address
  have Z11 : n0 ≤ h11.size := Nat.le_trans Z10 E11.1
  rw [← g11] at A11 I11 st11
  have V_b11 : Arv Z h11 b11 k11 .int (4 : Int32) [(.int (0 : Int32)), (.int (0 : Int32)), (.int (0 : Int32)), (.int (0 : Int32))] (.int (0 : Int32)) := (Arv.new A11 (by decide)).pad (pad_rep [] (.int (0 : Int32)) 4)
  have g_b11 : n0 ≤ b11 := Nat.le_trans (Nat.le_trans (Nat.le_trans (Nat.le_trans (Nat.le_trans Z0 E7.1) (Keep.of_wr W8).1) (Keep.of_wr W9).1) (Keep.of_wr W10).1) (Nat.le_of_eq g11.symm)
  have sz_b11 : h0.size ≤ b11 := (Nat.le_trans K10.1 (Nat.le_of_eq g11.symm))
  have K11 : Keep h0 h11 [] := K10.ext E11
  obtain ⟨cl_b11_147, Ar_b11, q_b11, S_b11, N_b11, H_b11, G_b11⟩ := V_b11      -- open the array's fact as it stands now (its cell, kind, length, elements)
  have hin147 : ¬ ((0 : Int32) < 0 ∨ cl_b11_147.slots.size ≤ ((0 : Int32)).toNatClampNeg) := inb_of S_b11 ⟨by decide, by decide⟩
  obtain ⟨T12, h12, X12, e12, W12, st12⟩ := stI X11 hx hZ e11 Ar_b11 (j := (0 : Int32)) hin147 (g := (mkF m 147 (own_L p1 q2 q3 q4 q5 p6 (3 : Int32) (1 : Int32) v0 v1 v2 v3 w0 w1 w2 w3 [.val (.ref b7), .val (.int (4 : Int32)), .val (.ref b11), .unset, .unset, .unset]) [(.int w0), (.int (0 : Int32)), (.ref b11)])) rfl rfl (hb hby at_147)
  have Z12 : n0 ≤ h12.size := Nat.le_trans Z11 (Keep.of_wr W12).1
  have V_b11_12 := Arv.set Ar_b11 q_b11 S_b11 N_b11 H_b11 G_b11 rfl W12 0 rfl (Nat.le_of_ble_eq_true rfl)      -- the array as it stands now (the place must lie among its first values: Arv.pad with pad_rep lengthens them)
  have K12 : Keep h0 h12 [] := K11.wr W12 (Or.inr sz_b11)
  have N12 := Fr.snoc X12 N10 g_b11
  obtain ⟨cl_b11_159, Ar_b11, q_b11, S_b11, N_b11, H_b11, G_b11⟩ := V_b11_12      -- open the array's fact as it stands now (its cell, kind, length, elements)
  have hin159 : ¬ ((1 : Int32) < 0 ∨ cl_b11_159.slots.size ≤ ((1 : Int32)).toNatClampNeg) := inb_of S_b11 ⟨by decide, by decide⟩
  obtain ⟨T13, h13, X13, e13, W13, st13⟩ := stI X12 hx hZ e12 Ar_b11 (j := (1 : Int32)) hin159 (g := (mkF m 159 (own_L p1 q2 q3 q4 q5 p6 (3 : Int32) (1 : Int32) v0 v1 v2 v3 w0 w1 w2 w3 [.val (.ref b7), .val (.int (4 : Int32)), .val (.ref b11), .unset, .unset, .unset]) [(.int w1), (.int (1 : Int32)), (.ref b11)])) rfl rfl (hb hby at_159)
  have Z13 : n0 ≤ h13.size := Nat.le_trans Z12 (Keep.of_wr W13).1
  have V_b11_13 := Arv.set Ar_b11 q_b11 S_b11 N_b11 H_b11 G_b11 rfl W13 1 rfl (Nat.le_of_ble_eq_true rfl)      -- the array as it stands now (the place must lie among its first values: Arv.pad with pad_rep lengthens them)
  have K13 : Keep h0 h13 [] := K12.wr W13 (Or.inr sz_b11)
  have N13 := Fr.snoc X13 N12 g_b11
  obtain ⟨cl_b11_171, Ar_b11, q_b11, S_b11, N_b11, H_b11, G_b11⟩ := V_b11_13      -- open the array's fact as it stands now (its cell, kind, length, elements)
  have hin171 : ¬ ((2 : Int32) < 0 ∨ cl_b11_171.slots.size ≤ ((2 : Int32)).toNatClampNeg) := inb_of S_b11 ⟨by decide, by decide⟩
  obtain ⟨T14, h14, X14, e14, W14, st14⟩ := stI X13 hx hZ e13 Ar_b11 (j := (2 : Int32)) hin171 (g := (mkF m 171 (own_L p1 q2 q3 q4 q5 p6 (3 : Int32) (1 : Int32) v0 v1 v2 v3 w0 w1 w2 w3 [.val (.ref b7), .val (.int (4 : Int32)), .val (.ref b11), .unset, .unset, .unset]) [(.int w2), (.int (2 : Int32)), (.ref b11)])) rfl rfl (hb hby at_171)
  have Z14 : n0 ≤ h14.size := Nat.le_trans Z13 (Keep.of_wr W14).1
  have V_b11_14 := Arv.set Ar_b11 q_b11 S_b11 N_b11 H_b11 G_b11 rfl W14 2 rfl (Nat.le_of_ble_eq_true rfl)      -- the array as it stands now (the place must lie among its first values: Arv.pad with pad_rep lengthens them)
  have K14 : Keep h0 h14 [] := K13.wr W14 (Or.inr sz_b11)
  have N14 := Fr.snoc X14 N13 g_b11
  obtain ⟨cl_b11_183, Ar_b11, q_b11, S_b11, N_b11, H_b11, G_b11⟩ := V_b11_14      -- open the array's fact as it stands now (its cell, kind, length, elements)
  have hin183 : ¬ ((3 : Int32) < 0 ∨ cl_b11_183.slots.size ≤ ((3 : Int32)).toNatClampNeg) := inb_of S_b11 ⟨by decide, by decide⟩
  obtain ⟨T15, h15, X15, e15, W15, st15⟩ := stI X14 hx hZ e14 Ar_b11 (j := (3 : Int32)) hin183 (g := (mkF m 183 (own_L p1 q2 q3 q4 q5 p6 (3 : Int32) (1 : Int32) v0 v1 v2 v3 w0 w1 w2 w3 [.val (.ref b7), .val (.int (4 : Int32)), .val (.ref b11), .unset, .unset, .unset]) [(.int w3), (.int (3 : Int32)), (.ref b11)])) rfl rfl (hb hby at_183)
  have Z15 : n0 ≤ h15.size := Nat.le_trans Z14 (Keep.of_wr W15).1
  have V_b11_15 := Arv.set Ar_b11 q_b11 S_b11 N_b11 H_b11 G_b11 rfl W15 3 rfl (Nat.le_of_ble_eq_true rfl)      -- the array as it stands now (the place must lie among its first values: Arv.pad with pad_rep lengthens them)
  have K15 : Keep h0 h15 [] := K14.wr W15 (Or.inr sz_b11)
  have N15 := Fr.snoc X15 N14 g_b11
  obtain ⟨T16, h16, X16, e16, E16, A16, D16, -, st16⟩ := newO X15 hx hZ hown (hw _ (List.mem_of_getElem? (i := 2) rfl)) (hw _ (List.mem_of_getElem? (i := 3) rfl)) (hw _ (List.mem_of_getElem? (i := 4) rfl)) e15 (g := (mkF m 196 (own_L p1 q2 q3 q4 q5 p6 (3 : Int32) (1 : Int32) v0 v1 v2 v3 w0 w1 w2 w3 [.val (.ref b7), .val (.int (4 : Int32)), .val (.ref b11), .unset, .unset, .unset]) [])) rfl (hb hby at_196) (by decide) (by decide)
  obtain ⟨b16, g16⟩ : ∃ z, z = h15.size := ⟨_, rfl⟩      -- the fresh object's address
  have Z16 : n0 ≤ h16.size := Nat.le_trans Z15 E16.1
  rw [← g16] at A16 D16 st16      -- A16 : Exa Z h16 b16 "com/example/stagecraft/stagecraft/examples/GenericDotProduct"; E16 : Ext h15 h16 (carries every older fact: .ext E16)
  have F_fixed_b16 : Fld Z h16 b16 "com/example/stagecraft/stagecraft/examples/GenericDotProduct" "fixed" "[I" .null := D16 (Or.inr (hw _ (List.mem_of_getElem? (i := 21) rfl))) (ty := (.array .int)) (by decide)
  have E_b16 := A16
  have g_b16 : n0 ≤ b16 := Nat.le_trans (Nat.le_trans (Nat.le_trans (Nat.le_trans (Nat.le_trans (Nat.le_trans (Nat.le_trans (Nat.le_trans (Nat.le_trans (Nat.le_trans Z0 E7.1) (Keep.of_wr W8).1) (Keep.of_wr W9).1) (Keep.of_wr W10).1) E11.1) (Keep.of_wr W12).1) (Keep.of_wr W13).1) (Keep.of_wr W14).1) (Keep.of_wr W15).1) (Nat.le_of_eq g16.symm)
  have sz_b16 : h0.size ≤ b16 := (Nat.le_trans K15.1 (Nat.le_of_eq g16.symm))
  have K16 : Keep h0 h16 [] := K15.ext E16
  have CV1_b7 := ((((((V_b7_10.ext E11).other W12 (Nat.ne_of_lt (Nat.lt_of_lt_of_le V_b7_10.lt (Nat.le_of_eq g11.symm)))).other W13 (Nat.ne_of_lt (Nat.lt_of_lt_of_le V_b7_10.lt (Nat.le_of_eq g11.symm)))).other W14 (Nat.ne_of_lt (Nat.lt_of_lt_of_le V_b7_10.lt (Nat.le_of_eq g11.symm)))).other W15 (Nat.ne_of_lt (Nat.lt_of_lt_of_le V_b7_10.lt (Nat.le_of_eq g11.symm)))).ext E16)
  have CE1_b7 := (((((((((I7.wr W8).wr W9).wr W10).ext E11).wr W12).wr W13).wr W14).wr W15).ext E16)
  have CV1_b11 := (V_b11_15.ext E16)
  have CE1_b11 := (((((I11.wr W12).wr W13).wr W14).wr W15).ext E16)
  have CE1_b16 := E_b16
  -- pc 202: the constructor of com/example/stagecraft/stagecraft/examples/GenericDotProduct by its contract rm1
  obtain ⟨_, _, ⟨T17, L17, k17, n17⟩, -, X17, ⟨Lc17, hQ17, l17, y17, z17⟩, st17⟩ := X16.specialBack hx (y := (⟨"com/example/stagecraft/stagecraft/examples/GenericDotProduct", "<init>", "([I)V"⟩ : MethodName)) rfl hown (mvT hZ (hw _ (List.mem_of_getElem? (i := 5) rfl))) (mvT hZ (hw _ (List.mem_of_getElem? (i := 6) rfl))) (mvT hZ (hw _ (List.mem_of_getElem? (i := 7) rfl))) (by decide) (backOf (W := 1) (rm1 l Z a0 hw [] b16 b7 k7 (3 : Int32) [(.int v0), (.int v1), (.int v2)] .null h16 n0 Z16 CV1_b7 (by decide) CE1_b7 E_b16 F_fixed_b16 g_b16) hZ (hw _ (List.mem_of_getElem? (i := 7) rfl)) (hw _ (List.mem_of_getElem? (i := 4) rfl)) (by decide) (by decide)) (g := (mkF m 202 (own_L p1 q2 q3 q4 q5 p6 (3 : Int32) (1 : Int32) v0 v1 v2 v3 w0 w1 w2 w3 [.val (.ref b7), .val (.int (4 : Int32)), .val (.ref b11), .unset, .unset, .unset]) [(.ref b7), (.ref b16), (.ref b16)])) rfl (by rw [hml]; rfl) (Steps.refl _) (a := b16) (argsL := [(.ref b7)]) (rest := [(.ref b16)]) (lenOf pd_0_0 rfl) rfl (by show 2 * 0 + _ ≤ _; exact Nat.le_of_eq rfl) (hb hby at_202) (fun _ _ => ⟨rfl, e16, (by decide : 3 + 1 ≤ _), (by decide : 8 + 4 ≤ _)⟩)
  dsimp only [Pt.U, Pt.locs, Pt.cells, Pt.slots] at X17 l17 y17 z17 st17 hQ17
  subst l17 y17 z17
  obtain ⟨rfl, N17q, K17q, E17x, t17, F17a, V17a⟩ := hQ17
  have Z17 : n0 ≤ T17.heap.size := Nat.le_trans Z16 K17q.1
  have N17 := Fr.app N15 N17q
  have CE2_b7 := ((((((((((I7.wr W8).wr W9).wr W10).ext E11).wr W12).wr W13).wr W14).wr W15).ext E16).keep K17q)
  have CE2_b11 := ((((((I11.wr W12).wr W13).wr W14).wr W15).ext E16).keep K17q)
  have CE2_b16 := (E_b16.keep K17q)
  -- pc 211: com/example/stagecraft/stagecraft/examples/GenericDotProduct.apply by the contract of the body that the receiver's class selects, rm3
  obtain ⟨cq18, kq18, q18a, q18b, q18c⟩ := isOf hZ rfl (E_b16.keep K17q)
  obtain ⟨_, _, ⟨T18, L18, k18, n18⟩, -, X18, ⟨Lc18, hQ18, l18, y18, z18⟩, st18⟩ := X17.virtualBack hx (y := (⟨"com/example/stagecraft/stagecraft/examples/GenericDotProduct", "apply", "([I)I"⟩ : MethodName)) (z := (⟨"com/example/stagecraft/stagecraft/examples/GenericDotProduct", "apply", "([I)I"⟩ : MethodName)) hown (mvT hZ (hw _ (List.mem_of_getElem? (i := 22) rfl))) (mvT hZ (hw _ (List.mem_of_getElem? (i := 23) rfl))) (notFace_of_selects (args := #[]) (mvT hZ (hw _ (List.mem_of_getElem? (i := 25) rfl)))) (mvT hZ (hw _ (List.mem_of_getElem? (i := 25) rfl))) (mvT hZ (hw _ (List.mem_of_getElem? (i := 24) rfl))) (by decide) (backOf (W := 0) (rm3 l Z a0 hw [] b16 b11 t17 k7 k11 (3 : Int32) (4 : Int32) [(.int v0), (.int v1), (.int v2)] [(.int w0), (.int w1), (.int w2), (.int w3)] (fun j => [v0, v1, v2, v3].getD j 0) (fun j => [w0, w1, w2, w3].getD j 0) 3 T17.heap n0 Z17 (by decide) rfl (by decide) F17a V17a (CV1_b11.keep K17q (ninS (Nat.ne_of_lt (Nat.lt_of_lt_of_le V_b11_15.lt (Nat.le_of_eq g16.symm))) nin0)) (fun j hj => by rcases j with _ | _ | _ | _ | j <;> first | rfl | (exfalso; omega)) (fun j hj => by rcases j with _ | _ | _ | _ | j <;> first | rfl | (exfalso; omega))) hZ (hw _ (List.mem_of_getElem? (i := 26) rfl)) (hw _ (List.mem_of_getElem? (i := 4) rfl)) (by decide) (by decide)) q18a q18c (g := (mkF m 211 (own_L p1 q2 q3 q4 q5 p6 (3 : Int32) (1 : Int32) v0 v1 v2 v3 w0 w1 w2 w3 [.val (.ref b7), .val (.int (4 : Int32)), .val (.ref b11), .val (.ref b16), .unset, .unset]) [(.ref b11), (.ref b16)])) rfl (by rw [hml]; rfl) (Steps.refl _) (argsL := [(.ref b11)]) (rest := []) (lenOf pd_0_3 rfl) rfl (by show 2 * 0 + _ ≤ _; exact Nat.le_of_eq rfl) (hb hby at_211) (fun _ _ => ⟨rfl, rfl, (by decide : 4 + 0 ≤ _), (by decide : 12 + 0 ≤ _)⟩)
  dsimp only [Pt.U, Pt.locs, Pt.cells, Pt.slots] at X18 l18 y18 z18 st18 hQ18
  subst l18 y18 z18
  obtain ⟨rfl, N18q, E18q⟩ := hQ18
  have K18q : Keep T17.heap T18.heap [] := by rw [E18q]; exact Keep.refl _ _
  have Z18 : n0 ≤ T18.heap.size := Nat.le_trans Z17 K18q.1
  have N18 := Fr.app N17 N18q
  obtain ⟨fs, hr, hrun, hended, hW, hsame⟩ := X18.leave (v := some (.int (1 : Int32))) (fun h => by rw [Bd.returns] at h; cases h)
  refine ⟨_, _, pre0 _ ?_, hrun, hended, _, _, rfl, ?_, ⟨_, rfl⟩, hW, hsame.mono (by decide) (by decide)⟩
  -- 4. STEPS
  · show Steps p.tables e below (s₁.setTop (mkF m 0 #[.val (.int p1), .val (.long q2), .second, .val (.long q3), .second, .val (.long q4), .second, .val (.long q5), .second, .val (.int p6), .unset, .unset, .unset, .unset, .unset, .unset, .unset, .unset, .unset, .unset, .unset, .unset, .unset, .unset, .unset, .unset, .unset] [])) _
    refine jmp_0 _ ?_
    show Steps p.tables e below (s₁.setTop (mkF m 71 (own_L p1 q2 q3 q4 q5 p6 (3 : Int32) (1 : Int32) v0 v1 v2 v3 w0 w1 w2 w3 [.unset, .unset, .unset, .unset, .unset, .unset]) [])) _
    refine XS.iload X0.here hx rfl (hb hby at_71) rfl ?_
    show Steps p.tables e below (s₁.setTop (mkF m 73 (own_L p1 q2 q3 q4 q5 p6 (3 : Int32) (1 : Int32) v0 v1 v2 v3 w0 w1 w2 w3 [.unset, .unset, .unset, .unset, .unset, .unset]) [(.int (3 : Int32))])) _
    refine st7 _ ?_
    show Steps p.tables e below (T7.setTop (mkF m 75 (own_L p1 q2 q3 q4 q5 p6 (3 : Int32) (1 : Int32) v0 v1 v2 v3 w0 w1 w2 w3 [.unset, .unset, .unset, .unset, .unset, .unset]) [(.ref b7)])) _
    refine XS.astore X7.here hx rfl (hb hby at_75) rfl rfl (l' := (own_L p1 q2 q3 q4 q5 p6 (3 : Int32) (1 : Int32) v0 v1 v2 v3 w0 w1 w2 w3 [.val (.ref b7), .unset, .unset, .unset, .unset, .unset])) rfl ?_
    show Steps p.tables e below (T7.setTop (mkF m 77 (own_L p1 q2 q3 q4 q5 p6 (3 : Int32) (1 : Int32) v0 v1 v2 v3 w0 w1 w2 w3 [.val (.ref b7), .unset, .unset, .unset, .unset, .unset]) [])) _
    refine XS.iload X7.here hx rfl (hb hby at_77) rfl ?_
    show Steps p.tables e below (T7.setTop (mkF m 79 (own_L p1 q2 q3 q4 q5 p6 (3 : Int32) (1 : Int32) v0 v1 v2 v3 w0 w1 w2 w3 [.val (.ref b7), .unset, .unset, .unset, .unset, .unset]) [(.int (3 : Int32))])) _
    refine XS.ifNo X7.here hx rfl (hb hby at_79) rfl ((if0 _ _).trans (tlt (by decide : (0 : Int32) < (3 : Int32))).2.2.2) ?_
    show Steps p.tables e below (T7.setTop (mkF m 82 (own_L p1 q2 q3 q4 q5 p6 (3 : Int32) (1 : Int32) v0 v1 v2 v3 w0 w1 w2 w3 [.val (.ref b7), .unset, .unset, .unset, .unset, .unset]) [])) _
    refine XS.aload X7.here hx rfl (hb hby at_82) rfl rfl ?_
    show Steps p.tables e below (T7.setTop (mkF m 84 (own_L p1 q2 q3 q4 q5 p6 (3 : Int32) (1 : Int32) v0 v1 v2 v3 w0 w1 w2 w3 [.val (.ref b7), .unset, .unset, .unset, .unset, .unset]) [(.ref b7)])) _
    refine XS.iconst X7.here hx rfl (hb hby at_84) ?_
    show Steps p.tables e below (T7.setTop (mkF m 85 (own_L p1 q2 q3 q4 q5 p6 (3 : Int32) (1 : Int32) v0 v1 v2 v3 w0 w1 w2 w3 [.val (.ref b7), .unset, .unset, .unset, .unset, .unset]) [(.int (0 : Int32)), (.ref b7)])) _
    refine XS.iload X7.here hx rfl (hb hby at_85) rfl ?_
    show Steps p.tables e below (T7.setTop (mkF m 87 (own_L p1 q2 q3 q4 q5 p6 (3 : Int32) (1 : Int32) v0 v1 v2 v3 w0 w1 w2 w3 [.val (.ref b7), .unset, .unset, .unset, .unset, .unset]) [(.int v0), (.int (0 : Int32)), (.ref b7)])) _
    refine st8 _ ?_
    show Steps p.tables e below (T8.setTop (mkF m 88 (own_L p1 q2 q3 q4 q5 p6 (3 : Int32) (1 : Int32) v0 v1 v2 v3 w0 w1 w2 w3 [.val (.ref b7), .unset, .unset, .unset, .unset, .unset]) [])) _
    refine XS.iload X8.here hx rfl (hb hby at_88) rfl ?_
    show Steps p.tables e below (T8.setTop (mkF m 90 (own_L p1 q2 q3 q4 q5 p6 (3 : Int32) (1 : Int32) v0 v1 v2 v3 w0 w1 w2 w3 [.val (.ref b7), .unset, .unset, .unset, .unset, .unset]) [(.int (3 : Int32))])) _
    refine XS.iconst X8.here hx rfl (hb hby at_90) ?_
    show Steps p.tables e below (T8.setTop (mkF m 91 (own_L p1 q2 q3 q4 q5 p6 (3 : Int32) (1 : Int32) v0 v1 v2 v3 w0 w1 w2 w3 [.val (.ref b7), .unset, .unset, .unset, .unset, .unset]) [(.int (1 : Int32)), (.int (3 : Int32))])) _
    refine XS.icmpNo X8.here hx rfl (hb hby at_91) rfl (tlt (by decide : (1 : Int32) < (3 : Int32))).2.2.2 ?_
    show Steps p.tables e below (T8.setTop (mkF m 94 (own_L p1 q2 q3 q4 q5 p6 (3 : Int32) (1 : Int32) v0 v1 v2 v3 w0 w1 w2 w3 [.val (.ref b7), .unset, .unset, .unset, .unset, .unset]) [])) _
    refine XS.aload X8.here hx rfl (hb hby at_94) rfl rfl ?_
    show Steps p.tables e below (T8.setTop (mkF m 96 (own_L p1 q2 q3 q4 q5 p6 (3 : Int32) (1 : Int32) v0 v1 v2 v3 w0 w1 w2 w3 [.val (.ref b7), .unset, .unset, .unset, .unset, .unset]) [(.ref b7)])) _
    refine XS.iconst X8.here hx rfl (hb hby at_96) ?_
    show Steps p.tables e below (T8.setTop (mkF m 97 (own_L p1 q2 q3 q4 q5 p6 (3 : Int32) (1 : Int32) v0 v1 v2 v3 w0 w1 w2 w3 [.val (.ref b7), .unset, .unset, .unset, .unset, .unset]) [(.int (1 : Int32)), (.ref b7)])) _
    refine XS.iload X8.here hx rfl (hb hby at_97) rfl ?_
    show Steps p.tables e below (T8.setTop (mkF m 99 (own_L p1 q2 q3 q4 q5 p6 (3 : Int32) (1 : Int32) v0 v1 v2 v3 w0 w1 w2 w3 [.val (.ref b7), .unset, .unset, .unset, .unset, .unset]) [(.int v1), (.int (1 : Int32)), (.ref b7)])) _
    refine st9 _ ?_
    show Steps p.tables e below (T9.setTop (mkF m 100 (own_L p1 q2 q3 q4 q5 p6 (3 : Int32) (1 : Int32) v0 v1 v2 v3 w0 w1 w2 w3 [.val (.ref b7), .unset, .unset, .unset, .unset, .unset]) [])) _
    refine XS.iload X9.here hx rfl (hb hby at_100) rfl ?_
    show Steps p.tables e below (T9.setTop (mkF m 102 (own_L p1 q2 q3 q4 q5 p6 (3 : Int32) (1 : Int32) v0 v1 v2 v3 w0 w1 w2 w3 [.val (.ref b7), .unset, .unset, .unset, .unset, .unset]) [(.int (3 : Int32))])) _
    refine XS.iconst X9.here hx rfl (hb hby at_102) ?_
    show Steps p.tables e below (T9.setTop (mkF m 103 (own_L p1 q2 q3 q4 q5 p6 (3 : Int32) (1 : Int32) v0 v1 v2 v3 w0 w1 w2 w3 [.val (.ref b7), .unset, .unset, .unset, .unset, .unset]) [(.int (2 : Int32)), (.int (3 : Int32))])) _
    refine XS.icmpNo X9.here hx rfl (hb hby at_103) rfl (tlt (by decide : (2 : Int32) < (3 : Int32))).2.2.2 ?_
    show Steps p.tables e below (T9.setTop (mkF m 106 (own_L p1 q2 q3 q4 q5 p6 (3 : Int32) (1 : Int32) v0 v1 v2 v3 w0 w1 w2 w3 [.val (.ref b7), .unset, .unset, .unset, .unset, .unset]) [])) _
    refine XS.aload X9.here hx rfl (hb hby at_106) rfl rfl ?_
    show Steps p.tables e below (T9.setTop (mkF m 108 (own_L p1 q2 q3 q4 q5 p6 (3 : Int32) (1 : Int32) v0 v1 v2 v3 w0 w1 w2 w3 [.val (.ref b7), .unset, .unset, .unset, .unset, .unset]) [(.ref b7)])) _
    refine XS.iconst X9.here hx rfl (hb hby at_108) ?_
    show Steps p.tables e below (T9.setTop (mkF m 109 (own_L p1 q2 q3 q4 q5 p6 (3 : Int32) (1 : Int32) v0 v1 v2 v3 w0 w1 w2 w3 [.val (.ref b7), .unset, .unset, .unset, .unset, .unset]) [(.int (2 : Int32)), (.ref b7)])) _
    refine XS.iload X9.here hx rfl (hb hby at_109) rfl ?_
    show Steps p.tables e below (T9.setTop (mkF m 111 (own_L p1 q2 q3 q4 q5 p6 (3 : Int32) (1 : Int32) v0 v1 v2 v3 w0 w1 w2 w3 [.val (.ref b7), .unset, .unset, .unset, .unset, .unset]) [(.int v2), (.int (2 : Int32)), (.ref b7)])) _
    refine st10 _ ?_
    show Steps p.tables e below (T10.setTop (mkF m 112 (own_L p1 q2 q3 q4 q5 p6 (3 : Int32) (1 : Int32) v0 v1 v2 v3 w0 w1 w2 w3 [.val (.ref b7), .unset, .unset, .unset, .unset, .unset]) [])) _
    refine XS.iload X10.here hx rfl (hb hby at_112) rfl ?_
    show Steps p.tables e below (T10.setTop (mkF m 114 (own_L p1 q2 q3 q4 q5 p6 (3 : Int32) (1 : Int32) v0 v1 v2 v3 w0 w1 w2 w3 [.val (.ref b7), .unset, .unset, .unset, .unset, .unset]) [(.int (3 : Int32))])) _
    refine XS.iconst X10.here hx rfl (hb hby at_114) ?_
    show Steps p.tables e below (T10.setTop (mkF m 115 (own_L p1 q2 q3 q4 q5 p6 (3 : Int32) (1 : Int32) v0 v1 v2 v3 w0 w1 w2 w3 [.val (.ref b7), .unset, .unset, .unset, .unset, .unset]) [(.int (3 : Int32)), (.int (3 : Int32))])) _
    refine XS.icmpYes X10.here hx rfl (pc0 := 115) (pc' := 124) rfl (hb hby at_115) rfl (flt (by decide : ¬ ((3 : Int32) < (3 : Int32)))).2.2.2 (by decide) (by decide) ?_
    show Steps p.tables e below (T10.setTop (mkF m 124 (own_L p1 q2 q3 q4 q5 p6 (3 : Int32) (1 : Int32) v0 v1 v2 v3 w0 w1 w2 w3 [.val (.ref b7), .unset, .unset, .unset, .unset, .unset]) [])) _
    refine jmp_124 _ ?_
    show Steps p.tables e below (T10.setTop (mkF m 131 (own_L p1 q2 q3 q4 q5 p6 (3 : Int32) (1 : Int32) v0 v1 v2 v3 w0 w1 w2 w3 [.val (.ref b7), .val (.int (4 : Int32)), .unset, .unset, .unset, .unset]) [])) _
    refine XS.iload X10.here hx rfl (hb hby at_131) rfl ?_
    show Steps p.tables e below (T10.setTop (mkF m 133 (own_L p1 q2 q3 q4 q5 p6 (3 : Int32) (1 : Int32) v0 v1 v2 v3 w0 w1 w2 w3 [.val (.ref b7), .val (.int (4 : Int32)), .unset, .unset, .unset, .unset]) [(.int (4 : Int32))])) _
    refine st11 _ ?_
    show Steps p.tables e below (T11.setTop (mkF m 135 (own_L p1 q2 q3 q4 q5 p6 (3 : Int32) (1 : Int32) v0 v1 v2 v3 w0 w1 w2 w3 [.val (.ref b7), .val (.int (4 : Int32)), .unset, .unset, .unset, .unset]) [(.ref b11)])) _
    refine XS.astore X11.here hx rfl (hb hby at_135) rfl rfl (l' := (own_L p1 q2 q3 q4 q5 p6 (3 : Int32) (1 : Int32) v0 v1 v2 v3 w0 w1 w2 w3 [.val (.ref b7), .val (.int (4 : Int32)), .val (.ref b11), .unset, .unset, .unset])) rfl ?_
    show Steps p.tables e below (T11.setTop (mkF m 137 (own_L p1 q2 q3 q4 q5 p6 (3 : Int32) (1 : Int32) v0 v1 v2 v3 w0 w1 w2 w3 [.val (.ref b7), .val (.int (4 : Int32)), .val (.ref b11), .unset, .unset, .unset]) [])) _
    refine XS.iload X11.here hx rfl (hb hby at_137) rfl ?_
    show Steps p.tables e below (T11.setTop (mkF m 139 (own_L p1 q2 q3 q4 q5 p6 (3 : Int32) (1 : Int32) v0 v1 v2 v3 w0 w1 w2 w3 [.val (.ref b7), .val (.int (4 : Int32)), .val (.ref b11), .unset, .unset, .unset]) [(.int (4 : Int32))])) _
    refine XS.ifNo X11.here hx rfl (hb hby at_139) rfl ((if0 _ _).trans (tlt (by decide : (0 : Int32) < (4 : Int32))).2.2.2) ?_
    show Steps p.tables e below (T11.setTop (mkF m 142 (own_L p1 q2 q3 q4 q5 p6 (3 : Int32) (1 : Int32) v0 v1 v2 v3 w0 w1 w2 w3 [.val (.ref b7), .val (.int (4 : Int32)), .val (.ref b11), .unset, .unset, .unset]) [])) _
    refine XS.aload X11.here hx rfl (hb hby at_142) rfl rfl ?_
    show Steps p.tables e below (T11.setTop (mkF m 144 (own_L p1 q2 q3 q4 q5 p6 (3 : Int32) (1 : Int32) v0 v1 v2 v3 w0 w1 w2 w3 [.val (.ref b7), .val (.int (4 : Int32)), .val (.ref b11), .unset, .unset, .unset]) [(.ref b11)])) _
    refine XS.iconst X11.here hx rfl (hb hby at_144) ?_
    show Steps p.tables e below (T11.setTop (mkF m 145 (own_L p1 q2 q3 q4 q5 p6 (3 : Int32) (1 : Int32) v0 v1 v2 v3 w0 w1 w2 w3 [.val (.ref b7), .val (.int (4 : Int32)), .val (.ref b11), .unset, .unset, .unset]) [(.int (0 : Int32)), (.ref b11)])) _
    refine XS.iload X11.here hx rfl (hb hby at_145) rfl ?_
    show Steps p.tables e below (T11.setTop (mkF m 147 (own_L p1 q2 q3 q4 q5 p6 (3 : Int32) (1 : Int32) v0 v1 v2 v3 w0 w1 w2 w3 [.val (.ref b7), .val (.int (4 : Int32)), .val (.ref b11), .unset, .unset, .unset]) [(.int w0), (.int (0 : Int32)), (.ref b11)])) _
    refine st12 _ ?_
    show Steps p.tables e below (T12.setTop (mkF m 148 (own_L p1 q2 q3 q4 q5 p6 (3 : Int32) (1 : Int32) v0 v1 v2 v3 w0 w1 w2 w3 [.val (.ref b7), .val (.int (4 : Int32)), .val (.ref b11), .unset, .unset, .unset]) [])) _
    refine XS.iload X12.here hx rfl (hb hby at_148) rfl ?_
    show Steps p.tables e below (T12.setTop (mkF m 150 (own_L p1 q2 q3 q4 q5 p6 (3 : Int32) (1 : Int32) v0 v1 v2 v3 w0 w1 w2 w3 [.val (.ref b7), .val (.int (4 : Int32)), .val (.ref b11), .unset, .unset, .unset]) [(.int (4 : Int32))])) _
    refine XS.iconst X12.here hx rfl (hb hby at_150) ?_
    show Steps p.tables e below (T12.setTop (mkF m 151 (own_L p1 q2 q3 q4 q5 p6 (3 : Int32) (1 : Int32) v0 v1 v2 v3 w0 w1 w2 w3 [.val (.ref b7), .val (.int (4 : Int32)), .val (.ref b11), .unset, .unset, .unset]) [(.int (1 : Int32)), (.int (4 : Int32))])) _
    refine XS.icmpNo X12.here hx rfl (hb hby at_151) rfl (tlt (by decide : (1 : Int32) < (4 : Int32))).2.2.2 ?_
    show Steps p.tables e below (T12.setTop (mkF m 154 (own_L p1 q2 q3 q4 q5 p6 (3 : Int32) (1 : Int32) v0 v1 v2 v3 w0 w1 w2 w3 [.val (.ref b7), .val (.int (4 : Int32)), .val (.ref b11), .unset, .unset, .unset]) [])) _
    refine XS.aload X12.here hx rfl (hb hby at_154) rfl rfl ?_
    show Steps p.tables e below (T12.setTop (mkF m 156 (own_L p1 q2 q3 q4 q5 p6 (3 : Int32) (1 : Int32) v0 v1 v2 v3 w0 w1 w2 w3 [.val (.ref b7), .val (.int (4 : Int32)), .val (.ref b11), .unset, .unset, .unset]) [(.ref b11)])) _
    refine XS.iconst X12.here hx rfl (hb hby at_156) ?_
    show Steps p.tables e below (T12.setTop (mkF m 157 (own_L p1 q2 q3 q4 q5 p6 (3 : Int32) (1 : Int32) v0 v1 v2 v3 w0 w1 w2 w3 [.val (.ref b7), .val (.int (4 : Int32)), .val (.ref b11), .unset, .unset, .unset]) [(.int (1 : Int32)), (.ref b11)])) _
    refine XS.iload X12.here hx rfl (hb hby at_157) rfl ?_
    show Steps p.tables e below (T12.setTop (mkF m 159 (own_L p1 q2 q3 q4 q5 p6 (3 : Int32) (1 : Int32) v0 v1 v2 v3 w0 w1 w2 w3 [.val (.ref b7), .val (.int (4 : Int32)), .val (.ref b11), .unset, .unset, .unset]) [(.int w1), (.int (1 : Int32)), (.ref b11)])) _
    refine st13 _ ?_
    show Steps p.tables e below (T13.setTop (mkF m 160 (own_L p1 q2 q3 q4 q5 p6 (3 : Int32) (1 : Int32) v0 v1 v2 v3 w0 w1 w2 w3 [.val (.ref b7), .val (.int (4 : Int32)), .val (.ref b11), .unset, .unset, .unset]) [])) _
    refine XS.iload X13.here hx rfl (hb hby at_160) rfl ?_
    show Steps p.tables e below (T13.setTop (mkF m 162 (own_L p1 q2 q3 q4 q5 p6 (3 : Int32) (1 : Int32) v0 v1 v2 v3 w0 w1 w2 w3 [.val (.ref b7), .val (.int (4 : Int32)), .val (.ref b11), .unset, .unset, .unset]) [(.int (4 : Int32))])) _
    refine XS.iconst X13.here hx rfl (hb hby at_162) ?_
    show Steps p.tables e below (T13.setTop (mkF m 163 (own_L p1 q2 q3 q4 q5 p6 (3 : Int32) (1 : Int32) v0 v1 v2 v3 w0 w1 w2 w3 [.val (.ref b7), .val (.int (4 : Int32)), .val (.ref b11), .unset, .unset, .unset]) [(.int (2 : Int32)), (.int (4 : Int32))])) _
    refine XS.icmpNo X13.here hx rfl (hb hby at_163) rfl (tlt (by decide : (2 : Int32) < (4 : Int32))).2.2.2 ?_
    show Steps p.tables e below (T13.setTop (mkF m 166 (own_L p1 q2 q3 q4 q5 p6 (3 : Int32) (1 : Int32) v0 v1 v2 v3 w0 w1 w2 w3 [.val (.ref b7), .val (.int (4 : Int32)), .val (.ref b11), .unset, .unset, .unset]) [])) _
    refine XS.aload X13.here hx rfl (hb hby at_166) rfl rfl ?_
    show Steps p.tables e below (T13.setTop (mkF m 168 (own_L p1 q2 q3 q4 q5 p6 (3 : Int32) (1 : Int32) v0 v1 v2 v3 w0 w1 w2 w3 [.val (.ref b7), .val (.int (4 : Int32)), .val (.ref b11), .unset, .unset, .unset]) [(.ref b11)])) _
    refine XS.iconst X13.here hx rfl (hb hby at_168) ?_
    show Steps p.tables e below (T13.setTop (mkF m 169 (own_L p1 q2 q3 q4 q5 p6 (3 : Int32) (1 : Int32) v0 v1 v2 v3 w0 w1 w2 w3 [.val (.ref b7), .val (.int (4 : Int32)), .val (.ref b11), .unset, .unset, .unset]) [(.int (2 : Int32)), (.ref b11)])) _
    refine XS.iload X13.here hx rfl (hb hby at_169) rfl ?_
    show Steps p.tables e below (T13.setTop (mkF m 171 (own_L p1 q2 q3 q4 q5 p6 (3 : Int32) (1 : Int32) v0 v1 v2 v3 w0 w1 w2 w3 [.val (.ref b7), .val (.int (4 : Int32)), .val (.ref b11), .unset, .unset, .unset]) [(.int w2), (.int (2 : Int32)), (.ref b11)])) _
    refine st14 _ ?_
    show Steps p.tables e below (T14.setTop (mkF m 172 (own_L p1 q2 q3 q4 q5 p6 (3 : Int32) (1 : Int32) v0 v1 v2 v3 w0 w1 w2 w3 [.val (.ref b7), .val (.int (4 : Int32)), .val (.ref b11), .unset, .unset, .unset]) [])) _
    refine XS.iload X14.here hx rfl (hb hby at_172) rfl ?_
    show Steps p.tables e below (T14.setTop (mkF m 174 (own_L p1 q2 q3 q4 q5 p6 (3 : Int32) (1 : Int32) v0 v1 v2 v3 w0 w1 w2 w3 [.val (.ref b7), .val (.int (4 : Int32)), .val (.ref b11), .unset, .unset, .unset]) [(.int (4 : Int32))])) _
    refine XS.iconst X14.here hx rfl (hb hby at_174) ?_
    show Steps p.tables e below (T14.setTop (mkF m 175 (own_L p1 q2 q3 q4 q5 p6 (3 : Int32) (1 : Int32) v0 v1 v2 v3 w0 w1 w2 w3 [.val (.ref b7), .val (.int (4 : Int32)), .val (.ref b11), .unset, .unset, .unset]) [(.int (3 : Int32)), (.int (4 : Int32))])) _
    refine XS.icmpNo X14.here hx rfl (hb hby at_175) rfl (tlt (by decide : (3 : Int32) < (4 : Int32))).2.2.2 ?_
    show Steps p.tables e below (T14.setTop (mkF m 178 (own_L p1 q2 q3 q4 q5 p6 (3 : Int32) (1 : Int32) v0 v1 v2 v3 w0 w1 w2 w3 [.val (.ref b7), .val (.int (4 : Int32)), .val (.ref b11), .unset, .unset, .unset]) [])) _
    refine XS.aload X14.here hx rfl (hb hby at_178) rfl rfl ?_
    show Steps p.tables e below (T14.setTop (mkF m 180 (own_L p1 q2 q3 q4 q5 p6 (3 : Int32) (1 : Int32) v0 v1 v2 v3 w0 w1 w2 w3 [.val (.ref b7), .val (.int (4 : Int32)), .val (.ref b11), .unset, .unset, .unset]) [(.ref b11)])) _
    refine XS.iconst X14.here hx rfl (hb hby at_180) ?_
    show Steps p.tables e below (T14.setTop (mkF m 181 (own_L p1 q2 q3 q4 q5 p6 (3 : Int32) (1 : Int32) v0 v1 v2 v3 w0 w1 w2 w3 [.val (.ref b7), .val (.int (4 : Int32)), .val (.ref b11), .unset, .unset, .unset]) [(.int (3 : Int32)), (.ref b11)])) _
    refine XS.iload X14.here hx rfl (hb hby at_181) rfl ?_
    show Steps p.tables e below (T14.setTop (mkF m 183 (own_L p1 q2 q3 q4 q5 p6 (3 : Int32) (1 : Int32) v0 v1 v2 v3 w0 w1 w2 w3 [.val (.ref b7), .val (.int (4 : Int32)), .val (.ref b11), .unset, .unset, .unset]) [(.int w3), (.int (3 : Int32)), (.ref b11)])) _
    refine st15 _ ?_
    show Steps p.tables e below (T15.setTop (mkF m 184 (own_L p1 q2 q3 q4 q5 p6 (3 : Int32) (1 : Int32) v0 v1 v2 v3 w0 w1 w2 w3 [.val (.ref b7), .val (.int (4 : Int32)), .val (.ref b11), .unset, .unset, .unset]) [])) _
    refine XS.iload X15.here hx rfl (hb hby at_184) rfl ?_
    show Steps p.tables e below (T15.setTop (mkF m 186 (own_L p1 q2 q3 q4 q5 p6 (3 : Int32) (1 : Int32) v0 v1 v2 v3 w0 w1 w2 w3 [.val (.ref b7), .val (.int (4 : Int32)), .val (.ref b11), .unset, .unset, .unset]) [(.int (4 : Int32))])) _
    refine XS.iconst X15.here hx rfl (hb hby at_186) ?_
    show Steps p.tables e below (T15.setTop (mkF m 187 (own_L p1 q2 q3 q4 q5 p6 (3 : Int32) (1 : Int32) v0 v1 v2 v3 w0 w1 w2 w3 [.val (.ref b7), .val (.int (4 : Int32)), .val (.ref b11), .unset, .unset, .unset]) [(.int (4 : Int32)), (.int (4 : Int32))])) _
    refine XS.icmpYes X15.here hx rfl (pc0 := 187) (pc' := 196) rfl (hb hby at_187) rfl (flt (by decide : ¬ ((4 : Int32) < (4 : Int32)))).2.2.2 (by decide) (by decide) ?_
    show Steps p.tables e below (T15.setTop (mkF m 196 (own_L p1 q2 q3 q4 q5 p6 (3 : Int32) (1 : Int32) v0 v1 v2 v3 w0 w1 w2 w3 [.val (.ref b7), .val (.int (4 : Int32)), .val (.ref b11), .unset, .unset, .unset]) [])) _
    refine st16 _ ?_
    show Steps p.tables e below (T16.setTop (mkF m 199 (own_L p1 q2 q3 q4 q5 p6 (3 : Int32) (1 : Int32) v0 v1 v2 v3 w0 w1 w2 w3 [.val (.ref b7), .val (.int (4 : Int32)), .val (.ref b11), .unset, .unset, .unset]) [(.ref b16)])) _
    refine XS.dup X16.here hx rfl (hb hby at_199) rfl rfl ?_
    show Steps p.tables e below (T16.setTop (mkF m 200 (own_L p1 q2 q3 q4 q5 p6 (3 : Int32) (1 : Int32) v0 v1 v2 v3 w0 w1 w2 w3 [.val (.ref b7), .val (.int (4 : Int32)), .val (.ref b11), .unset, .unset, .unset]) [(.ref b16), (.ref b16)])) _
    refine XS.aload X16.here hx rfl (hb hby at_200) rfl rfl ?_
    show Steps p.tables e below (T16.setTop (mkF m 202 (own_L p1 q2 q3 q4 q5 p6 (3 : Int32) (1 : Int32) v0 v1 v2 v3 w0 w1 w2 w3 [.val (.ref b7), .val (.int (4 : Int32)), .val (.ref b11), .unset, .unset, .unset]) [(.ref b7), (.ref b16), (.ref b16)])) _
    refine st17.trans ?_
    show Steps p.tables e below (T17.setTop (mkF m 205 (own_L p1 q2 q3 q4 q5 p6 (3 : Int32) (1 : Int32) v0 v1 v2 v3 w0 w1 w2 w3 [.val (.ref b7), .val (.int (4 : Int32)), .val (.ref b11), .unset, .unset, .unset]) [(.ref b16)])) _
    refine XS.astore X17.here hx rfl (hb hby at_205) rfl rfl (l' := (own_L p1 q2 q3 q4 q5 p6 (3 : Int32) (1 : Int32) v0 v1 v2 v3 w0 w1 w2 w3 [.val (.ref b7), .val (.int (4 : Int32)), .val (.ref b11), .val (.ref b16), .unset, .unset])) rfl ?_
    show Steps p.tables e below (T17.setTop (mkF m 207 (own_L p1 q2 q3 q4 q5 p6 (3 : Int32) (1 : Int32) v0 v1 v2 v3 w0 w1 w2 w3 [.val (.ref b7), .val (.int (4 : Int32)), .val (.ref b11), .val (.ref b16), .unset, .unset]) [])) _
    refine XS.aload X17.here hx rfl (hb hby at_207) rfl rfl ?_
    show Steps p.tables e below (T17.setTop (mkF m 209 (own_L p1 q2 q3 q4 q5 p6 (3 : Int32) (1 : Int32) v0 v1 v2 v3 w0 w1 w2 w3 [.val (.ref b7), .val (.int (4 : Int32)), .val (.ref b11), .val (.ref b16), .unset, .unset]) [(.ref b16)])) _
    refine XS.aload X17.here hx rfl (hb hby at_209) rfl rfl ?_
    show Steps p.tables e below (T17.setTop (mkF m 211 (own_L p1 q2 q3 q4 q5 p6 (3 : Int32) (1 : Int32) v0 v1 v2 v3 w0 w1 w2 w3 [.val (.ref b7), .val (.int (4 : Int32)), .val (.ref b11), .val (.ref b16), .unset, .unset]) [(.ref b11), (.ref b16)])) _
    refine st18.trans ?_
    show Steps p.tables e below (T18.setTop (mkF m 214 (own_L p1 q2 q3 q4 q5 p6 (3 : Int32) (1 : Int32) v0 v1 v2 v3 w0 w1 w2 w3 [.val (.ref b7), .val (.int (4 : Int32)), .val (.ref b11), .val (.ref b16), .unset, .unset]) [(.int (own_acc (fun j => [v0, v1, v2, v3].getD j 0) (fun j => [w0, w1, w2, w3].getD j 0) 3 0 0))])) _
    refine XS.istore X18.here hx rfl (hb hby at_214) rfl (l' := (own_L p1 q2 q3 q4 q5 p6 (3 : Int32) (1 : Int32) v0 v1 v2 v3 w0 w1 w2 w3 [.val (.ref b7), .val (.int (4 : Int32)), .val (.ref b11), .val (.ref b16), .val (.int (own_acc (fun j => [v0, v1, v2, v3].getD j 0) (fun j => [w0, w1, w2, w3].getD j 0) 3 0 0)), .unset])) rfl ?_
    show Steps p.tables e below (T18.setTop (mkF m 216 (own_L p1 q2 q3 q4 q5 p6 (3 : Int32) (1 : Int32) v0 v1 v2 v3 w0 w1 w2 w3 [.val (.ref b7), .val (.int (4 : Int32)), .val (.ref b11), .val (.ref b16), .val (.int (own_acc (fun j => [v0, v1, v2, v3].getD j 0) (fun j => [w0, w1, w2, w3].getD j 0) 3 0 0)), .unset]) [])) _
    refine XS.iconst X18.here hx rfl (hb hby at_216) ?_
    show Steps p.tables e below (T18.setTop (mkF m 217 (own_L p1 q2 q3 q4 q5 p6 (3 : Int32) (1 : Int32) v0 v1 v2 v3 w0 w1 w2 w3 [.val (.ref b7), .val (.int (4 : Int32)), .val (.ref b11), .val (.ref b16), .val (.int (own_acc (fun j => [v0, v1, v2, v3].getD j 0) (fun j => [w0, w1, w2, w3].getD j 0) 3 0 0)), .unset]) [(.int (0 : Int32))])) _
    refine XS.istore X18.here hx rfl (hb hby at_217) rfl (l' := (own_L p1 q2 q3 q4 q5 p6 (3 : Int32) (1 : Int32) v0 v1 v2 v3 w0 w1 w2 w3 [.val (.ref b7), .val (.int (4 : Int32)), .val (.ref b11), .val (.ref b16), .val (.int (own_acc (fun j => [v0, v1, v2, v3].getD j 0) (fun j => [w0, w1, w2, w3].getD j 0) 3 0 0)), .val (.int (0 : Int32))])) rfl ?_
    show Steps p.tables e below (T18.setTop (mkF m 219 (own_L p1 q2 q3 q4 q5 p6 (3 : Int32) (1 : Int32) v0 v1 v2 v3 w0 w1 w2 w3 [.val (.ref b7), .val (.int (4 : Int32)), .val (.ref b11), .val (.ref b16), .val (.int (own_acc (fun j => [v0, v1, v2, v3].getD j 0) (fun j => [w0, w1, w2, w3].getD j 0) 3 0 0)), .val (.int (0 : Int32))]) [])) _
    refine XS.iload X18.here hx rfl (hb hby at_219) rfl ?_
    show Steps p.tables e below (T18.setTop (mkF m 221 (own_L p1 q2 q3 q4 q5 p6 (3 : Int32) (1 : Int32) v0 v1 v2 v3 w0 w1 w2 w3 [.val (.ref b7), .val (.int (4 : Int32)), .val (.ref b11), .val (.ref b16), .val (.int (own_acc (fun j => [v0, v1, v2, v3].getD j 0) (fun j => [w0, w1, w2, w3].getD j 0) 3 0 0)), .val (.int (0 : Int32))]) [(.int (3 : Int32))])) _
    refine XS.ifNo X18.here hx rfl (hb hby at_221) rfl ((if0 _ _).trans (tlt (by decide : (0 : Int32) < (3 : Int32))).2.2.2) ?_
    show Steps p.tables e below (T18.setTop (mkF m 224 (own_L p1 q2 q3 q4 q5 p6 (3 : Int32) (1 : Int32) v0 v1 v2 v3 w0 w1 w2 w3 [.val (.ref b7), .val (.int (4 : Int32)), .val (.ref b11), .val (.ref b16), .val (.int (own_acc (fun j => [v0, v1, v2, v3].getD j 0) (fun j => [w0, w1, w2, w3].getD j 0) 3 0 0)), .val (.int (0 : Int32))]) [])) _
    refine XS.iload X18.here hx rfl (hb hby at_224) rfl ?_
    show Steps p.tables e below (T18.setTop (mkF m 226 (own_L p1 q2 q3 q4 q5 p6 (3 : Int32) (1 : Int32) v0 v1 v2 v3 w0 w1 w2 w3 [.val (.ref b7), .val (.int (4 : Int32)), .val (.ref b11), .val (.ref b16), .val (.int (own_acc (fun j => [v0, v1, v2, v3].getD j 0) (fun j => [w0, w1, w2, w3].getD j 0) 3 0 0)), .val (.int (0 : Int32))]) [(.int (0 : Int32))])) _
    refine XS.iload X18.here hx rfl (hb hby at_226) rfl ?_
    show Steps p.tables e below (T18.setTop (mkF m 228 (own_L p1 q2 q3 q4 q5 p6 (3 : Int32) (1 : Int32) v0 v1 v2 v3 w0 w1 w2 w3 [.val (.ref b7), .val (.int (4 : Int32)), .val (.ref b11), .val (.ref b16), .val (.int (own_acc (fun j => [v0, v1, v2, v3].getD j 0) (fun j => [w0, w1, w2, w3].getD j 0) 3 0 0)), .val (.int (0 : Int32))]) [(.int v0), (.int (0 : Int32))])) _
    refine XS.iload X18.here hx rfl (hb hby at_228) rfl ?_
    show Steps p.tables e below (T18.setTop (mkF m 230 (own_L p1 q2 q3 q4 q5 p6 (3 : Int32) (1 : Int32) v0 v1 v2 v3 w0 w1 w2 w3 [.val (.ref b7), .val (.int (4 : Int32)), .val (.ref b11), .val (.ref b16), .val (.int (own_acc (fun j => [v0, v1, v2, v3].getD j 0) (fun j => [w0, w1, w2, w3].getD j 0) 3 0 0)), .val (.int (0 : Int32))]) [(.int w0), (.int v0), (.int (0 : Int32))])) _
    refine XS.imul X18.here hx rfl (hb hby at_230) rfl ?_
    show Steps p.tables e below (T18.setTop (mkF m 231 (own_L p1 q2 q3 q4 q5 p6 (3 : Int32) (1 : Int32) v0 v1 v2 v3 w0 w1 w2 w3 [.val (.ref b7), .val (.int (4 : Int32)), .val (.ref b11), .val (.ref b16), .val (.int (own_acc (fun j => [v0, v1, v2, v3].getD j 0) (fun j => [w0, w1, w2, w3].getD j 0) 3 0 0)), .val (.int (0 : Int32))]) [(.int (v0 * w0)), (.int (0 : Int32))])) _
    refine XS.iadd X18.here hx rfl (hb hby at_231) rfl ?_
    show Steps p.tables e below (T18.setTop (mkF m 232 (own_L p1 q2 q3 q4 q5 p6 (3 : Int32) (1 : Int32) v0 v1 v2 v3 w0 w1 w2 w3 [.val (.ref b7), .val (.int (4 : Int32)), .val (.ref b11), .val (.ref b16), .val (.int (own_acc (fun j => [v0, v1, v2, v3].getD j 0) (fun j => [w0, w1, w2, w3].getD j 0) 3 0 0)), .val (.int (0 : Int32))]) [(.int ((0 : Int32) + (v0 * w0)))])) _
    refine XS.istore X18.here hx rfl (hb hby at_232) rfl (l' := (own_L p1 q2 q3 q4 q5 p6 (3 : Int32) (1 : Int32) v0 v1 v2 v3 w0 w1 w2 w3 [.val (.ref b7), .val (.int (4 : Int32)), .val (.ref b11), .val (.ref b16), .val (.int (own_acc (fun j => [v0, v1, v2, v3].getD j 0) (fun j => [w0, w1, w2, w3].getD j 0) 3 0 0)), .val (.int ((0 : Int32) + (v0 * w0)))])) rfl ?_
    show Steps p.tables e below (T18.setTop (mkF m 234 (own_L p1 q2 q3 q4 q5 p6 (3 : Int32) (1 : Int32) v0 v1 v2 v3 w0 w1 w2 w3 [.val (.ref b7), .val (.int (4 : Int32)), .val (.ref b11), .val (.ref b16), .val (.int (own_acc (fun j => [v0, v1, v2, v3].getD j 0) (fun j => [w0, w1, w2, w3].getD j 0) 3 0 0)), .val (.int ((0 : Int32) + (v0 * w0)))]) [])) _
    refine XS.iload X18.here hx rfl (hb hby at_234) rfl ?_
    show Steps p.tables e below (T18.setTop (mkF m 236 (own_L p1 q2 q3 q4 q5 p6 (3 : Int32) (1 : Int32) v0 v1 v2 v3 w0 w1 w2 w3 [.val (.ref b7), .val (.int (4 : Int32)), .val (.ref b11), .val (.ref b16), .val (.int (own_acc (fun j => [v0, v1, v2, v3].getD j 0) (fun j => [w0, w1, w2, w3].getD j 0) 3 0 0)), .val (.int ((0 : Int32) + (v0 * w0)))]) [(.int (3 : Int32))])) _
    refine XS.iconst X18.here hx rfl (hb hby at_236) ?_
    show Steps p.tables e below (T18.setTop (mkF m 237 (own_L p1 q2 q3 q4 q5 p6 (3 : Int32) (1 : Int32) v0 v1 v2 v3 w0 w1 w2 w3 [.val (.ref b7), .val (.int (4 : Int32)), .val (.ref b11), .val (.ref b16), .val (.int (own_acc (fun j => [v0, v1, v2, v3].getD j 0) (fun j => [w0, w1, w2, w3].getD j 0) 3 0 0)), .val (.int ((0 : Int32) + (v0 * w0)))]) [(.int (1 : Int32)), (.int (3 : Int32))])) _
    refine XS.icmpNo X18.here hx rfl (hb hby at_237) rfl (tlt (by decide : (1 : Int32) < (3 : Int32))).2.2.2 ?_
    show Steps p.tables e below (T18.setTop (mkF m 240 (own_L p1 q2 q3 q4 q5 p6 (3 : Int32) (1 : Int32) v0 v1 v2 v3 w0 w1 w2 w3 [.val (.ref b7), .val (.int (4 : Int32)), .val (.ref b11), .val (.ref b16), .val (.int (own_acc (fun j => [v0, v1, v2, v3].getD j 0) (fun j => [w0, w1, w2, w3].getD j 0) 3 0 0)), .val (.int ((0 : Int32) + (v0 * w0)))]) [])) _
    refine XS.iload X18.here hx rfl (hb hby at_240) rfl ?_
    show Steps p.tables e below (T18.setTop (mkF m 242 (own_L p1 q2 q3 q4 q5 p6 (3 : Int32) (1 : Int32) v0 v1 v2 v3 w0 w1 w2 w3 [.val (.ref b7), .val (.int (4 : Int32)), .val (.ref b11), .val (.ref b16), .val (.int (own_acc (fun j => [v0, v1, v2, v3].getD j 0) (fun j => [w0, w1, w2, w3].getD j 0) 3 0 0)), .val (.int ((0 : Int32) + (v0 * w0)))]) [(.int ((0 : Int32) + (v0 * w0)))])) _
    refine XS.iload X18.here hx rfl (hb hby at_242) rfl ?_
    show Steps p.tables e below (T18.setTop (mkF m 244 (own_L p1 q2 q3 q4 q5 p6 (3 : Int32) (1 : Int32) v0 v1 v2 v3 w0 w1 w2 w3 [.val (.ref b7), .val (.int (4 : Int32)), .val (.ref b11), .val (.ref b16), .val (.int (own_acc (fun j => [v0, v1, v2, v3].getD j 0) (fun j => [w0, w1, w2, w3].getD j 0) 3 0 0)), .val (.int ((0 : Int32) + (v0 * w0)))]) [(.int v1), (.int ((0 : Int32) + (v0 * w0)))])) _
    refine XS.iload X18.here hx rfl (hb hby at_244) rfl ?_
    show Steps p.tables e below (T18.setTop (mkF m 246 (own_L p1 q2 q3 q4 q5 p6 (3 : Int32) (1 : Int32) v0 v1 v2 v3 w0 w1 w2 w3 [.val (.ref b7), .val (.int (4 : Int32)), .val (.ref b11), .val (.ref b16), .val (.int (own_acc (fun j => [v0, v1, v2, v3].getD j 0) (fun j => [w0, w1, w2, w3].getD j 0) 3 0 0)), .val (.int ((0 : Int32) + (v0 * w0)))]) [(.int w1), (.int v1), (.int ((0 : Int32) + (v0 * w0)))])) _
    refine XS.imul X18.here hx rfl (hb hby at_246) rfl ?_
    show Steps p.tables e below (T18.setTop (mkF m 247 (own_L p1 q2 q3 q4 q5 p6 (3 : Int32) (1 : Int32) v0 v1 v2 v3 w0 w1 w2 w3 [.val (.ref b7), .val (.int (4 : Int32)), .val (.ref b11), .val (.ref b16), .val (.int (own_acc (fun j => [v0, v1, v2, v3].getD j 0) (fun j => [w0, w1, w2, w3].getD j 0) 3 0 0)), .val (.int ((0 : Int32) + (v0 * w0)))]) [(.int (v1 * w1)), (.int ((0 : Int32) + (v0 * w0)))])) _
    refine XS.iadd X18.here hx rfl (hb hby at_247) rfl ?_
    show Steps p.tables e below (T18.setTop (mkF m 248 (own_L p1 q2 q3 q4 q5 p6 (3 : Int32) (1 : Int32) v0 v1 v2 v3 w0 w1 w2 w3 [.val (.ref b7), .val (.int (4 : Int32)), .val (.ref b11), .val (.ref b16), .val (.int (own_acc (fun j => [v0, v1, v2, v3].getD j 0) (fun j => [w0, w1, w2, w3].getD j 0) 3 0 0)), .val (.int ((0 : Int32) + (v0 * w0)))]) [(.int (((0 : Int32) + (v0 * w0)) + (v1 * w1)))])) _
    refine XS.istore X18.here hx rfl (hb hby at_248) rfl (l' := (own_L p1 q2 q3 q4 q5 p6 (3 : Int32) (1 : Int32) v0 v1 v2 v3 w0 w1 w2 w3 [.val (.ref b7), .val (.int (4 : Int32)), .val (.ref b11), .val (.ref b16), .val (.int (own_acc (fun j => [v0, v1, v2, v3].getD j 0) (fun j => [w0, w1, w2, w3].getD j 0) 3 0 0)), .val (.int (((0 : Int32) + (v0 * w0)) + (v1 * w1)))])) rfl ?_
    show Steps p.tables e below (T18.setTop (mkF m 250 (own_L p1 q2 q3 q4 q5 p6 (3 : Int32) (1 : Int32) v0 v1 v2 v3 w0 w1 w2 w3 [.val (.ref b7), .val (.int (4 : Int32)), .val (.ref b11), .val (.ref b16), .val (.int (own_acc (fun j => [v0, v1, v2, v3].getD j 0) (fun j => [w0, w1, w2, w3].getD j 0) 3 0 0)), .val (.int (((0 : Int32) + (v0 * w0)) + (v1 * w1)))]) [])) _
    refine XS.iload X18.here hx rfl (hb hby at_250) rfl ?_
    show Steps p.tables e below (T18.setTop (mkF m 252 (own_L p1 q2 q3 q4 q5 p6 (3 : Int32) (1 : Int32) v0 v1 v2 v3 w0 w1 w2 w3 [.val (.ref b7), .val (.int (4 : Int32)), .val (.ref b11), .val (.ref b16), .val (.int (own_acc (fun j => [v0, v1, v2, v3].getD j 0) (fun j => [w0, w1, w2, w3].getD j 0) 3 0 0)), .val (.int (((0 : Int32) + (v0 * w0)) + (v1 * w1)))]) [(.int (3 : Int32))])) _
    refine XS.iconst X18.here hx rfl (hb hby at_252) ?_
    show Steps p.tables e below (T18.setTop (mkF m 253 (own_L p1 q2 q3 q4 q5 p6 (3 : Int32) (1 : Int32) v0 v1 v2 v3 w0 w1 w2 w3 [.val (.ref b7), .val (.int (4 : Int32)), .val (.ref b11), .val (.ref b16), .val (.int (own_acc (fun j => [v0, v1, v2, v3].getD j 0) (fun j => [w0, w1, w2, w3].getD j 0) 3 0 0)), .val (.int (((0 : Int32) + (v0 * w0)) + (v1 * w1)))]) [(.int (2 : Int32)), (.int (3 : Int32))])) _
    refine XS.icmpNo X18.here hx rfl (hb hby at_253) rfl (tlt (by decide : (2 : Int32) < (3 : Int32))).2.2.2 ?_
    show Steps p.tables e below (T18.setTop (mkF m 256 (own_L p1 q2 q3 q4 q5 p6 (3 : Int32) (1 : Int32) v0 v1 v2 v3 w0 w1 w2 w3 [.val (.ref b7), .val (.int (4 : Int32)), .val (.ref b11), .val (.ref b16), .val (.int (own_acc (fun j => [v0, v1, v2, v3].getD j 0) (fun j => [w0, w1, w2, w3].getD j 0) 3 0 0)), .val (.int (((0 : Int32) + (v0 * w0)) + (v1 * w1)))]) [])) _
    refine XS.iload X18.here hx rfl (hb hby at_256) rfl ?_
    show Steps p.tables e below (T18.setTop (mkF m 258 (own_L p1 q2 q3 q4 q5 p6 (3 : Int32) (1 : Int32) v0 v1 v2 v3 w0 w1 w2 w3 [.val (.ref b7), .val (.int (4 : Int32)), .val (.ref b11), .val (.ref b16), .val (.int (own_acc (fun j => [v0, v1, v2, v3].getD j 0) (fun j => [w0, w1, w2, w3].getD j 0) 3 0 0)), .val (.int (((0 : Int32) + (v0 * w0)) + (v1 * w1)))]) [(.int (((0 : Int32) + (v0 * w0)) + (v1 * w1)))])) _
    refine XS.iload X18.here hx rfl (hb hby at_258) rfl ?_
    show Steps p.tables e below (T18.setTop (mkF m 260 (own_L p1 q2 q3 q4 q5 p6 (3 : Int32) (1 : Int32) v0 v1 v2 v3 w0 w1 w2 w3 [.val (.ref b7), .val (.int (4 : Int32)), .val (.ref b11), .val (.ref b16), .val (.int (own_acc (fun j => [v0, v1, v2, v3].getD j 0) (fun j => [w0, w1, w2, w3].getD j 0) 3 0 0)), .val (.int (((0 : Int32) + (v0 * w0)) + (v1 * w1)))]) [(.int v2), (.int (((0 : Int32) + (v0 * w0)) + (v1 * w1)))])) _
    refine XS.iload X18.here hx rfl (hb hby at_260) rfl ?_
    show Steps p.tables e below (T18.setTop (mkF m 262 (own_L p1 q2 q3 q4 q5 p6 (3 : Int32) (1 : Int32) v0 v1 v2 v3 w0 w1 w2 w3 [.val (.ref b7), .val (.int (4 : Int32)), .val (.ref b11), .val (.ref b16), .val (.int (own_acc (fun j => [v0, v1, v2, v3].getD j 0) (fun j => [w0, w1, w2, w3].getD j 0) 3 0 0)), .val (.int (((0 : Int32) + (v0 * w0)) + (v1 * w1)))]) [(.int w2), (.int v2), (.int (((0 : Int32) + (v0 * w0)) + (v1 * w1)))])) _
    refine XS.imul X18.here hx rfl (hb hby at_262) rfl ?_
    show Steps p.tables e below (T18.setTop (mkF m 263 (own_L p1 q2 q3 q4 q5 p6 (3 : Int32) (1 : Int32) v0 v1 v2 v3 w0 w1 w2 w3 [.val (.ref b7), .val (.int (4 : Int32)), .val (.ref b11), .val (.ref b16), .val (.int (own_acc (fun j => [v0, v1, v2, v3].getD j 0) (fun j => [w0, w1, w2, w3].getD j 0) 3 0 0)), .val (.int (((0 : Int32) + (v0 * w0)) + (v1 * w1)))]) [(.int (v2 * w2)), (.int (((0 : Int32) + (v0 * w0)) + (v1 * w1)))])) _
    refine XS.iadd X18.here hx rfl (hb hby at_263) rfl ?_
    show Steps p.tables e below (T18.setTop (mkF m 264 (own_L p1 q2 q3 q4 q5 p6 (3 : Int32) (1 : Int32) v0 v1 v2 v3 w0 w1 w2 w3 [.val (.ref b7), .val (.int (4 : Int32)), .val (.ref b11), .val (.ref b16), .val (.int (own_acc (fun j => [v0, v1, v2, v3].getD j 0) (fun j => [w0, w1, w2, w3].getD j 0) 3 0 0)), .val (.int (((0 : Int32) + (v0 * w0)) + (v1 * w1)))]) [(.int ((((0 : Int32) + (v0 * w0)) + (v1 * w1)) + (v2 * w2)))])) _
    refine XS.istore X18.here hx rfl (hb hby at_264) rfl (l' := (own_L p1 q2 q3 q4 q5 p6 (3 : Int32) (1 : Int32) v0 v1 v2 v3 w0 w1 w2 w3 [.val (.ref b7), .val (.int (4 : Int32)), .val (.ref b11), .val (.ref b16), .val (.int (own_acc (fun j => [v0, v1, v2, v3].getD j 0) (fun j => [w0, w1, w2, w3].getD j 0) 3 0 0)), .val (.int ((((0 : Int32) + (v0 * w0)) + (v1 * w1)) + (v2 * w2)))])) rfl ?_
    show Steps p.tables e below (T18.setTop (mkF m 266 (own_L p1 q2 q3 q4 q5 p6 (3 : Int32) (1 : Int32) v0 v1 v2 v3 w0 w1 w2 w3 [.val (.ref b7), .val (.int (4 : Int32)), .val (.ref b11), .val (.ref b16), .val (.int (own_acc (fun j => [v0, v1, v2, v3].getD j 0) (fun j => [w0, w1, w2, w3].getD j 0) 3 0 0)), .val (.int ((((0 : Int32) + (v0 * w0)) + (v1 * w1)) + (v2 * w2)))]) [])) _
    refine XS.iload X18.here hx rfl (hb hby at_266) rfl ?_
    show Steps p.tables e below (T18.setTop (mkF m 268 (own_L p1 q2 q3 q4 q5 p6 (3 : Int32) (1 : Int32) v0 v1 v2 v3 w0 w1 w2 w3 [.val (.ref b7), .val (.int (4 : Int32)), .val (.ref b11), .val (.ref b16), .val (.int (own_acc (fun j => [v0, v1, v2, v3].getD j 0) (fun j => [w0, w1, w2, w3].getD j 0) 3 0 0)), .val (.int ((((0 : Int32) + (v0 * w0)) + (v1 * w1)) + (v2 * w2)))]) [(.int (3 : Int32))])) _
    refine XS.iconst X18.here hx rfl (hb hby at_268) ?_
    show Steps p.tables e below (T18.setTop (mkF m 269 (own_L p1 q2 q3 q4 q5 p6 (3 : Int32) (1 : Int32) v0 v1 v2 v3 w0 w1 w2 w3 [.val (.ref b7), .val (.int (4 : Int32)), .val (.ref b11), .val (.ref b16), .val (.int (own_acc (fun j => [v0, v1, v2, v3].getD j 0) (fun j => [w0, w1, w2, w3].getD j 0) 3 0 0)), .val (.int ((((0 : Int32) + (v0 * w0)) + (v1 * w1)) + (v2 * w2)))]) [(.int (3 : Int32)), (.int (3 : Int32))])) _
    refine XS.icmpYes X18.here hx rfl (pc0 := 269) (pc' := 282) rfl (hb hby at_269) rfl (flt (by decide : ¬ ((3 : Int32) < (3 : Int32)))).2.2.2 (by decide) (by decide) ?_
    show Steps p.tables e below (T18.setTop (mkF m 282 (own_L p1 q2 q3 q4 q5 p6 (3 : Int32) (1 : Int32) v0 v1 v2 v3 w0 w1 w2 w3 [.val (.ref b7), .val (.int (4 : Int32)), .val (.ref b11), .val (.ref b16), .val (.int (own_acc (fun j => [v0, v1, v2, v3].getD j 0) (fun j => [w0, w1, w2, w3].getD j 0) 3 0 0)), .val (.int ((((0 : Int32) + (v0 * w0)) + (v1 * w1)) + (v2 * w2)))]) [])) _
    refine XS.iload X18.here hx rfl (hb hby at_282) rfl ?_
    show Steps p.tables e below (T18.setTop (mkF m 284 (own_L p1 q2 q3 q4 q5 p6 (3 : Int32) (1 : Int32) v0 v1 v2 v3 w0 w1 w2 w3 [.val (.ref b7), .val (.int (4 : Int32)), .val (.ref b11), .val (.ref b16), .val (.int (own_acc (fun j => [v0, v1, v2, v3].getD j 0) (fun j => [w0, w1, w2, w3].getD j 0) 3 0 0)), .val (.int ((((0 : Int32) + (v0 * w0)) + (v1 * w1)) + (v2 * w2)))]) [(.int (own_acc (fun j => [v0, v1, v2, v3].getD j 0) (fun j => [w0, w1, w2, w3].getD j 0) 3 0 0))])) _
    refine XS.iload X18.here hx rfl (hb hby at_284) rfl ?_
    show Steps p.tables e below (T18.setTop (mkF m 286 (own_L p1 q2 q3 q4 q5 p6 (3 : Int32) (1 : Int32) v0 v1 v2 v3 w0 w1 w2 w3 [.val (.ref b7), .val (.int (4 : Int32)), .val (.ref b11), .val (.ref b16), .val (.int (own_acc (fun j => [v0, v1, v2, v3].getD j 0) (fun j => [w0, w1, w2, w3].getD j 0) 3 0 0)), .val (.int ((((0 : Int32) + (v0 * w0)) + (v1 * w1)) + (v2 * w2)))]) [(.int ((((0 : Int32) + (v0 * w0)) + (v1 * w1)) + (v2 * w2))), (.int (own_acc (fun j => [v0, v1, v2, v3].getD j 0) (fun j => [w0, w1, w2, w3].getD j 0) 3 0 0))])) _
    refine XS.icmpNo X18.here hx rfl (hb hby at_286) rfl (teq (rfl : (own_acc (fun j => [v0, v1, v2, v3].getD j 0) (fun j => [w0, w1, w2, w3].getD j 0) 3 0 0) = ((((0 : Int32) + (v0 * w0)) + (v1 * w1)) + (v2 * w2)))).2 ?_
    show Steps p.tables e below (T18.setTop (mkF m 289 (own_L p1 q2 q3 q4 q5 p6 (3 : Int32) (1 : Int32) v0 v1 v2 v3 w0 w1 w2 w3 [.val (.ref b7), .val (.int (4 : Int32)), .val (.ref b11), .val (.ref b16), .val (.int (own_acc (fun j => [v0, v1, v2, v3].getD j 0) (fun j => [w0, w1, w2, w3].getD j 0) 3 0 0)), .val (.int ((((0 : Int32) + (v0 * w0)) + (v1 * w1)) + (v2 * w2)))]) [])) _
    refine XS.iconst X18.here hx rfl (hb hby at_289) ?_
    show Steps p.tables e below (T18.setTop (mkF m 290 (own_L p1 q2 q3 q4 q5 p6 (3 : Int32) (1 : Int32) v0 v1 v2 v3 w0 w1 w2 w3 [.val (.ref b7), .val (.int (4 : Int32)), .val (.ref b11), .val (.ref b16), .val (.int (own_acc (fun j => [v0, v1, v2, v3].getD j 0) (fun j => [w0, w1, w2, w3].getD j 0) 3 0 0)), .val (.int ((((0 : Int32) + (v0 * w0)) + (v1 * w1)) + (v2 * w2)))]) [(.int (1 : Int32))])) _
    refine XS.goto X18.here hx rfl (pc0 := 290) (pc' := 294) rfl (hb hby at_290) (by decide) (by decide) ?_
    show Steps p.tables e below (T18.setTop (mkF m 294 (own_L p1 q2 q3 q4 q5 p6 (3 : Int32) (1 : Int32) v0 v1 v2 v3 w0 w1 w2 w3 [.val (.ref b7), .val (.int (4 : Int32)), .val (.ref b11), .val (.ref b16), .val (.int (own_acc (fun j => [v0, v1, v2, v3].getD j 0) (fun j => [w0, w1, w2, w3].getD j 0) 3 0 0)), .val (.int ((((0 : Int32) + (v0 * w0)) + (v1 * w1)) + (v2 * w2)))]) [(.int (1 : Int32))])) _
    exact retN X18 hx (t := .boolean) Bd.returns (by simp) (hb hby at_294) hr
  · show Q0 Z p1 q2 q3 q4 q5 p6 h0 n0 _ T18.heap _
    exact ⟨rfl, N18⟩
set_option maxRecDepth 65536 in
set_option maxHeartbeats 40000000 in
theorem rm0_4_0 (l : Launch) (Z : State) (a0 : Array Value) (hw : ∀ d ∈ tables_1, d.before a0 Z = true) (ws : List Jvm.Cond) (p1 : Int32) (q2 : Int64) (q3 : Int64) (q4 : Int64) (q5 : Int64) (p6 : Int32) (h0 : Heap) (n0 : Nat) (Z0 : n0 ≤ h0.size) (v0 v1 v2 v3 w0 w1 w2 w3 : Int32) (h_v0 : (q2.toInt32) = v0) (h_v1 : (((q2.toUInt64 >>> ((32 : Int32) &&& 0x3f).toInt64.toUInt64).toInt64).toInt32) = v1) (h_v2 : (q3.toInt32) = v2) (h_v3 : (((q3.toUInt64 >>> ((32 : Int32) &&& 0x3f).toInt64.toUInt64).toInt64).toInt32) = v3) (h_w0 : (q4.toInt32) = w0) (h_w1 : (((q4.toUInt64 >>> ((32 : Int32) &&& 0x3f).toInt64.toUInt64).toInt64).toInt32) = w1) (h_w2 : (q5.toInt32) = w2) (h_w3 : (((q5.toUInt64 >>> ((32 : Int32) &&& 0x3f).toInt64.toUInt64).toInt64).toInt32) = w3) (hk : ((p1 &&& (2147483647 : Int32)) % (5 : Int32)) = (4 : Int32)) (hc9 : ¬ (p1 < (0 : Int32))) :
    MetFree l x (head1 (Jvm.Cond.code x code maxLocals ret :: ws) room_1) (fun a U => a = #[(.int p1), (.long q2), (.long q3), (.long q4), (.long q5), (.int p6)] ∧ Z.Warmed39 U.vm ∧ U.heap = h0) (fun _ _ _ _ _ => True) (fun _ U o U' => ∃ v L, o = .returned v ∧ Q0 Z p1 q2 q3 q4 q5 p6 h0 n0 v U'.heap L ∧ FrameEnd U o U' L room_1.cells room_1.slots) := by
  refine MetFree.of_bodySF (plainFor_of_name pn_0) hisR ?_
  intro p e s m args below meth c s₁ Bd hml0 hP hK
  obtain ⟨rfl, hZ, hh⟩ := hP
  have hx := Bd.exec
  have hby := Bd.bytes
  have hml : c.maxLocals = 27 := hml0
  have hown : s.vm.findClass "com/example/stagecraft/stagecraft/examples/GenericDotProductApplyPinLaw" = some m.cls := findClass_of_methodNamed Bd.named
  have hnm := (name_of_methodNamed Bd.named Bd.method).1
  have X0 : Stand p l e room_1 s m #[(.int p1), (.long q2), (.long q3), (.long q4), (.long q5), (.int p6)] below meth c s₁ [] 0 0 := Stand.of_body Bd
  have e0 : s₁.heap = h0 := by rw [← hh, Bd.state]; rfl
  have N0 := Fr.nil n0
  have pre0 : ∀ t, Steps p.tables e below (s₁.setTop (mkF m 0 #[.val (.int p1), .val (.long q2), .second, .val (.long q3), .second, .val (.long q4), .second, .val (.long q5), .second, .val (.int p6), .unset, .unset, .unset, .unset, .unset, .unset, .unset, .unset, .unset, .unset, .unset, .unset, .unset, .unset, .unset, .unset, .unset] [])) t → Steps p.tables e below (s₁.setTop (entryFrame m #[(.int p1), (.long q2), (.long q3), (.long q4), (.long q5), (.int p6)] maxLocals)) t := fun t k => castTop (ef_0 m p1 q2 q3 q4 q5 p6) k
  -- 3. LAWS
  have jmp_0 : ∀ target, Steps p.tables e below (s₁.setTop (mkF m 71 (own_L p1 q2 q3 q4 q5 p6 (4 : Int32) (0 : Int32) v0 v1 v2 v3 w0 w1 w2 w3 [.unset, .unset, .unset, .unset, .unset, .unset]) [])) target → Steps p.tables e below (s₁.setTop (mkF m 0 #[.val (.int p1), .val (.long q2), .second, .val (.long q3), .second, .val (.long q4), .second, .val (.long q5), .second, .val (.int p6), .unset, .unset, .unset, .unset, .unset, .unset, .unset, .unset, .unset, .unset, .unset, .unset, .unset, .unset, .unset, .unset, .unset] [])) target := fun target kt => own_j0 p1 q2 q3 q4 q5 p6 X0 hx hZ hw hby hown hc9 target (castTop (by rw [hk, h_v0, h_v1, h_v2, h_v3, h_w0, h_w1, h_w2, h_w3]) kt)
  obtain ⟨T7, h7, k7, X7, e7, E7, A7, I7, st7⟩ := newPE X0 hx hZ (hw _ (List.mem_of_getElem? (i := 1) rfl)) e0 (g := (mkF m 73 (own_L p1 q2 q3 q4 q5 p6 (4 : Int32) (0 : Int32) v0 v1 v2 v3 w0 w1 w2 w3 [.unset, .unset, .unset, .unset, .unset, .unset]) [(.int (4 : Int32))])) rfl (hb hby at_73) rfl (by decide) (cap := 4) (by decide) (by decide) (by decide) (by decide) (ad := "[I") rfl
  obtain ⟨b7, g7⟩ : ∃ z, z = h0.size := ⟨_, rfl⟩      -- the fresh array's address
  have Z7 : n0 ≤ h7.size := Nat.le_trans Z0 E7.1
  rw [← g7] at A7 I7 st7
  have V_b7 : Arv Z h7 b7 k7 .int (4 : Int32) [(.int (0 : Int32)), (.int (0 : Int32)), (.int (0 : Int32)), (.int (0 : Int32))] (.int (0 : Int32)) := (Arv.new A7 (by decide)).pad (pad_rep [] (.int (0 : Int32)) 4)
  have g_b7 : n0 ≤ b7 := Nat.le_trans Z0 (Nat.le_of_eq g7.symm)
  have sz_b7 : h0.size ≤ b7 := (Nat.le_trans (Keep.refl h0 []).1 (Nat.le_of_eq g7.symm))
  have K7 : Keep h0 h7 [] := (Keep.refl h0 []).ext E7
  obtain ⟨cl_b7_87, Ar_b7, q_b7, S_b7, N_b7, H_b7, G_b7⟩ := V_b7      -- open the array's fact as it stands now (its cell, kind, length, elements)
  have hin87 : ¬ ((0 : Int32) < 0 ∨ cl_b7_87.slots.size ≤ ((0 : Int32)).toNatClampNeg) := inb_of S_b7 ⟨by decide, by decide⟩
  obtain ⟨T8, h8, X8, e8, W8, st8⟩ := stI X7 hx hZ e7 Ar_b7 (j := (0 : Int32)) hin87 (g := (mkF m 87 (own_L p1 q2 q3 q4 q5 p6 (4 : Int32) (0 : Int32) v0 v1 v2 v3 w0 w1 w2 w3 [.val (.ref b7), .unset, .unset, .unset, .unset, .unset]) [(.int v0), (.int (0 : Int32)), (.ref b7)])) rfl rfl (hb hby at_87)
  have Z8 : n0 ≤ h8.size := Nat.le_trans Z7 (Keep.of_wr W8).1
  have V_b7_8 := Arv.set Ar_b7 q_b7 S_b7 N_b7 H_b7 G_b7 rfl W8 0 rfl (Nat.le_of_ble_eq_true rfl)      -- the array as it stands now (the place must lie among its first values: Arv.pad with pad_rep lengthens them)
  have K8 : Keep h0 h8 [] := K7.wr W8 (Or.inr sz_b7)
  have N8 := Fr.snoc X8 N0 g_b7
  obtain ⟨cl_b7_99, Ar_b7, q_b7, S_b7, N_b7, H_b7, G_b7⟩ := V_b7_8      -- open the array's fact as it stands now (its cell, kind, length, elements)
  have hin99 : ¬ ((1 : Int32) < 0 ∨ cl_b7_99.slots.size ≤ ((1 : Int32)).toNatClampNeg) := inb_of S_b7 ⟨by decide, by decide⟩
  obtain ⟨T9, h9, X9, e9, W9, st9⟩ := stI X8 hx hZ e8 Ar_b7 (j := (1 : Int32)) hin99 (g := (mkF m 99 (own_L p1 q2 q3 q4 q5 p6 (4 : Int32) (0 : Int32) v0 v1 v2 v3 w0 w1 w2 w3 [.val (.ref b7), .unset, .unset, .unset, .unset, .unset]) [(.int v1), (.int (1 : Int32)), (.ref b7)])) rfl rfl (hb hby at_99)
  have Z9 : n0 ≤ h9.size := Nat.le_trans Z8 (Keep.of_wr W9).1
  have V_b7_9 := Arv.set Ar_b7 q_b7 S_b7 N_b7 H_b7 G_b7 rfl W9 1 rfl (Nat.le_of_ble_eq_true rfl)      -- the array as it stands now (the place must lie among its first values: Arv.pad with pad_rep lengthens them)
  have K9 : Keep h0 h9 [] := K8.wr W9 (Or.inr sz_b7)
  have N9 := Fr.snoc X9 N8 g_b7
  obtain ⟨cl_b7_111, Ar_b7, q_b7, S_b7, N_b7, H_b7, G_b7⟩ := V_b7_9      -- open the array's fact as it stands now (its cell, kind, length, elements)
  have hin111 : ¬ ((2 : Int32) < 0 ∨ cl_b7_111.slots.size ≤ ((2 : Int32)).toNatClampNeg) := inb_of S_b7 ⟨by decide, by decide⟩
  obtain ⟨T10, h10, X10, e10, W10, st10⟩ := stI X9 hx hZ e9 Ar_b7 (j := (2 : Int32)) hin111 (g := (mkF m 111 (own_L p1 q2 q3 q4 q5 p6 (4 : Int32) (0 : Int32) v0 v1 v2 v3 w0 w1 w2 w3 [.val (.ref b7), .unset, .unset, .unset, .unset, .unset]) [(.int v2), (.int (2 : Int32)), (.ref b7)])) rfl rfl (hb hby at_111)
  have Z10 : n0 ≤ h10.size := Nat.le_trans Z9 (Keep.of_wr W10).1
  have V_b7_10 := Arv.set Ar_b7 q_b7 S_b7 N_b7 H_b7 G_b7 rfl W10 2 rfl (Nat.le_of_ble_eq_true rfl)      -- the array as it stands now (the place must lie among its first values: Arv.pad with pad_rep lengthens them)
  have K10 : Keep h0 h10 [] := K9.wr W10 (Or.inr sz_b7)
  have N10 := Fr.snoc X10 N9 g_b7
  obtain ⟨cl_b7_123, Ar_b7, q_b7, S_b7, N_b7, H_b7, G_b7⟩ := V_b7_10      -- open the array's fact as it stands now (its cell, kind, length, elements)
  have hin123 : ¬ ((3 : Int32) < 0 ∨ cl_b7_123.slots.size ≤ ((3 : Int32)).toNatClampNeg) := inb_of S_b7 ⟨by decide, by decide⟩
  obtain ⟨T11, h11, X11, e11, W11, st11⟩ := stI X10 hx hZ e10 Ar_b7 (j := (3 : Int32)) hin123 (g := (mkF m 123 (own_L p1 q2 q3 q4 q5 p6 (4 : Int32) (0 : Int32) v0 v1 v2 v3 w0 w1 w2 w3 [.val (.ref b7), .unset, .unset, .unset, .unset, .unset]) [(.int v3), (.int (3 : Int32)), (.ref b7)])) rfl rfl (hb hby at_123)
  have Z11 : n0 ≤ h11.size := Nat.le_trans Z10 (Keep.of_wr W11).1
  have V_b7_11 := Arv.set Ar_b7 q_b7 S_b7 N_b7 H_b7 G_b7 rfl W11 3 rfl (Nat.le_of_ble_eq_true rfl)      -- the array as it stands now (the place must lie among its first values: Arv.pad with pad_rep lengthens them)
  have K11 : Keep h0 h11 [] := K10.wr W11 (Or.inr sz_b7)
  have N11 := Fr.snoc X11 N10 g_b7
  have jmp_124 : ∀ target, Steps p.tables e below (T11.setTop (mkF m 131 (own_L p1 q2 q3 q4 q5 p6 (4 : Int32) (0 : Int32) v0 v1 v2 v3 w0 w1 w2 w3 [.val (.ref b7), .val (.int (4 : Int32)), .unset, .unset, .unset, .unset]) [])) target → Steps p.tables e below (T11.setTop (mkF m 124 (own_L p1 q2 q3 q4 q5 p6 (4 : Int32) (0 : Int32) v0 v1 v2 v3 w0 w1 w2 w3 [.val (.ref b7), .unset, .unset, .unset, .unset, .unset]) [])) target := by
    intro target kt
    · have hm : (4 : Int32) + (0 : Int32) = (4 : Int32) := by decide
      show Steps p.tables e below (T11.setTop (mkF m 124 (own_L p1 q2 q3 q4 q5 p6 (4 : Int32) (0 : Int32) v0 v1 v2 v3 w0 w1 w2 w3 [.val (.ref b7), .unset, .unset, .unset, .unset, .unset]) [])) _
      refine XS.iload X11.here hx rfl (hb hby at_124) rfl ?_
      show Steps p.tables e below (T11.setTop (mkF m 126 (own_L p1 q2 q3 q4 q5 p6 (4 : Int32) (0 : Int32) v0 v1 v2 v3 w0 w1 w2 w3 [.val (.ref b7), .unset, .unset, .unset, .unset, .unset]) [(.int (4 : Int32))])) _
      refine XS.iload X11.here hx rfl (hb hby at_126) rfl ?_
      show Steps p.tables e below (T11.setTop (mkF m 128 (own_L p1 q2 q3 q4 q5 p6 (4 : Int32) (0 : Int32) v0 v1 v2 v3 w0 w1 w2 w3 [.val (.ref b7), .unset, .unset, .unset, .unset, .unset]) [(.int (0 : Int32)), (.int (4 : Int32))])) _
      refine XS.iadd X11.here hx rfl (hb hby at_128) rfl ?_
      show Steps p.tables e below (T11.setTop (mkF m 129 (own_L p1 q2 q3 q4 q5 p6 (4 : Int32) (0 : Int32) v0 v1 v2 v3 w0 w1 w2 w3 [.val (.ref b7), .unset, .unset, .unset, .unset, .unset]) [(.int ((4 : Int32) + (0 : Int32)))])) _
      refine XS.istore X11.here hx rfl (hb hby at_129) rfl (l' := (own_L p1 q2 q3 q4 q5 p6 (4 : Int32) (0 : Int32) v0 v1 v2 v3 w0 w1 w2 w3 [.val (.ref b7), .val (.int ((4 : Int32) + (0 : Int32))), .unset, .unset, .unset, .unset])) rfl ?_
      exact castTop (by rw [hm]) kt
  obtain ⟨T12, h12, k12, X12, e12, E12, A12, I12, st12⟩ := newPE X11 hx hZ (hw _ (List.mem_of_getElem? (i := 1) rfl)) e11 (g := (mkF m 133 (own_L p1 q2 q3 q4 q5 p6 (4 : Int32) (0 : Int32) v0 v1 v2 v3 w0 w1 w2 w3 [.val (.ref b7), .val (.int (4 : Int32)), .unset, .unset, .unset, .unset]) [(.int (4 : Int32))])) rfl (hb hby at_133) rfl (by decide) (cap := 4) (by decide) (by decide) (by decide) (by decide) (ad := "[I") rfl
  obtain ⟨b12, g12⟩ : ∃ z, z = h11.size := ⟨_, rfl⟩      -- the fresh array's address
  have Z12 : n0 ≤ h12.size := Nat.le_trans Z11 E12.1
  rw [← g12] at A12 I12 st12
  have V_b12 : Arv Z h12 b12 k12 .int (4 : Int32) [(.int (0 : Int32)), (.int (0 : Int32)), (.int (0 : Int32)), (.int (0 : Int32))] (.int (0 : Int32)) := (Arv.new A12 (by decide)).pad (pad_rep [] (.int (0 : Int32)) 4)
  have g_b12 : n0 ≤ b12 := Nat.le_trans (Nat.le_trans (Nat.le_trans (Nat.le_trans (Nat.le_trans (Nat.le_trans Z0 E7.1) (Keep.of_wr W8).1) (Keep.of_wr W9).1) (Keep.of_wr W10).1) (Keep.of_wr W11).1) (Nat.le_of_eq g12.symm)
  have sz_b12 : h0.size ≤ b12 := (Nat.le_trans K11.1 (Nat.le_of_eq g12.symm))
  have K12 : Keep h0 h12 [] := K11.ext E12
  obtain ⟨cl_b12_147, Ar_b12, q_b12, S_b12, N_b12, H_b12, G_b12⟩ := V_b12      -- open the array's fact as it stands now (its cell, kind, length, elements)
  have hin147 : ¬ ((0 : Int32) < 0 ∨ cl_b12_147.slots.size ≤ ((0 : Int32)).toNatClampNeg) := inb_of S_b12 ⟨by decide, by decide⟩
  obtain ⟨T13, h13, X13, e13, W13, st13⟩ := stI X12 hx hZ e12 Ar_b12 (j := (0 : Int32)) hin147 (g := (mkF m 147 (own_L p1 q2 q3 q4 q5 p6 (4 : Int32) (0 : Int32) v0 v1 v2 v3 w0 w1 w2 w3 [.val (.ref b7), .val (.int (4 : Int32)), .val (.ref b12), .unset, .unset, .unset]) [(.int w0), (.int (0 : Int32)), (.ref b12)])) rfl rfl (hb hby at_147)
  have Z13 : n0 ≤ h13.size := Nat.le_trans Z12 (Keep.of_wr W13).1
  have V_b12_13 := Arv.set Ar_b12 q_b12 S_b12 N_b12 H_b12 G_b12 rfl W13 0 rfl (Nat.le_of_ble_eq_true rfl)      -- the array as it stands now (the place must lie among its first values: Arv.pad with pad_rep lengthens them)
  have K13 : Keep h0 h13 [] := K12.wr W13 (Or.inr sz_b12)
  have N13 := Fr.snoc X13 N11 g_b12
  obtain ⟨cl_b12_159, Ar_b12, q_b12, S_b12, N_b12, H_b12, G_b12⟩ := V_b12_13      -- open the array's fact as it stands now (its cell, kind, length, elements)
  have hin159 : ¬ ((1 : Int32) < 0 ∨ cl_b12_159.slots.size ≤ ((1 : Int32)).toNatClampNeg) := inb_of S_b12 ⟨by decide, by decide⟩
  obtain ⟨T14, h14, X14, e14, W14, st14⟩ := stI X13 hx hZ e13 Ar_b12 (j := (1 : Int32)) hin159 (g := (mkF m 159 (own_L p1 q2 q3 q4 q5 p6 (4 : Int32) (0 : Int32) v0 v1 v2 v3 w0 w1 w2 w3 [.val (.ref b7), .val (.int (4 : Int32)), .val (.ref b12), .unset, .unset, .unset]) [(.int w1), (.int (1 : Int32)), (.ref b12)])) rfl rfl (hb hby at_159)
  have Z14 : n0 ≤ h14.size := Nat.le_trans Z13 (Keep.of_wr W14).1
  have V_b12_14 := Arv.set Ar_b12 q_b12 S_b12 N_b12 H_b12 G_b12 rfl W14 1 rfl (Nat.le_of_ble_eq_true rfl)      -- the array as it stands now (the place must lie among its first values: Arv.pad with pad_rep lengthens them)
  have K14 : Keep h0 h14 [] := K13.wr W14 (Or.inr sz_b12)
  have N14 := Fr.snoc X14 N13 g_b12
  obtain ⟨cl_b12_171, Ar_b12, q_b12, S_b12, N_b12, H_b12, G_b12⟩ := V_b12_14      -- open the array's fact as it stands now (its cell, kind, length, elements)
  have hin171 : ¬ ((2 : Int32) < 0 ∨ cl_b12_171.slots.size ≤ ((2 : Int32)).toNatClampNeg) := inb_of S_b12 ⟨by decide, by decide⟩
  obtain ⟨T15, h15, X15, e15, W15, st15⟩ := stI X14 hx hZ e14 Ar_b12 (j := (2 : Int32)) hin171 (g := (mkF m 171 (own_L p1 q2 q3 q4 q5 p6 (4 : Int32) (0 : Int32) v0 v1 v2 v3 w0 w1 w2 w3 [.val (.ref b7), .val (.int (4 : Int32)), .val (.ref b12), .unset, .unset, .unset]) [(.int w2), (.int (2 : Int32)), (.ref b12)])) rfl rfl (hb hby at_171)
  have Z15 : n0 ≤ h15.size := Nat.le_trans Z14 (Keep.of_wr W15).1
  have V_b12_15 := Arv.set Ar_b12 q_b12 S_b12 N_b12 H_b12 G_b12 rfl W15 2 rfl (Nat.le_of_ble_eq_true rfl)      -- the array as it stands now (the place must lie among its first values: Arv.pad with pad_rep lengthens them)
  have K15 : Keep h0 h15 [] := K14.wr W15 (Or.inr sz_b12)
  have N15 := Fr.snoc X15 N14 g_b12
  obtain ⟨cl_b12_183, Ar_b12, q_b12, S_b12, N_b12, H_b12, G_b12⟩ := V_b12_15      -- open the array's fact as it stands now (its cell, kind, length, elements)
  have hin183 : ¬ ((3 : Int32) < 0 ∨ cl_b12_183.slots.size ≤ ((3 : Int32)).toNatClampNeg) := inb_of S_b12 ⟨by decide, by decide⟩
  obtain ⟨T16, h16, X16, e16, W16, st16⟩ := stI X15 hx hZ e15 Ar_b12 (j := (3 : Int32)) hin183 (g := (mkF m 183 (own_L p1 q2 q3 q4 q5 p6 (4 : Int32) (0 : Int32) v0 v1 v2 v3 w0 w1 w2 w3 [.val (.ref b7), .val (.int (4 : Int32)), .val (.ref b12), .unset, .unset, .unset]) [(.int w3), (.int (3 : Int32)), (.ref b12)])) rfl rfl (hb hby at_183)
  have Z16 : n0 ≤ h16.size := Nat.le_trans Z15 (Keep.of_wr W16).1
  have V_b12_16 := Arv.set Ar_b12 q_b12 S_b12 N_b12 H_b12 G_b12 rfl W16 3 rfl (Nat.le_of_ble_eq_true rfl)      -- the array as it stands now (the place must lie among its first values: Arv.pad with pad_rep lengthens them)
  have K16 : Keep h0 h16 [] := K15.wr W16 (Or.inr sz_b12)
  have N16 := Fr.snoc X16 N15 g_b12
  obtain ⟨T17, h17, X17, e17, E17, A17, D17, -, st17⟩ := newO X16 hx hZ hown (hw _ (List.mem_of_getElem? (i := 2) rfl)) (hw _ (List.mem_of_getElem? (i := 3) rfl)) (hw _ (List.mem_of_getElem? (i := 4) rfl)) e16 (g := (mkF m 196 (own_L p1 q2 q3 q4 q5 p6 (4 : Int32) (0 : Int32) v0 v1 v2 v3 w0 w1 w2 w3 [.val (.ref b7), .val (.int (4 : Int32)), .val (.ref b12), .unset, .unset, .unset]) [])) rfl (hb hby at_196) (by decide) (by decide)
  obtain ⟨b17, g17⟩ : ∃ z, z = h16.size := ⟨_, rfl⟩      -- the fresh object's address
  have Z17 : n0 ≤ h17.size := Nat.le_trans Z16 E17.1
  rw [← g17] at A17 D17 st17      -- A17 : Exa Z h17 b17 "com/example/stagecraft/stagecraft/examples/GenericDotProduct"; E17 : Ext h16 h17 (carries every older fact: .ext E17)
  have F_fixed_b17 : Fld Z h17 b17 "com/example/stagecraft/stagecraft/examples/GenericDotProduct" "fixed" "[I" .null := D17 (Or.inr (hw _ (List.mem_of_getElem? (i := 21) rfl))) (ty := (.array .int)) (by decide)
  have E_b17 := A17
  have g_b17 : n0 ≤ b17 := Nat.le_trans (Nat.le_trans (Nat.le_trans (Nat.le_trans (Nat.le_trans (Nat.le_trans (Nat.le_trans (Nat.le_trans (Nat.le_trans (Nat.le_trans (Nat.le_trans Z0 E7.1) (Keep.of_wr W8).1) (Keep.of_wr W9).1) (Keep.of_wr W10).1) (Keep.of_wr W11).1) E12.1) (Keep.of_wr W13).1) (Keep.of_wr W14).1) (Keep.of_wr W15).1) (Keep.of_wr W16).1) (Nat.le_of_eq g17.symm)
  have sz_b17 : h0.size ≤ b17 := (Nat.le_trans K16.1 (Nat.le_of_eq g17.symm))
  have K17 : Keep h0 h17 [] := K16.ext E17
  have CV1_b7 := ((((((V_b7_11.ext E12).other W13 (Nat.ne_of_lt (Nat.lt_of_lt_of_le V_b7_11.lt (Nat.le_of_eq g12.symm)))).other W14 (Nat.ne_of_lt (Nat.lt_of_lt_of_le V_b7_11.lt (Nat.le_of_eq g12.symm)))).other W15 (Nat.ne_of_lt (Nat.lt_of_lt_of_le V_b7_11.lt (Nat.le_of_eq g12.symm)))).other W16 (Nat.ne_of_lt (Nat.lt_of_lt_of_le V_b7_11.lt (Nat.le_of_eq g12.symm)))).ext E17)
  have CE1_b7 := ((((((((((I7.wr W8).wr W9).wr W10).wr W11).ext E12).wr W13).wr W14).wr W15).wr W16).ext E17)
  have CV1_b12 := (V_b12_16.ext E17)
  have CE1_b12 := (((((I12.wr W13).wr W14).wr W15).wr W16).ext E17)
  have CE1_b17 := E_b17
  -- pc 202: the constructor of com/example/stagecraft/stagecraft/examples/GenericDotProduct by its contract rm1
  obtain ⟨_, _, ⟨T18, L18, k18, n18⟩, -, X18, ⟨Lc18, hQ18, l18, y18, z18⟩, st18⟩ := X17.specialBack hx (y := (⟨"com/example/stagecraft/stagecraft/examples/GenericDotProduct", "<init>", "([I)V"⟩ : MethodName)) rfl hown (mvT hZ (hw _ (List.mem_of_getElem? (i := 5) rfl))) (mvT hZ (hw _ (List.mem_of_getElem? (i := 6) rfl))) (mvT hZ (hw _ (List.mem_of_getElem? (i := 7) rfl))) (by decide) (backOf (W := 1) (rm1 l Z a0 hw [] b17 b7 k7 (4 : Int32) [(.int v0), (.int v1), (.int v2), (.int v3)] .null h17 n0 Z17 CV1_b7 (by decide) CE1_b7 E_b17 F_fixed_b17 g_b17) hZ (hw _ (List.mem_of_getElem? (i := 7) rfl)) (hw _ (List.mem_of_getElem? (i := 4) rfl)) (by decide) (by decide)) (g := (mkF m 202 (own_L p1 q2 q3 q4 q5 p6 (4 : Int32) (0 : Int32) v0 v1 v2 v3 w0 w1 w2 w3 [.val (.ref b7), .val (.int (4 : Int32)), .val (.ref b12), .unset, .unset, .unset]) [(.ref b7), (.ref b17), (.ref b17)])) rfl (by rw [hml]; rfl) (Steps.refl _) (a := b17) (argsL := [(.ref b7)]) (rest := [(.ref b17)]) (lenOf pd_0_0 rfl) rfl (by show 2 * 0 + _ ≤ _; exact Nat.le_of_eq rfl) (hb hby at_202) (fun _ _ => ⟨rfl, e17, (by decide : 3 + 1 ≤ _), (by decide : 9 + 4 ≤ _)⟩)
  dsimp only [Pt.U, Pt.locs, Pt.cells, Pt.slots] at X18 l18 y18 z18 st18 hQ18
  subst l18 y18 z18
  obtain ⟨rfl, N18q, K18q, E18x, t18, F18a, V18a⟩ := hQ18
  have Z18 : n0 ≤ T18.heap.size := Nat.le_trans Z17 K18q.1
  have N18 := Fr.app N16 N18q
  have CE2_b7 := (((((((((((I7.wr W8).wr W9).wr W10).wr W11).ext E12).wr W13).wr W14).wr W15).wr W16).ext E17).keep K18q)
  have CE2_b12 := ((((((I12.wr W13).wr W14).wr W15).wr W16).ext E17).keep K18q)
  have CE2_b17 := (E_b17.keep K18q)
  -- pc 211: com/example/stagecraft/stagecraft/examples/GenericDotProduct.apply by the contract of the body that the receiver's class selects, rm3
  obtain ⟨cq19, kq19, q19a, q19b, q19c⟩ := isOf hZ rfl (E_b17.keep K18q)
  obtain ⟨_, _, ⟨T19, L19, k19, n19⟩, -, X19, ⟨Lc19, hQ19, l19, y19, z19⟩, st19⟩ := X18.virtualBack hx (y := (⟨"com/example/stagecraft/stagecraft/examples/GenericDotProduct", "apply", "([I)I"⟩ : MethodName)) (z := (⟨"com/example/stagecraft/stagecraft/examples/GenericDotProduct", "apply", "([I)I"⟩ : MethodName)) hown (mvT hZ (hw _ (List.mem_of_getElem? (i := 22) rfl))) (mvT hZ (hw _ (List.mem_of_getElem? (i := 23) rfl))) (notFace_of_selects (args := #[]) (mvT hZ (hw _ (List.mem_of_getElem? (i := 25) rfl)))) (mvT hZ (hw _ (List.mem_of_getElem? (i := 25) rfl))) (mvT hZ (hw _ (List.mem_of_getElem? (i := 24) rfl))) (by decide) (backOf (W := 0) (rm3 l Z a0 hw [] b17 b12 t18 k7 k12 (4 : Int32) (4 : Int32) [(.int v0), (.int v1), (.int v2), (.int v3)] [(.int w0), (.int w1), (.int w2), (.int w3)] (fun j => [v0, v1, v2, v3].getD j 0) (fun j => [w0, w1, w2, w3].getD j 0) 4 T18.heap n0 Z18 (by decide) rfl (by decide) F18a V18a (CV1_b12.keep K18q (ninS (Nat.ne_of_lt (Nat.lt_of_lt_of_le V_b12_16.lt (Nat.le_of_eq g17.symm))) nin0)) (fun j hj => by rcases j with _ | _ | _ | _ | j <;> first | rfl | (exfalso; omega)) (fun j hj => by rcases j with _ | _ | _ | _ | j <;> first | rfl | (exfalso; omega))) hZ (hw _ (List.mem_of_getElem? (i := 26) rfl)) (hw _ (List.mem_of_getElem? (i := 4) rfl)) (by decide) (by decide)) q19a q19c (g := (mkF m 211 (own_L p1 q2 q3 q4 q5 p6 (4 : Int32) (0 : Int32) v0 v1 v2 v3 w0 w1 w2 w3 [.val (.ref b7), .val (.int (4 : Int32)), .val (.ref b12), .val (.ref b17), .unset, .unset]) [(.ref b12), (.ref b17)])) rfl (by rw [hml]; rfl) (Steps.refl _) (argsL := [(.ref b12)]) (rest := []) (lenOf pd_0_3 rfl) rfl (by show 2 * 0 + _ ≤ _; exact Nat.le_of_eq rfl) (hb hby at_211) (fun _ _ => ⟨rfl, rfl, (by decide : 4 + 0 ≤ _), (by decide : 13 + 0 ≤ _)⟩)
  dsimp only [Pt.U, Pt.locs, Pt.cells, Pt.slots] at X19 l19 y19 z19 st19 hQ19
  subst l19 y19 z19
  obtain ⟨rfl, N19q, E19q⟩ := hQ19
  have K19q : Keep T18.heap T19.heap [] := by rw [E19q]; exact Keep.refl _ _
  have Z19 : n0 ≤ T19.heap.size := Nat.le_trans Z18 K19q.1
  have N19 := Fr.app N18 N19q
  obtain ⟨fs, hr, hrun, hended, hW, hsame⟩ := X19.leave (v := some (.int (1 : Int32))) (fun h => by rw [Bd.returns] at h; cases h)
  refine ⟨_, _, pre0 _ ?_, hrun, hended, _, _, rfl, ?_, ⟨_, rfl⟩, hW, hsame.mono (by decide) (by decide)⟩
  -- 4. STEPS
  · show Steps p.tables e below (s₁.setTop (mkF m 0 #[.val (.int p1), .val (.long q2), .second, .val (.long q3), .second, .val (.long q4), .second, .val (.long q5), .second, .val (.int p6), .unset, .unset, .unset, .unset, .unset, .unset, .unset, .unset, .unset, .unset, .unset, .unset, .unset, .unset, .unset, .unset, .unset] [])) _
    refine jmp_0 _ ?_
    show Steps p.tables e below (s₁.setTop (mkF m 71 (own_L p1 q2 q3 q4 q5 p6 (4 : Int32) (0 : Int32) v0 v1 v2 v3 w0 w1 w2 w3 [.unset, .unset, .unset, .unset, .unset, .unset]) [])) _
    refine XS.iload X0.here hx rfl (hb hby at_71) rfl ?_
    show Steps p.tables e below (s₁.setTop (mkF m 73 (own_L p1 q2 q3 q4 q5 p6 (4 : Int32) (0 : Int32) v0 v1 v2 v3 w0 w1 w2 w3 [.unset, .unset, .unset, .unset, .unset, .unset]) [(.int (4 : Int32))])) _
    refine st7 _ ?_
    show Steps p.tables e below (T7.setTop (mkF m 75 (own_L p1 q2 q3 q4 q5 p6 (4 : Int32) (0 : Int32) v0 v1 v2 v3 w0 w1 w2 w3 [.unset, .unset, .unset, .unset, .unset, .unset]) [(.ref b7)])) _
    refine XS.astore X7.here hx rfl (hb hby at_75) rfl rfl (l' := (own_L p1 q2 q3 q4 q5 p6 (4 : Int32) (0 : Int32) v0 v1 v2 v3 w0 w1 w2 w3 [.val (.ref b7), .unset, .unset, .unset, .unset, .unset])) rfl ?_
    show Steps p.tables e below (T7.setTop (mkF m 77 (own_L p1 q2 q3 q4 q5 p6 (4 : Int32) (0 : Int32) v0 v1 v2 v3 w0 w1 w2 w3 [.val (.ref b7), .unset, .unset, .unset, .unset, .unset]) [])) _
    refine XS.iload X7.here hx rfl (hb hby at_77) rfl ?_
    show Steps p.tables e below (T7.setTop (mkF m 79 (own_L p1 q2 q3 q4 q5 p6 (4 : Int32) (0 : Int32) v0 v1 v2 v3 w0 w1 w2 w3 [.val (.ref b7), .unset, .unset, .unset, .unset, .unset]) [(.int (4 : Int32))])) _
    refine XS.ifNo X7.here hx rfl (hb hby at_79) rfl ((if0 _ _).trans (tlt (by decide : (0 : Int32) < (4 : Int32))).2.2.2) ?_
    show Steps p.tables e below (T7.setTop (mkF m 82 (own_L p1 q2 q3 q4 q5 p6 (4 : Int32) (0 : Int32) v0 v1 v2 v3 w0 w1 w2 w3 [.val (.ref b7), .unset, .unset, .unset, .unset, .unset]) [])) _
    refine XS.aload X7.here hx rfl (hb hby at_82) rfl rfl ?_
    show Steps p.tables e below (T7.setTop (mkF m 84 (own_L p1 q2 q3 q4 q5 p6 (4 : Int32) (0 : Int32) v0 v1 v2 v3 w0 w1 w2 w3 [.val (.ref b7), .unset, .unset, .unset, .unset, .unset]) [(.ref b7)])) _
    refine XS.iconst X7.here hx rfl (hb hby at_84) ?_
    show Steps p.tables e below (T7.setTop (mkF m 85 (own_L p1 q2 q3 q4 q5 p6 (4 : Int32) (0 : Int32) v0 v1 v2 v3 w0 w1 w2 w3 [.val (.ref b7), .unset, .unset, .unset, .unset, .unset]) [(.int (0 : Int32)), (.ref b7)])) _
    refine XS.iload X7.here hx rfl (hb hby at_85) rfl ?_
    show Steps p.tables e below (T7.setTop (mkF m 87 (own_L p1 q2 q3 q4 q5 p6 (4 : Int32) (0 : Int32) v0 v1 v2 v3 w0 w1 w2 w3 [.val (.ref b7), .unset, .unset, .unset, .unset, .unset]) [(.int v0), (.int (0 : Int32)), (.ref b7)])) _
    refine st8 _ ?_
    show Steps p.tables e below (T8.setTop (mkF m 88 (own_L p1 q2 q3 q4 q5 p6 (4 : Int32) (0 : Int32) v0 v1 v2 v3 w0 w1 w2 w3 [.val (.ref b7), .unset, .unset, .unset, .unset, .unset]) [])) _
    refine XS.iload X8.here hx rfl (hb hby at_88) rfl ?_
    show Steps p.tables e below (T8.setTop (mkF m 90 (own_L p1 q2 q3 q4 q5 p6 (4 : Int32) (0 : Int32) v0 v1 v2 v3 w0 w1 w2 w3 [.val (.ref b7), .unset, .unset, .unset, .unset, .unset]) [(.int (4 : Int32))])) _
    refine XS.iconst X8.here hx rfl (hb hby at_90) ?_
    show Steps p.tables e below (T8.setTop (mkF m 91 (own_L p1 q2 q3 q4 q5 p6 (4 : Int32) (0 : Int32) v0 v1 v2 v3 w0 w1 w2 w3 [.val (.ref b7), .unset, .unset, .unset, .unset, .unset]) [(.int (1 : Int32)), (.int (4 : Int32))])) _
    refine XS.icmpNo X8.here hx rfl (hb hby at_91) rfl (tlt (by decide : (1 : Int32) < (4 : Int32))).2.2.2 ?_
    show Steps p.tables e below (T8.setTop (mkF m 94 (own_L p1 q2 q3 q4 q5 p6 (4 : Int32) (0 : Int32) v0 v1 v2 v3 w0 w1 w2 w3 [.val (.ref b7), .unset, .unset, .unset, .unset, .unset]) [])) _
    refine XS.aload X8.here hx rfl (hb hby at_94) rfl rfl ?_
    show Steps p.tables e below (T8.setTop (mkF m 96 (own_L p1 q2 q3 q4 q5 p6 (4 : Int32) (0 : Int32) v0 v1 v2 v3 w0 w1 w2 w3 [.val (.ref b7), .unset, .unset, .unset, .unset, .unset]) [(.ref b7)])) _
    refine XS.iconst X8.here hx rfl (hb hby at_96) ?_
    show Steps p.tables e below (T8.setTop (mkF m 97 (own_L p1 q2 q3 q4 q5 p6 (4 : Int32) (0 : Int32) v0 v1 v2 v3 w0 w1 w2 w3 [.val (.ref b7), .unset, .unset, .unset, .unset, .unset]) [(.int (1 : Int32)), (.ref b7)])) _
    refine XS.iload X8.here hx rfl (hb hby at_97) rfl ?_
    show Steps p.tables e below (T8.setTop (mkF m 99 (own_L p1 q2 q3 q4 q5 p6 (4 : Int32) (0 : Int32) v0 v1 v2 v3 w0 w1 w2 w3 [.val (.ref b7), .unset, .unset, .unset, .unset, .unset]) [(.int v1), (.int (1 : Int32)), (.ref b7)])) _
    refine st9 _ ?_
    show Steps p.tables e below (T9.setTop (mkF m 100 (own_L p1 q2 q3 q4 q5 p6 (4 : Int32) (0 : Int32) v0 v1 v2 v3 w0 w1 w2 w3 [.val (.ref b7), .unset, .unset, .unset, .unset, .unset]) [])) _
    refine XS.iload X9.here hx rfl (hb hby at_100) rfl ?_
    show Steps p.tables e below (T9.setTop (mkF m 102 (own_L p1 q2 q3 q4 q5 p6 (4 : Int32) (0 : Int32) v0 v1 v2 v3 w0 w1 w2 w3 [.val (.ref b7), .unset, .unset, .unset, .unset, .unset]) [(.int (4 : Int32))])) _
    refine XS.iconst X9.here hx rfl (hb hby at_102) ?_
    show Steps p.tables e below (T9.setTop (mkF m 103 (own_L p1 q2 q3 q4 q5 p6 (4 : Int32) (0 : Int32) v0 v1 v2 v3 w0 w1 w2 w3 [.val (.ref b7), .unset, .unset, .unset, .unset, .unset]) [(.int (2 : Int32)), (.int (4 : Int32))])) _
    refine XS.icmpNo X9.here hx rfl (hb hby at_103) rfl (tlt (by decide : (2 : Int32) < (4 : Int32))).2.2.2 ?_
    show Steps p.tables e below (T9.setTop (mkF m 106 (own_L p1 q2 q3 q4 q5 p6 (4 : Int32) (0 : Int32) v0 v1 v2 v3 w0 w1 w2 w3 [.val (.ref b7), .unset, .unset, .unset, .unset, .unset]) [])) _
    refine XS.aload X9.here hx rfl (hb hby at_106) rfl rfl ?_
    show Steps p.tables e below (T9.setTop (mkF m 108 (own_L p1 q2 q3 q4 q5 p6 (4 : Int32) (0 : Int32) v0 v1 v2 v3 w0 w1 w2 w3 [.val (.ref b7), .unset, .unset, .unset, .unset, .unset]) [(.ref b7)])) _
    refine XS.iconst X9.here hx rfl (hb hby at_108) ?_
    show Steps p.tables e below (T9.setTop (mkF m 109 (own_L p1 q2 q3 q4 q5 p6 (4 : Int32) (0 : Int32) v0 v1 v2 v3 w0 w1 w2 w3 [.val (.ref b7), .unset, .unset, .unset, .unset, .unset]) [(.int (2 : Int32)), (.ref b7)])) _
    refine XS.iload X9.here hx rfl (hb hby at_109) rfl ?_
    show Steps p.tables e below (T9.setTop (mkF m 111 (own_L p1 q2 q3 q4 q5 p6 (4 : Int32) (0 : Int32) v0 v1 v2 v3 w0 w1 w2 w3 [.val (.ref b7), .unset, .unset, .unset, .unset, .unset]) [(.int v2), (.int (2 : Int32)), (.ref b7)])) _
    refine st10 _ ?_
    show Steps p.tables e below (T10.setTop (mkF m 112 (own_L p1 q2 q3 q4 q5 p6 (4 : Int32) (0 : Int32) v0 v1 v2 v3 w0 w1 w2 w3 [.val (.ref b7), .unset, .unset, .unset, .unset, .unset]) [])) _
    refine XS.iload X10.here hx rfl (hb hby at_112) rfl ?_
    show Steps p.tables e below (T10.setTop (mkF m 114 (own_L p1 q2 q3 q4 q5 p6 (4 : Int32) (0 : Int32) v0 v1 v2 v3 w0 w1 w2 w3 [.val (.ref b7), .unset, .unset, .unset, .unset, .unset]) [(.int (4 : Int32))])) _
    refine XS.iconst X10.here hx rfl (hb hby at_114) ?_
    show Steps p.tables e below (T10.setTop (mkF m 115 (own_L p1 q2 q3 q4 q5 p6 (4 : Int32) (0 : Int32) v0 v1 v2 v3 w0 w1 w2 w3 [.val (.ref b7), .unset, .unset, .unset, .unset, .unset]) [(.int (3 : Int32)), (.int (4 : Int32))])) _
    refine XS.icmpNo X10.here hx rfl (hb hby at_115) rfl (tlt (by decide : (3 : Int32) < (4 : Int32))).2.2.2 ?_
    show Steps p.tables e below (T10.setTop (mkF m 118 (own_L p1 q2 q3 q4 q5 p6 (4 : Int32) (0 : Int32) v0 v1 v2 v3 w0 w1 w2 w3 [.val (.ref b7), .unset, .unset, .unset, .unset, .unset]) [])) _
    refine XS.aload X10.here hx rfl (hb hby at_118) rfl rfl ?_
    show Steps p.tables e below (T10.setTop (mkF m 120 (own_L p1 q2 q3 q4 q5 p6 (4 : Int32) (0 : Int32) v0 v1 v2 v3 w0 w1 w2 w3 [.val (.ref b7), .unset, .unset, .unset, .unset, .unset]) [(.ref b7)])) _
    refine XS.iconst X10.here hx rfl (hb hby at_120) ?_
    show Steps p.tables e below (T10.setTop (mkF m 121 (own_L p1 q2 q3 q4 q5 p6 (4 : Int32) (0 : Int32) v0 v1 v2 v3 w0 w1 w2 w3 [.val (.ref b7), .unset, .unset, .unset, .unset, .unset]) [(.int (3 : Int32)), (.ref b7)])) _
    refine XS.iload X10.here hx rfl (hb hby at_121) rfl ?_
    show Steps p.tables e below (T10.setTop (mkF m 123 (own_L p1 q2 q3 q4 q5 p6 (4 : Int32) (0 : Int32) v0 v1 v2 v3 w0 w1 w2 w3 [.val (.ref b7), .unset, .unset, .unset, .unset, .unset]) [(.int v3), (.int (3 : Int32)), (.ref b7)])) _
    refine st11 _ ?_
    show Steps p.tables e below (T11.setTop (mkF m 124 (own_L p1 q2 q3 q4 q5 p6 (4 : Int32) (0 : Int32) v0 v1 v2 v3 w0 w1 w2 w3 [.val (.ref b7), .unset, .unset, .unset, .unset, .unset]) [])) _
    refine jmp_124 _ ?_
    show Steps p.tables e below (T11.setTop (mkF m 131 (own_L p1 q2 q3 q4 q5 p6 (4 : Int32) (0 : Int32) v0 v1 v2 v3 w0 w1 w2 w3 [.val (.ref b7), .val (.int (4 : Int32)), .unset, .unset, .unset, .unset]) [])) _
    refine XS.iload X11.here hx rfl (hb hby at_131) rfl ?_
    show Steps p.tables e below (T11.setTop (mkF m 133 (own_L p1 q2 q3 q4 q5 p6 (4 : Int32) (0 : Int32) v0 v1 v2 v3 w0 w1 w2 w3 [.val (.ref b7), .val (.int (4 : Int32)), .unset, .unset, .unset, .unset]) [(.int (4 : Int32))])) _
    refine st12 _ ?_
    show Steps p.tables e below (T12.setTop (mkF m 135 (own_L p1 q2 q3 q4 q5 p6 (4 : Int32) (0 : Int32) v0 v1 v2 v3 w0 w1 w2 w3 [.val (.ref b7), .val (.int (4 : Int32)), .unset, .unset, .unset, .unset]) [(.ref b12)])) _
    refine XS.astore X12.here hx rfl (hb hby at_135) rfl rfl (l' := (own_L p1 q2 q3 q4 q5 p6 (4 : Int32) (0 : Int32) v0 v1 v2 v3 w0 w1 w2 w3 [.val (.ref b7), .val (.int (4 : Int32)), .val (.ref b12), .unset, .unset, .unset])) rfl ?_
    show Steps p.tables e below (T12.setTop (mkF m 137 (own_L p1 q2 q3 q4 q5 p6 (4 : Int32) (0 : Int32) v0 v1 v2 v3 w0 w1 w2 w3 [.val (.ref b7), .val (.int (4 : Int32)), .val (.ref b12), .unset, .unset, .unset]) [])) _
    refine XS.iload X12.here hx rfl (hb hby at_137) rfl ?_
    show Steps p.tables e below (T12.setTop (mkF m 139 (own_L p1 q2 q3 q4 q5 p6 (4 : Int32) (0 : Int32) v0 v1 v2 v3 w0 w1 w2 w3 [.val (.ref b7), .val (.int (4 : Int32)), .val (.ref b12), .unset, .unset, .unset]) [(.int (4 : Int32))])) _
    refine XS.ifNo X12.here hx rfl (hb hby at_139) rfl ((if0 _ _).trans (tlt (by decide : (0 : Int32) < (4 : Int32))).2.2.2) ?_
    show Steps p.tables e below (T12.setTop (mkF m 142 (own_L p1 q2 q3 q4 q5 p6 (4 : Int32) (0 : Int32) v0 v1 v2 v3 w0 w1 w2 w3 [.val (.ref b7), .val (.int (4 : Int32)), .val (.ref b12), .unset, .unset, .unset]) [])) _
    refine XS.aload X12.here hx rfl (hb hby at_142) rfl rfl ?_
    show Steps p.tables e below (T12.setTop (mkF m 144 (own_L p1 q2 q3 q4 q5 p6 (4 : Int32) (0 : Int32) v0 v1 v2 v3 w0 w1 w2 w3 [.val (.ref b7), .val (.int (4 : Int32)), .val (.ref b12), .unset, .unset, .unset]) [(.ref b12)])) _
    refine XS.iconst X12.here hx rfl (hb hby at_144) ?_
    show Steps p.tables e below (T12.setTop (mkF m 145 (own_L p1 q2 q3 q4 q5 p6 (4 : Int32) (0 : Int32) v0 v1 v2 v3 w0 w1 w2 w3 [.val (.ref b7), .val (.int (4 : Int32)), .val (.ref b12), .unset, .unset, .unset]) [(.int (0 : Int32)), (.ref b12)])) _
    refine XS.iload X12.here hx rfl (hb hby at_145) rfl ?_
    show Steps p.tables e below (T12.setTop (mkF m 147 (own_L p1 q2 q3 q4 q5 p6 (4 : Int32) (0 : Int32) v0 v1 v2 v3 w0 w1 w2 w3 [.val (.ref b7), .val (.int (4 : Int32)), .val (.ref b12), .unset, .unset, .unset]) [(.int w0), (.int (0 : Int32)), (.ref b12)])) _
    refine st13 _ ?_
    show Steps p.tables e below (T13.setTop (mkF m 148 (own_L p1 q2 q3 q4 q5 p6 (4 : Int32) (0 : Int32) v0 v1 v2 v3 w0 w1 w2 w3 [.val (.ref b7), .val (.int (4 : Int32)), .val (.ref b12), .unset, .unset, .unset]) [])) _
    refine XS.iload X13.here hx rfl (hb hby at_148) rfl ?_
    show Steps p.tables e below (T13.setTop (mkF m 150 (own_L p1 q2 q3 q4 q5 p6 (4 : Int32) (0 : Int32) v0 v1 v2 v3 w0 w1 w2 w3 [.val (.ref b7), .val (.int (4 : Int32)), .val (.ref b12), .unset, .unset, .unset]) [(.int (4 : Int32))])) _
    refine XS.iconst X13.here hx rfl (hb hby at_150) ?_
    show Steps p.tables e below (T13.setTop (mkF m 151 (own_L p1 q2 q3 q4 q5 p6 (4 : Int32) (0 : Int32) v0 v1 v2 v3 w0 w1 w2 w3 [.val (.ref b7), .val (.int (4 : Int32)), .val (.ref b12), .unset, .unset, .unset]) [(.int (1 : Int32)), (.int (4 : Int32))])) _
    refine XS.icmpNo X13.here hx rfl (hb hby at_151) rfl (tlt (by decide : (1 : Int32) < (4 : Int32))).2.2.2 ?_
    show Steps p.tables e below (T13.setTop (mkF m 154 (own_L p1 q2 q3 q4 q5 p6 (4 : Int32) (0 : Int32) v0 v1 v2 v3 w0 w1 w2 w3 [.val (.ref b7), .val (.int (4 : Int32)), .val (.ref b12), .unset, .unset, .unset]) [])) _
    refine XS.aload X13.here hx rfl (hb hby at_154) rfl rfl ?_
    show Steps p.tables e below (T13.setTop (mkF m 156 (own_L p1 q2 q3 q4 q5 p6 (4 : Int32) (0 : Int32) v0 v1 v2 v3 w0 w1 w2 w3 [.val (.ref b7), .val (.int (4 : Int32)), .val (.ref b12), .unset, .unset, .unset]) [(.ref b12)])) _
    refine XS.iconst X13.here hx rfl (hb hby at_156) ?_
    show Steps p.tables e below (T13.setTop (mkF m 157 (own_L p1 q2 q3 q4 q5 p6 (4 : Int32) (0 : Int32) v0 v1 v2 v3 w0 w1 w2 w3 [.val (.ref b7), .val (.int (4 : Int32)), .val (.ref b12), .unset, .unset, .unset]) [(.int (1 : Int32)), (.ref b12)])) _
    refine XS.iload X13.here hx rfl (hb hby at_157) rfl ?_
    show Steps p.tables e below (T13.setTop (mkF m 159 (own_L p1 q2 q3 q4 q5 p6 (4 : Int32) (0 : Int32) v0 v1 v2 v3 w0 w1 w2 w3 [.val (.ref b7), .val (.int (4 : Int32)), .val (.ref b12), .unset, .unset, .unset]) [(.int w1), (.int (1 : Int32)), (.ref b12)])) _
    refine st14 _ ?_
    show Steps p.tables e below (T14.setTop (mkF m 160 (own_L p1 q2 q3 q4 q5 p6 (4 : Int32) (0 : Int32) v0 v1 v2 v3 w0 w1 w2 w3 [.val (.ref b7), .val (.int (4 : Int32)), .val (.ref b12), .unset, .unset, .unset]) [])) _
    refine XS.iload X14.here hx rfl (hb hby at_160) rfl ?_
    show Steps p.tables e below (T14.setTop (mkF m 162 (own_L p1 q2 q3 q4 q5 p6 (4 : Int32) (0 : Int32) v0 v1 v2 v3 w0 w1 w2 w3 [.val (.ref b7), .val (.int (4 : Int32)), .val (.ref b12), .unset, .unset, .unset]) [(.int (4 : Int32))])) _
    refine XS.iconst X14.here hx rfl (hb hby at_162) ?_
    show Steps p.tables e below (T14.setTop (mkF m 163 (own_L p1 q2 q3 q4 q5 p6 (4 : Int32) (0 : Int32) v0 v1 v2 v3 w0 w1 w2 w3 [.val (.ref b7), .val (.int (4 : Int32)), .val (.ref b12), .unset, .unset, .unset]) [(.int (2 : Int32)), (.int (4 : Int32))])) _
    refine XS.icmpNo X14.here hx rfl (hb hby at_163) rfl (tlt (by decide : (2 : Int32) < (4 : Int32))).2.2.2 ?_
    show Steps p.tables e below (T14.setTop (mkF m 166 (own_L p1 q2 q3 q4 q5 p6 (4 : Int32) (0 : Int32) v0 v1 v2 v3 w0 w1 w2 w3 [.val (.ref b7), .val (.int (4 : Int32)), .val (.ref b12), .unset, .unset, .unset]) [])) _
    refine XS.aload X14.here hx rfl (hb hby at_166) rfl rfl ?_
    show Steps p.tables e below (T14.setTop (mkF m 168 (own_L p1 q2 q3 q4 q5 p6 (4 : Int32) (0 : Int32) v0 v1 v2 v3 w0 w1 w2 w3 [.val (.ref b7), .val (.int (4 : Int32)), .val (.ref b12), .unset, .unset, .unset]) [(.ref b12)])) _
    refine XS.iconst X14.here hx rfl (hb hby at_168) ?_
    show Steps p.tables e below (T14.setTop (mkF m 169 (own_L p1 q2 q3 q4 q5 p6 (4 : Int32) (0 : Int32) v0 v1 v2 v3 w0 w1 w2 w3 [.val (.ref b7), .val (.int (4 : Int32)), .val (.ref b12), .unset, .unset, .unset]) [(.int (2 : Int32)), (.ref b12)])) _
    refine XS.iload X14.here hx rfl (hb hby at_169) rfl ?_
    show Steps p.tables e below (T14.setTop (mkF m 171 (own_L p1 q2 q3 q4 q5 p6 (4 : Int32) (0 : Int32) v0 v1 v2 v3 w0 w1 w2 w3 [.val (.ref b7), .val (.int (4 : Int32)), .val (.ref b12), .unset, .unset, .unset]) [(.int w2), (.int (2 : Int32)), (.ref b12)])) _
    refine st15 _ ?_
    show Steps p.tables e below (T15.setTop (mkF m 172 (own_L p1 q2 q3 q4 q5 p6 (4 : Int32) (0 : Int32) v0 v1 v2 v3 w0 w1 w2 w3 [.val (.ref b7), .val (.int (4 : Int32)), .val (.ref b12), .unset, .unset, .unset]) [])) _
    refine XS.iload X15.here hx rfl (hb hby at_172) rfl ?_
    show Steps p.tables e below (T15.setTop (mkF m 174 (own_L p1 q2 q3 q4 q5 p6 (4 : Int32) (0 : Int32) v0 v1 v2 v3 w0 w1 w2 w3 [.val (.ref b7), .val (.int (4 : Int32)), .val (.ref b12), .unset, .unset, .unset]) [(.int (4 : Int32))])) _
    refine XS.iconst X15.here hx rfl (hb hby at_174) ?_
    show Steps p.tables e below (T15.setTop (mkF m 175 (own_L p1 q2 q3 q4 q5 p6 (4 : Int32) (0 : Int32) v0 v1 v2 v3 w0 w1 w2 w3 [.val (.ref b7), .val (.int (4 : Int32)), .val (.ref b12), .unset, .unset, .unset]) [(.int (3 : Int32)), (.int (4 : Int32))])) _
    refine XS.icmpNo X15.here hx rfl (hb hby at_175) rfl (tlt (by decide : (3 : Int32) < (4 : Int32))).2.2.2 ?_
    show Steps p.tables e below (T15.setTop (mkF m 178 (own_L p1 q2 q3 q4 q5 p6 (4 : Int32) (0 : Int32) v0 v1 v2 v3 w0 w1 w2 w3 [.val (.ref b7), .val (.int (4 : Int32)), .val (.ref b12), .unset, .unset, .unset]) [])) _
    refine XS.aload X15.here hx rfl (hb hby at_178) rfl rfl ?_
    show Steps p.tables e below (T15.setTop (mkF m 180 (own_L p1 q2 q3 q4 q5 p6 (4 : Int32) (0 : Int32) v0 v1 v2 v3 w0 w1 w2 w3 [.val (.ref b7), .val (.int (4 : Int32)), .val (.ref b12), .unset, .unset, .unset]) [(.ref b12)])) _
    refine XS.iconst X15.here hx rfl (hb hby at_180) ?_
    show Steps p.tables e below (T15.setTop (mkF m 181 (own_L p1 q2 q3 q4 q5 p6 (4 : Int32) (0 : Int32) v0 v1 v2 v3 w0 w1 w2 w3 [.val (.ref b7), .val (.int (4 : Int32)), .val (.ref b12), .unset, .unset, .unset]) [(.int (3 : Int32)), (.ref b12)])) _
    refine XS.iload X15.here hx rfl (hb hby at_181) rfl ?_
    show Steps p.tables e below (T15.setTop (mkF m 183 (own_L p1 q2 q3 q4 q5 p6 (4 : Int32) (0 : Int32) v0 v1 v2 v3 w0 w1 w2 w3 [.val (.ref b7), .val (.int (4 : Int32)), .val (.ref b12), .unset, .unset, .unset]) [(.int w3), (.int (3 : Int32)), (.ref b12)])) _
    refine st16 _ ?_
    show Steps p.tables e below (T16.setTop (mkF m 184 (own_L p1 q2 q3 q4 q5 p6 (4 : Int32) (0 : Int32) v0 v1 v2 v3 w0 w1 w2 w3 [.val (.ref b7), .val (.int (4 : Int32)), .val (.ref b12), .unset, .unset, .unset]) [])) _
    refine XS.iload X16.here hx rfl (hb hby at_184) rfl ?_
    show Steps p.tables e below (T16.setTop (mkF m 186 (own_L p1 q2 q3 q4 q5 p6 (4 : Int32) (0 : Int32) v0 v1 v2 v3 w0 w1 w2 w3 [.val (.ref b7), .val (.int (4 : Int32)), .val (.ref b12), .unset, .unset, .unset]) [(.int (4 : Int32))])) _
    refine XS.iconst X16.here hx rfl (hb hby at_186) ?_
    show Steps p.tables e below (T16.setTop (mkF m 187 (own_L p1 q2 q3 q4 q5 p6 (4 : Int32) (0 : Int32) v0 v1 v2 v3 w0 w1 w2 w3 [.val (.ref b7), .val (.int (4 : Int32)), .val (.ref b12), .unset, .unset, .unset]) [(.int (4 : Int32)), (.int (4 : Int32))])) _
    refine XS.icmpYes X16.here hx rfl (pc0 := 187) (pc' := 196) rfl (hb hby at_187) rfl (flt (by decide : ¬ ((4 : Int32) < (4 : Int32)))).2.2.2 (by decide) (by decide) ?_
    show Steps p.tables e below (T16.setTop (mkF m 196 (own_L p1 q2 q3 q4 q5 p6 (4 : Int32) (0 : Int32) v0 v1 v2 v3 w0 w1 w2 w3 [.val (.ref b7), .val (.int (4 : Int32)), .val (.ref b12), .unset, .unset, .unset]) [])) _
    refine st17 _ ?_
    show Steps p.tables e below (T17.setTop (mkF m 199 (own_L p1 q2 q3 q4 q5 p6 (4 : Int32) (0 : Int32) v0 v1 v2 v3 w0 w1 w2 w3 [.val (.ref b7), .val (.int (4 : Int32)), .val (.ref b12), .unset, .unset, .unset]) [(.ref b17)])) _
    refine XS.dup X17.here hx rfl (hb hby at_199) rfl rfl ?_
    show Steps p.tables e below (T17.setTop (mkF m 200 (own_L p1 q2 q3 q4 q5 p6 (4 : Int32) (0 : Int32) v0 v1 v2 v3 w0 w1 w2 w3 [.val (.ref b7), .val (.int (4 : Int32)), .val (.ref b12), .unset, .unset, .unset]) [(.ref b17), (.ref b17)])) _
    refine XS.aload X17.here hx rfl (hb hby at_200) rfl rfl ?_
    show Steps p.tables e below (T17.setTop (mkF m 202 (own_L p1 q2 q3 q4 q5 p6 (4 : Int32) (0 : Int32) v0 v1 v2 v3 w0 w1 w2 w3 [.val (.ref b7), .val (.int (4 : Int32)), .val (.ref b12), .unset, .unset, .unset]) [(.ref b7), (.ref b17), (.ref b17)])) _
    refine st18.trans ?_
    show Steps p.tables e below (T18.setTop (mkF m 205 (own_L p1 q2 q3 q4 q5 p6 (4 : Int32) (0 : Int32) v0 v1 v2 v3 w0 w1 w2 w3 [.val (.ref b7), .val (.int (4 : Int32)), .val (.ref b12), .unset, .unset, .unset]) [(.ref b17)])) _
    refine XS.astore X18.here hx rfl (hb hby at_205) rfl rfl (l' := (own_L p1 q2 q3 q4 q5 p6 (4 : Int32) (0 : Int32) v0 v1 v2 v3 w0 w1 w2 w3 [.val (.ref b7), .val (.int (4 : Int32)), .val (.ref b12), .val (.ref b17), .unset, .unset])) rfl ?_
    show Steps p.tables e below (T18.setTop (mkF m 207 (own_L p1 q2 q3 q4 q5 p6 (4 : Int32) (0 : Int32) v0 v1 v2 v3 w0 w1 w2 w3 [.val (.ref b7), .val (.int (4 : Int32)), .val (.ref b12), .val (.ref b17), .unset, .unset]) [])) _
    refine XS.aload X18.here hx rfl (hb hby at_207) rfl rfl ?_
    show Steps p.tables e below (T18.setTop (mkF m 209 (own_L p1 q2 q3 q4 q5 p6 (4 : Int32) (0 : Int32) v0 v1 v2 v3 w0 w1 w2 w3 [.val (.ref b7), .val (.int (4 : Int32)), .val (.ref b12), .val (.ref b17), .unset, .unset]) [(.ref b17)])) _
    refine XS.aload X18.here hx rfl (hb hby at_209) rfl rfl ?_
    show Steps p.tables e below (T18.setTop (mkF m 211 (own_L p1 q2 q3 q4 q5 p6 (4 : Int32) (0 : Int32) v0 v1 v2 v3 w0 w1 w2 w3 [.val (.ref b7), .val (.int (4 : Int32)), .val (.ref b12), .val (.ref b17), .unset, .unset]) [(.ref b12), (.ref b17)])) _
    refine st19.trans ?_
    show Steps p.tables e below (T19.setTop (mkF m 214 (own_L p1 q2 q3 q4 q5 p6 (4 : Int32) (0 : Int32) v0 v1 v2 v3 w0 w1 w2 w3 [.val (.ref b7), .val (.int (4 : Int32)), .val (.ref b12), .val (.ref b17), .unset, .unset]) [(.int (own_acc (fun j => [v0, v1, v2, v3].getD j 0) (fun j => [w0, w1, w2, w3].getD j 0) 4 0 0))])) _
    refine XS.istore X19.here hx rfl (hb hby at_214) rfl (l' := (own_L p1 q2 q3 q4 q5 p6 (4 : Int32) (0 : Int32) v0 v1 v2 v3 w0 w1 w2 w3 [.val (.ref b7), .val (.int (4 : Int32)), .val (.ref b12), .val (.ref b17), .val (.int (own_acc (fun j => [v0, v1, v2, v3].getD j 0) (fun j => [w0, w1, w2, w3].getD j 0) 4 0 0)), .unset])) rfl ?_
    show Steps p.tables e below (T19.setTop (mkF m 216 (own_L p1 q2 q3 q4 q5 p6 (4 : Int32) (0 : Int32) v0 v1 v2 v3 w0 w1 w2 w3 [.val (.ref b7), .val (.int (4 : Int32)), .val (.ref b12), .val (.ref b17), .val (.int (own_acc (fun j => [v0, v1, v2, v3].getD j 0) (fun j => [w0, w1, w2, w3].getD j 0) 4 0 0)), .unset]) [])) _
    refine XS.iconst X19.here hx rfl (hb hby at_216) ?_
    show Steps p.tables e below (T19.setTop (mkF m 217 (own_L p1 q2 q3 q4 q5 p6 (4 : Int32) (0 : Int32) v0 v1 v2 v3 w0 w1 w2 w3 [.val (.ref b7), .val (.int (4 : Int32)), .val (.ref b12), .val (.ref b17), .val (.int (own_acc (fun j => [v0, v1, v2, v3].getD j 0) (fun j => [w0, w1, w2, w3].getD j 0) 4 0 0)), .unset]) [(.int (0 : Int32))])) _
    refine XS.istore X19.here hx rfl (hb hby at_217) rfl (l' := (own_L p1 q2 q3 q4 q5 p6 (4 : Int32) (0 : Int32) v0 v1 v2 v3 w0 w1 w2 w3 [.val (.ref b7), .val (.int (4 : Int32)), .val (.ref b12), .val (.ref b17), .val (.int (own_acc (fun j => [v0, v1, v2, v3].getD j 0) (fun j => [w0, w1, w2, w3].getD j 0) 4 0 0)), .val (.int (0 : Int32))])) rfl ?_
    show Steps p.tables e below (T19.setTop (mkF m 219 (own_L p1 q2 q3 q4 q5 p6 (4 : Int32) (0 : Int32) v0 v1 v2 v3 w0 w1 w2 w3 [.val (.ref b7), .val (.int (4 : Int32)), .val (.ref b12), .val (.ref b17), .val (.int (own_acc (fun j => [v0, v1, v2, v3].getD j 0) (fun j => [w0, w1, w2, w3].getD j 0) 4 0 0)), .val (.int (0 : Int32))]) [])) _
    refine XS.iload X19.here hx rfl (hb hby at_219) rfl ?_
    show Steps p.tables e below (T19.setTop (mkF m 221 (own_L p1 q2 q3 q4 q5 p6 (4 : Int32) (0 : Int32) v0 v1 v2 v3 w0 w1 w2 w3 [.val (.ref b7), .val (.int (4 : Int32)), .val (.ref b12), .val (.ref b17), .val (.int (own_acc (fun j => [v0, v1, v2, v3].getD j 0) (fun j => [w0, w1, w2, w3].getD j 0) 4 0 0)), .val (.int (0 : Int32))]) [(.int (4 : Int32))])) _
    refine XS.ifNo X19.here hx rfl (hb hby at_221) rfl ((if0 _ _).trans (tlt (by decide : (0 : Int32) < (4 : Int32))).2.2.2) ?_
    show Steps p.tables e below (T19.setTop (mkF m 224 (own_L p1 q2 q3 q4 q5 p6 (4 : Int32) (0 : Int32) v0 v1 v2 v3 w0 w1 w2 w3 [.val (.ref b7), .val (.int (4 : Int32)), .val (.ref b12), .val (.ref b17), .val (.int (own_acc (fun j => [v0, v1, v2, v3].getD j 0) (fun j => [w0, w1, w2, w3].getD j 0) 4 0 0)), .val (.int (0 : Int32))]) [])) _
    refine XS.iload X19.here hx rfl (hb hby at_224) rfl ?_
    show Steps p.tables e below (T19.setTop (mkF m 226 (own_L p1 q2 q3 q4 q5 p6 (4 : Int32) (0 : Int32) v0 v1 v2 v3 w0 w1 w2 w3 [.val (.ref b7), .val (.int (4 : Int32)), .val (.ref b12), .val (.ref b17), .val (.int (own_acc (fun j => [v0, v1, v2, v3].getD j 0) (fun j => [w0, w1, w2, w3].getD j 0) 4 0 0)), .val (.int (0 : Int32))]) [(.int (0 : Int32))])) _
    refine XS.iload X19.here hx rfl (hb hby at_226) rfl ?_
    show Steps p.tables e below (T19.setTop (mkF m 228 (own_L p1 q2 q3 q4 q5 p6 (4 : Int32) (0 : Int32) v0 v1 v2 v3 w0 w1 w2 w3 [.val (.ref b7), .val (.int (4 : Int32)), .val (.ref b12), .val (.ref b17), .val (.int (own_acc (fun j => [v0, v1, v2, v3].getD j 0) (fun j => [w0, w1, w2, w3].getD j 0) 4 0 0)), .val (.int (0 : Int32))]) [(.int v0), (.int (0 : Int32))])) _
    refine XS.iload X19.here hx rfl (hb hby at_228) rfl ?_
    show Steps p.tables e below (T19.setTop (mkF m 230 (own_L p1 q2 q3 q4 q5 p6 (4 : Int32) (0 : Int32) v0 v1 v2 v3 w0 w1 w2 w3 [.val (.ref b7), .val (.int (4 : Int32)), .val (.ref b12), .val (.ref b17), .val (.int (own_acc (fun j => [v0, v1, v2, v3].getD j 0) (fun j => [w0, w1, w2, w3].getD j 0) 4 0 0)), .val (.int (0 : Int32))]) [(.int w0), (.int v0), (.int (0 : Int32))])) _
    refine XS.imul X19.here hx rfl (hb hby at_230) rfl ?_
    show Steps p.tables e below (T19.setTop (mkF m 231 (own_L p1 q2 q3 q4 q5 p6 (4 : Int32) (0 : Int32) v0 v1 v2 v3 w0 w1 w2 w3 [.val (.ref b7), .val (.int (4 : Int32)), .val (.ref b12), .val (.ref b17), .val (.int (own_acc (fun j => [v0, v1, v2, v3].getD j 0) (fun j => [w0, w1, w2, w3].getD j 0) 4 0 0)), .val (.int (0 : Int32))]) [(.int (v0 * w0)), (.int (0 : Int32))])) _
    refine XS.iadd X19.here hx rfl (hb hby at_231) rfl ?_
    show Steps p.tables e below (T19.setTop (mkF m 232 (own_L p1 q2 q3 q4 q5 p6 (4 : Int32) (0 : Int32) v0 v1 v2 v3 w0 w1 w2 w3 [.val (.ref b7), .val (.int (4 : Int32)), .val (.ref b12), .val (.ref b17), .val (.int (own_acc (fun j => [v0, v1, v2, v3].getD j 0) (fun j => [w0, w1, w2, w3].getD j 0) 4 0 0)), .val (.int (0 : Int32))]) [(.int ((0 : Int32) + (v0 * w0)))])) _
    refine XS.istore X19.here hx rfl (hb hby at_232) rfl (l' := (own_L p1 q2 q3 q4 q5 p6 (4 : Int32) (0 : Int32) v0 v1 v2 v3 w0 w1 w2 w3 [.val (.ref b7), .val (.int (4 : Int32)), .val (.ref b12), .val (.ref b17), .val (.int (own_acc (fun j => [v0, v1, v2, v3].getD j 0) (fun j => [w0, w1, w2, w3].getD j 0) 4 0 0)), .val (.int ((0 : Int32) + (v0 * w0)))])) rfl ?_
    show Steps p.tables e below (T19.setTop (mkF m 234 (own_L p1 q2 q3 q4 q5 p6 (4 : Int32) (0 : Int32) v0 v1 v2 v3 w0 w1 w2 w3 [.val (.ref b7), .val (.int (4 : Int32)), .val (.ref b12), .val (.ref b17), .val (.int (own_acc (fun j => [v0, v1, v2, v3].getD j 0) (fun j => [w0, w1, w2, w3].getD j 0) 4 0 0)), .val (.int ((0 : Int32) + (v0 * w0)))]) [])) _
    refine XS.iload X19.here hx rfl (hb hby at_234) rfl ?_
    show Steps p.tables e below (T19.setTop (mkF m 236 (own_L p1 q2 q3 q4 q5 p6 (4 : Int32) (0 : Int32) v0 v1 v2 v3 w0 w1 w2 w3 [.val (.ref b7), .val (.int (4 : Int32)), .val (.ref b12), .val (.ref b17), .val (.int (own_acc (fun j => [v0, v1, v2, v3].getD j 0) (fun j => [w0, w1, w2, w3].getD j 0) 4 0 0)), .val (.int ((0 : Int32) + (v0 * w0)))]) [(.int (4 : Int32))])) _
    refine XS.iconst X19.here hx rfl (hb hby at_236) ?_
    show Steps p.tables e below (T19.setTop (mkF m 237 (own_L p1 q2 q3 q4 q5 p6 (4 : Int32) (0 : Int32) v0 v1 v2 v3 w0 w1 w2 w3 [.val (.ref b7), .val (.int (4 : Int32)), .val (.ref b12), .val (.ref b17), .val (.int (own_acc (fun j => [v0, v1, v2, v3].getD j 0) (fun j => [w0, w1, w2, w3].getD j 0) 4 0 0)), .val (.int ((0 : Int32) + (v0 * w0)))]) [(.int (1 : Int32)), (.int (4 : Int32))])) _
    refine XS.icmpNo X19.here hx rfl (hb hby at_237) rfl (tlt (by decide : (1 : Int32) < (4 : Int32))).2.2.2 ?_
    show Steps p.tables e below (T19.setTop (mkF m 240 (own_L p1 q2 q3 q4 q5 p6 (4 : Int32) (0 : Int32) v0 v1 v2 v3 w0 w1 w2 w3 [.val (.ref b7), .val (.int (4 : Int32)), .val (.ref b12), .val (.ref b17), .val (.int (own_acc (fun j => [v0, v1, v2, v3].getD j 0) (fun j => [w0, w1, w2, w3].getD j 0) 4 0 0)), .val (.int ((0 : Int32) + (v0 * w0)))]) [])) _
    refine XS.iload X19.here hx rfl (hb hby at_240) rfl ?_
    show Steps p.tables e below (T19.setTop (mkF m 242 (own_L p1 q2 q3 q4 q5 p6 (4 : Int32) (0 : Int32) v0 v1 v2 v3 w0 w1 w2 w3 [.val (.ref b7), .val (.int (4 : Int32)), .val (.ref b12), .val (.ref b17), .val (.int (own_acc (fun j => [v0, v1, v2, v3].getD j 0) (fun j => [w0, w1, w2, w3].getD j 0) 4 0 0)), .val (.int ((0 : Int32) + (v0 * w0)))]) [(.int ((0 : Int32) + (v0 * w0)))])) _
    refine XS.iload X19.here hx rfl (hb hby at_242) rfl ?_
    show Steps p.tables e below (T19.setTop (mkF m 244 (own_L p1 q2 q3 q4 q5 p6 (4 : Int32) (0 : Int32) v0 v1 v2 v3 w0 w1 w2 w3 [.val (.ref b7), .val (.int (4 : Int32)), .val (.ref b12), .val (.ref b17), .val (.int (own_acc (fun j => [v0, v1, v2, v3].getD j 0) (fun j => [w0, w1, w2, w3].getD j 0) 4 0 0)), .val (.int ((0 : Int32) + (v0 * w0)))]) [(.int v1), (.int ((0 : Int32) + (v0 * w0)))])) _
    refine XS.iload X19.here hx rfl (hb hby at_244) rfl ?_
    show Steps p.tables e below (T19.setTop (mkF m 246 (own_L p1 q2 q3 q4 q5 p6 (4 : Int32) (0 : Int32) v0 v1 v2 v3 w0 w1 w2 w3 [.val (.ref b7), .val (.int (4 : Int32)), .val (.ref b12), .val (.ref b17), .val (.int (own_acc (fun j => [v0, v1, v2, v3].getD j 0) (fun j => [w0, w1, w2, w3].getD j 0) 4 0 0)), .val (.int ((0 : Int32) + (v0 * w0)))]) [(.int w1), (.int v1), (.int ((0 : Int32) + (v0 * w0)))])) _
    refine XS.imul X19.here hx rfl (hb hby at_246) rfl ?_
    show Steps p.tables e below (T19.setTop (mkF m 247 (own_L p1 q2 q3 q4 q5 p6 (4 : Int32) (0 : Int32) v0 v1 v2 v3 w0 w1 w2 w3 [.val (.ref b7), .val (.int (4 : Int32)), .val (.ref b12), .val (.ref b17), .val (.int (own_acc (fun j => [v0, v1, v2, v3].getD j 0) (fun j => [w0, w1, w2, w3].getD j 0) 4 0 0)), .val (.int ((0 : Int32) + (v0 * w0)))]) [(.int (v1 * w1)), (.int ((0 : Int32) + (v0 * w0)))])) _
    refine XS.iadd X19.here hx rfl (hb hby at_247) rfl ?_
    show Steps p.tables e below (T19.setTop (mkF m 248 (own_L p1 q2 q3 q4 q5 p6 (4 : Int32) (0 : Int32) v0 v1 v2 v3 w0 w1 w2 w3 [.val (.ref b7), .val (.int (4 : Int32)), .val (.ref b12), .val (.ref b17), .val (.int (own_acc (fun j => [v0, v1, v2, v3].getD j 0) (fun j => [w0, w1, w2, w3].getD j 0) 4 0 0)), .val (.int ((0 : Int32) + (v0 * w0)))]) [(.int (((0 : Int32) + (v0 * w0)) + (v1 * w1)))])) _
    refine XS.istore X19.here hx rfl (hb hby at_248) rfl (l' := (own_L p1 q2 q3 q4 q5 p6 (4 : Int32) (0 : Int32) v0 v1 v2 v3 w0 w1 w2 w3 [.val (.ref b7), .val (.int (4 : Int32)), .val (.ref b12), .val (.ref b17), .val (.int (own_acc (fun j => [v0, v1, v2, v3].getD j 0) (fun j => [w0, w1, w2, w3].getD j 0) 4 0 0)), .val (.int (((0 : Int32) + (v0 * w0)) + (v1 * w1)))])) rfl ?_
    show Steps p.tables e below (T19.setTop (mkF m 250 (own_L p1 q2 q3 q4 q5 p6 (4 : Int32) (0 : Int32) v0 v1 v2 v3 w0 w1 w2 w3 [.val (.ref b7), .val (.int (4 : Int32)), .val (.ref b12), .val (.ref b17), .val (.int (own_acc (fun j => [v0, v1, v2, v3].getD j 0) (fun j => [w0, w1, w2, w3].getD j 0) 4 0 0)), .val (.int (((0 : Int32) + (v0 * w0)) + (v1 * w1)))]) [])) _
    refine XS.iload X19.here hx rfl (hb hby at_250) rfl ?_
    show Steps p.tables e below (T19.setTop (mkF m 252 (own_L p1 q2 q3 q4 q5 p6 (4 : Int32) (0 : Int32) v0 v1 v2 v3 w0 w1 w2 w3 [.val (.ref b7), .val (.int (4 : Int32)), .val (.ref b12), .val (.ref b17), .val (.int (own_acc (fun j => [v0, v1, v2, v3].getD j 0) (fun j => [w0, w1, w2, w3].getD j 0) 4 0 0)), .val (.int (((0 : Int32) + (v0 * w0)) + (v1 * w1)))]) [(.int (4 : Int32))])) _
    refine XS.iconst X19.here hx rfl (hb hby at_252) ?_
    show Steps p.tables e below (T19.setTop (mkF m 253 (own_L p1 q2 q3 q4 q5 p6 (4 : Int32) (0 : Int32) v0 v1 v2 v3 w0 w1 w2 w3 [.val (.ref b7), .val (.int (4 : Int32)), .val (.ref b12), .val (.ref b17), .val (.int (own_acc (fun j => [v0, v1, v2, v3].getD j 0) (fun j => [w0, w1, w2, w3].getD j 0) 4 0 0)), .val (.int (((0 : Int32) + (v0 * w0)) + (v1 * w1)))]) [(.int (2 : Int32)), (.int (4 : Int32))])) _
    refine XS.icmpNo X19.here hx rfl (hb hby at_253) rfl (tlt (by decide : (2 : Int32) < (4 : Int32))).2.2.2 ?_
    show Steps p.tables e below (T19.setTop (mkF m 256 (own_L p1 q2 q3 q4 q5 p6 (4 : Int32) (0 : Int32) v0 v1 v2 v3 w0 w1 w2 w3 [.val (.ref b7), .val (.int (4 : Int32)), .val (.ref b12), .val (.ref b17), .val (.int (own_acc (fun j => [v0, v1, v2, v3].getD j 0) (fun j => [w0, w1, w2, w3].getD j 0) 4 0 0)), .val (.int (((0 : Int32) + (v0 * w0)) + (v1 * w1)))]) [])) _
    refine XS.iload X19.here hx rfl (hb hby at_256) rfl ?_
    show Steps p.tables e below (T19.setTop (mkF m 258 (own_L p1 q2 q3 q4 q5 p6 (4 : Int32) (0 : Int32) v0 v1 v2 v3 w0 w1 w2 w3 [.val (.ref b7), .val (.int (4 : Int32)), .val (.ref b12), .val (.ref b17), .val (.int (own_acc (fun j => [v0, v1, v2, v3].getD j 0) (fun j => [w0, w1, w2, w3].getD j 0) 4 0 0)), .val (.int (((0 : Int32) + (v0 * w0)) + (v1 * w1)))]) [(.int (((0 : Int32) + (v0 * w0)) + (v1 * w1)))])) _
    refine XS.iload X19.here hx rfl (hb hby at_258) rfl ?_
    show Steps p.tables e below (T19.setTop (mkF m 260 (own_L p1 q2 q3 q4 q5 p6 (4 : Int32) (0 : Int32) v0 v1 v2 v3 w0 w1 w2 w3 [.val (.ref b7), .val (.int (4 : Int32)), .val (.ref b12), .val (.ref b17), .val (.int (own_acc (fun j => [v0, v1, v2, v3].getD j 0) (fun j => [w0, w1, w2, w3].getD j 0) 4 0 0)), .val (.int (((0 : Int32) + (v0 * w0)) + (v1 * w1)))]) [(.int v2), (.int (((0 : Int32) + (v0 * w0)) + (v1 * w1)))])) _
    refine XS.iload X19.here hx rfl (hb hby at_260) rfl ?_
    show Steps p.tables e below (T19.setTop (mkF m 262 (own_L p1 q2 q3 q4 q5 p6 (4 : Int32) (0 : Int32) v0 v1 v2 v3 w0 w1 w2 w3 [.val (.ref b7), .val (.int (4 : Int32)), .val (.ref b12), .val (.ref b17), .val (.int (own_acc (fun j => [v0, v1, v2, v3].getD j 0) (fun j => [w0, w1, w2, w3].getD j 0) 4 0 0)), .val (.int (((0 : Int32) + (v0 * w0)) + (v1 * w1)))]) [(.int w2), (.int v2), (.int (((0 : Int32) + (v0 * w0)) + (v1 * w1)))])) _
    refine XS.imul X19.here hx rfl (hb hby at_262) rfl ?_
    show Steps p.tables e below (T19.setTop (mkF m 263 (own_L p1 q2 q3 q4 q5 p6 (4 : Int32) (0 : Int32) v0 v1 v2 v3 w0 w1 w2 w3 [.val (.ref b7), .val (.int (4 : Int32)), .val (.ref b12), .val (.ref b17), .val (.int (own_acc (fun j => [v0, v1, v2, v3].getD j 0) (fun j => [w0, w1, w2, w3].getD j 0) 4 0 0)), .val (.int (((0 : Int32) + (v0 * w0)) + (v1 * w1)))]) [(.int (v2 * w2)), (.int (((0 : Int32) + (v0 * w0)) + (v1 * w1)))])) _
    refine XS.iadd X19.here hx rfl (hb hby at_263) rfl ?_
    show Steps p.tables e below (T19.setTop (mkF m 264 (own_L p1 q2 q3 q4 q5 p6 (4 : Int32) (0 : Int32) v0 v1 v2 v3 w0 w1 w2 w3 [.val (.ref b7), .val (.int (4 : Int32)), .val (.ref b12), .val (.ref b17), .val (.int (own_acc (fun j => [v0, v1, v2, v3].getD j 0) (fun j => [w0, w1, w2, w3].getD j 0) 4 0 0)), .val (.int (((0 : Int32) + (v0 * w0)) + (v1 * w1)))]) [(.int ((((0 : Int32) + (v0 * w0)) + (v1 * w1)) + (v2 * w2)))])) _
    refine XS.istore X19.here hx rfl (hb hby at_264) rfl (l' := (own_L p1 q2 q3 q4 q5 p6 (4 : Int32) (0 : Int32) v0 v1 v2 v3 w0 w1 w2 w3 [.val (.ref b7), .val (.int (4 : Int32)), .val (.ref b12), .val (.ref b17), .val (.int (own_acc (fun j => [v0, v1, v2, v3].getD j 0) (fun j => [w0, w1, w2, w3].getD j 0) 4 0 0)), .val (.int ((((0 : Int32) + (v0 * w0)) + (v1 * w1)) + (v2 * w2)))])) rfl ?_
    show Steps p.tables e below (T19.setTop (mkF m 266 (own_L p1 q2 q3 q4 q5 p6 (4 : Int32) (0 : Int32) v0 v1 v2 v3 w0 w1 w2 w3 [.val (.ref b7), .val (.int (4 : Int32)), .val (.ref b12), .val (.ref b17), .val (.int (own_acc (fun j => [v0, v1, v2, v3].getD j 0) (fun j => [w0, w1, w2, w3].getD j 0) 4 0 0)), .val (.int ((((0 : Int32) + (v0 * w0)) + (v1 * w1)) + (v2 * w2)))]) [])) _
    refine XS.iload X19.here hx rfl (hb hby at_266) rfl ?_
    show Steps p.tables e below (T19.setTop (mkF m 268 (own_L p1 q2 q3 q4 q5 p6 (4 : Int32) (0 : Int32) v0 v1 v2 v3 w0 w1 w2 w3 [.val (.ref b7), .val (.int (4 : Int32)), .val (.ref b12), .val (.ref b17), .val (.int (own_acc (fun j => [v0, v1, v2, v3].getD j 0) (fun j => [w0, w1, w2, w3].getD j 0) 4 0 0)), .val (.int ((((0 : Int32) + (v0 * w0)) + (v1 * w1)) + (v2 * w2)))]) [(.int (4 : Int32))])) _
    refine XS.iconst X19.here hx rfl (hb hby at_268) ?_
    show Steps p.tables e below (T19.setTop (mkF m 269 (own_L p1 q2 q3 q4 q5 p6 (4 : Int32) (0 : Int32) v0 v1 v2 v3 w0 w1 w2 w3 [.val (.ref b7), .val (.int (4 : Int32)), .val (.ref b12), .val (.ref b17), .val (.int (own_acc (fun j => [v0, v1, v2, v3].getD j 0) (fun j => [w0, w1, w2, w3].getD j 0) 4 0 0)), .val (.int ((((0 : Int32) + (v0 * w0)) + (v1 * w1)) + (v2 * w2)))]) [(.int (3 : Int32)), (.int (4 : Int32))])) _
    refine XS.icmpNo X19.here hx rfl (hb hby at_269) rfl (tlt (by decide : (3 : Int32) < (4 : Int32))).2.2.2 ?_
    show Steps p.tables e below (T19.setTop (mkF m 272 (own_L p1 q2 q3 q4 q5 p6 (4 : Int32) (0 : Int32) v0 v1 v2 v3 w0 w1 w2 w3 [.val (.ref b7), .val (.int (4 : Int32)), .val (.ref b12), .val (.ref b17), .val (.int (own_acc (fun j => [v0, v1, v2, v3].getD j 0) (fun j => [w0, w1, w2, w3].getD j 0) 4 0 0)), .val (.int ((((0 : Int32) + (v0 * w0)) + (v1 * w1)) + (v2 * w2)))]) [])) _
    refine XS.iload X19.here hx rfl (hb hby at_272) rfl ?_
    show Steps p.tables e below (T19.setTop (mkF m 274 (own_L p1 q2 q3 q4 q5 p6 (4 : Int32) (0 : Int32) v0 v1 v2 v3 w0 w1 w2 w3 [.val (.ref b7), .val (.int (4 : Int32)), .val (.ref b12), .val (.ref b17), .val (.int (own_acc (fun j => [v0, v1, v2, v3].getD j 0) (fun j => [w0, w1, w2, w3].getD j 0) 4 0 0)), .val (.int ((((0 : Int32) + (v0 * w0)) + (v1 * w1)) + (v2 * w2)))]) [(.int ((((0 : Int32) + (v0 * w0)) + (v1 * w1)) + (v2 * w2)))])) _
    refine XS.iload X19.here hx rfl (hb hby at_274) rfl ?_
    show Steps p.tables e below (T19.setTop (mkF m 276 (own_L p1 q2 q3 q4 q5 p6 (4 : Int32) (0 : Int32) v0 v1 v2 v3 w0 w1 w2 w3 [.val (.ref b7), .val (.int (4 : Int32)), .val (.ref b12), .val (.ref b17), .val (.int (own_acc (fun j => [v0, v1, v2, v3].getD j 0) (fun j => [w0, w1, w2, w3].getD j 0) 4 0 0)), .val (.int ((((0 : Int32) + (v0 * w0)) + (v1 * w1)) + (v2 * w2)))]) [(.int v3), (.int ((((0 : Int32) + (v0 * w0)) + (v1 * w1)) + (v2 * w2)))])) _
    refine XS.iload X19.here hx rfl (hb hby at_276) rfl ?_
    show Steps p.tables e below (T19.setTop (mkF m 278 (own_L p1 q2 q3 q4 q5 p6 (4 : Int32) (0 : Int32) v0 v1 v2 v3 w0 w1 w2 w3 [.val (.ref b7), .val (.int (4 : Int32)), .val (.ref b12), .val (.ref b17), .val (.int (own_acc (fun j => [v0, v1, v2, v3].getD j 0) (fun j => [w0, w1, w2, w3].getD j 0) 4 0 0)), .val (.int ((((0 : Int32) + (v0 * w0)) + (v1 * w1)) + (v2 * w2)))]) [(.int w3), (.int v3), (.int ((((0 : Int32) + (v0 * w0)) + (v1 * w1)) + (v2 * w2)))])) _
    refine XS.imul X19.here hx rfl (hb hby at_278) rfl ?_
    show Steps p.tables e below (T19.setTop (mkF m 279 (own_L p1 q2 q3 q4 q5 p6 (4 : Int32) (0 : Int32) v0 v1 v2 v3 w0 w1 w2 w3 [.val (.ref b7), .val (.int (4 : Int32)), .val (.ref b12), .val (.ref b17), .val (.int (own_acc (fun j => [v0, v1, v2, v3].getD j 0) (fun j => [w0, w1, w2, w3].getD j 0) 4 0 0)), .val (.int ((((0 : Int32) + (v0 * w0)) + (v1 * w1)) + (v2 * w2)))]) [(.int (v3 * w3)), (.int ((((0 : Int32) + (v0 * w0)) + (v1 * w1)) + (v2 * w2)))])) _
    refine XS.iadd X19.here hx rfl (hb hby at_279) rfl ?_
    show Steps p.tables e below (T19.setTop (mkF m 280 (own_L p1 q2 q3 q4 q5 p6 (4 : Int32) (0 : Int32) v0 v1 v2 v3 w0 w1 w2 w3 [.val (.ref b7), .val (.int (4 : Int32)), .val (.ref b12), .val (.ref b17), .val (.int (own_acc (fun j => [v0, v1, v2, v3].getD j 0) (fun j => [w0, w1, w2, w3].getD j 0) 4 0 0)), .val (.int ((((0 : Int32) + (v0 * w0)) + (v1 * w1)) + (v2 * w2)))]) [(.int (((((0 : Int32) + (v0 * w0)) + (v1 * w1)) + (v2 * w2)) + (v3 * w3)))])) _
    refine XS.istore X19.here hx rfl (hb hby at_280) rfl (l' := (own_L p1 q2 q3 q4 q5 p6 (4 : Int32) (0 : Int32) v0 v1 v2 v3 w0 w1 w2 w3 [.val (.ref b7), .val (.int (4 : Int32)), .val (.ref b12), .val (.ref b17), .val (.int (own_acc (fun j => [v0, v1, v2, v3].getD j 0) (fun j => [w0, w1, w2, w3].getD j 0) 4 0 0)), .val (.int (((((0 : Int32) + (v0 * w0)) + (v1 * w1)) + (v2 * w2)) + (v3 * w3)))])) rfl ?_
    show Steps p.tables e below (T19.setTop (mkF m 282 (own_L p1 q2 q3 q4 q5 p6 (4 : Int32) (0 : Int32) v0 v1 v2 v3 w0 w1 w2 w3 [.val (.ref b7), .val (.int (4 : Int32)), .val (.ref b12), .val (.ref b17), .val (.int (own_acc (fun j => [v0, v1, v2, v3].getD j 0) (fun j => [w0, w1, w2, w3].getD j 0) 4 0 0)), .val (.int (((((0 : Int32) + (v0 * w0)) + (v1 * w1)) + (v2 * w2)) + (v3 * w3)))]) [])) _
    refine XS.iload X19.here hx rfl (hb hby at_282) rfl ?_
    show Steps p.tables e below (T19.setTop (mkF m 284 (own_L p1 q2 q3 q4 q5 p6 (4 : Int32) (0 : Int32) v0 v1 v2 v3 w0 w1 w2 w3 [.val (.ref b7), .val (.int (4 : Int32)), .val (.ref b12), .val (.ref b17), .val (.int (own_acc (fun j => [v0, v1, v2, v3].getD j 0) (fun j => [w0, w1, w2, w3].getD j 0) 4 0 0)), .val (.int (((((0 : Int32) + (v0 * w0)) + (v1 * w1)) + (v2 * w2)) + (v3 * w3)))]) [(.int (own_acc (fun j => [v0, v1, v2, v3].getD j 0) (fun j => [w0, w1, w2, w3].getD j 0) 4 0 0))])) _
    refine XS.iload X19.here hx rfl (hb hby at_284) rfl ?_
    show Steps p.tables e below (T19.setTop (mkF m 286 (own_L p1 q2 q3 q4 q5 p6 (4 : Int32) (0 : Int32) v0 v1 v2 v3 w0 w1 w2 w3 [.val (.ref b7), .val (.int (4 : Int32)), .val (.ref b12), .val (.ref b17), .val (.int (own_acc (fun j => [v0, v1, v2, v3].getD j 0) (fun j => [w0, w1, w2, w3].getD j 0) 4 0 0)), .val (.int (((((0 : Int32) + (v0 * w0)) + (v1 * w1)) + (v2 * w2)) + (v3 * w3)))]) [(.int (((((0 : Int32) + (v0 * w0)) + (v1 * w1)) + (v2 * w2)) + (v3 * w3))), (.int (own_acc (fun j => [v0, v1, v2, v3].getD j 0) (fun j => [w0, w1, w2, w3].getD j 0) 4 0 0))])) _
    refine XS.icmpNo X19.here hx rfl (hb hby at_286) rfl (teq (rfl : (own_acc (fun j => [v0, v1, v2, v3].getD j 0) (fun j => [w0, w1, w2, w3].getD j 0) 4 0 0) = (((((0 : Int32) + (v0 * w0)) + (v1 * w1)) + (v2 * w2)) + (v3 * w3)))).2 ?_
    show Steps p.tables e below (T19.setTop (mkF m 289 (own_L p1 q2 q3 q4 q5 p6 (4 : Int32) (0 : Int32) v0 v1 v2 v3 w0 w1 w2 w3 [.val (.ref b7), .val (.int (4 : Int32)), .val (.ref b12), .val (.ref b17), .val (.int (own_acc (fun j => [v0, v1, v2, v3].getD j 0) (fun j => [w0, w1, w2, w3].getD j 0) 4 0 0)), .val (.int (((((0 : Int32) + (v0 * w0)) + (v1 * w1)) + (v2 * w2)) + (v3 * w3)))]) [])) _
    refine XS.iconst X19.here hx rfl (hb hby at_289) ?_
    show Steps p.tables e below (T19.setTop (mkF m 290 (own_L p1 q2 q3 q4 q5 p6 (4 : Int32) (0 : Int32) v0 v1 v2 v3 w0 w1 w2 w3 [.val (.ref b7), .val (.int (4 : Int32)), .val (.ref b12), .val (.ref b17), .val (.int (own_acc (fun j => [v0, v1, v2, v3].getD j 0) (fun j => [w0, w1, w2, w3].getD j 0) 4 0 0)), .val (.int (((((0 : Int32) + (v0 * w0)) + (v1 * w1)) + (v2 * w2)) + (v3 * w3)))]) [(.int (1 : Int32))])) _
    refine XS.goto X19.here hx rfl (pc0 := 290) (pc' := 294) rfl (hb hby at_290) (by decide) (by decide) ?_
    show Steps p.tables e below (T19.setTop (mkF m 294 (own_L p1 q2 q3 q4 q5 p6 (4 : Int32) (0 : Int32) v0 v1 v2 v3 w0 w1 w2 w3 [.val (.ref b7), .val (.int (4 : Int32)), .val (.ref b12), .val (.ref b17), .val (.int (own_acc (fun j => [v0, v1, v2, v3].getD j 0) (fun j => [w0, w1, w2, w3].getD j 0) 4 0 0)), .val (.int (((((0 : Int32) + (v0 * w0)) + (v1 * w1)) + (v2 * w2)) + (v3 * w3)))]) [(.int (1 : Int32))])) _
    exact retN X19 hx (t := .boolean) Bd.returns (by simp) (hb hby at_294) hr
  · show Q0 Z p1 q2 q3 q4 q5 p6 h0 n0 _ T19.heap _
    exact ⟨rfl, N19⟩
set_option maxRecDepth 65536 in
set_option maxHeartbeats 40000000 in
theorem rm0_4_1 (l : Launch) (Z : State) (a0 : Array Value) (hw : ∀ d ∈ tables_1, d.before a0 Z = true) (ws : List Jvm.Cond) (p1 : Int32) (q2 : Int64) (q3 : Int64) (q4 : Int64) (q5 : Int64) (p6 : Int32) (h0 : Heap) (n0 : Nat) (Z0 : n0 ≤ h0.size) (v0 v1 v2 v3 w0 w1 w2 w3 : Int32) (h_v0 : (q2.toInt32) = v0) (h_v1 : (((q2.toUInt64 >>> ((32 : Int32) &&& 0x3f).toInt64.toUInt64).toInt64).toInt32) = v1) (h_v2 : (q3.toInt32) = v2) (h_v3 : (((q3.toUInt64 >>> ((32 : Int32) &&& 0x3f).toInt64.toUInt64).toInt64).toInt32) = v3) (h_w0 : (q4.toInt32) = w0) (h_w1 : (((q4.toUInt64 >>> ((32 : Int32) &&& 0x3f).toInt64.toUInt64).toInt64).toInt32) = w1) (h_w2 : (q5.toInt32) = w2) (h_w3 : (((q5.toUInt64 >>> ((32 : Int32) &&& 0x3f).toInt64.toUInt64).toInt64).toInt32) = w3) (hk : ((p1 &&& (2147483647 : Int32)) % (5 : Int32)) = (4 : Int32)) (hc9 : p1 < (0 : Int32)) :
    MetFree l x (head1 (Jvm.Cond.code x code maxLocals ret :: ws) room_1) (fun a U => a = #[(.int p1), (.long q2), (.long q3), (.long q4), (.long q5), (.int p6)] ∧ Z.Warmed39 U.vm ∧ U.heap = h0) (fun _ _ _ _ _ => True) (fun _ U o U' => ∃ v L, o = .returned v ∧ Q0 Z p1 q2 q3 q4 q5 p6 h0 n0 v U'.heap L ∧ FrameEnd U o U' L room_1.cells room_1.slots) := by
  refine MetFree.of_bodySF (plainFor_of_name pn_0) hisR ?_
  intro p e s m args below meth c s₁ Bd hml0 hP hK
  obtain ⟨rfl, hZ, hh⟩ := hP
  have hx := Bd.exec
  have hby := Bd.bytes
  have hml : c.maxLocals = 27 := hml0
  have hown : s.vm.findClass "com/example/stagecraft/stagecraft/examples/GenericDotProductApplyPinLaw" = some m.cls := findClass_of_methodNamed Bd.named
  have hnm := (name_of_methodNamed Bd.named Bd.method).1
  have X0 : Stand p l e room_1 s m #[(.int p1), (.long q2), (.long q3), (.long q4), (.long q5), (.int p6)] below meth c s₁ [] 0 0 := Stand.of_body Bd
  have e0 : s₁.heap = h0 := by rw [← hh, Bd.state]; rfl
  have N0 := Fr.nil n0
  have pre0 : ∀ t, Steps p.tables e below (s₁.setTop (mkF m 0 #[.val (.int p1), .val (.long q2), .second, .val (.long q3), .second, .val (.long q4), .second, .val (.long q5), .second, .val (.int p6), .unset, .unset, .unset, .unset, .unset, .unset, .unset, .unset, .unset, .unset, .unset, .unset, .unset, .unset, .unset, .unset, .unset] [])) t → Steps p.tables e below (s₁.setTop (entryFrame m #[(.int p1), (.long q2), (.long q3), (.long q4), (.long q5), (.int p6)] maxLocals)) t := fun t k => castTop (ef_0 m p1 q2 q3 q4 q5 p6) k
  -- 3. LAWS
  have jmp_0 : ∀ target, Steps p.tables e below (s₁.setTop (mkF m 71 (own_L p1 q2 q3 q4 q5 p6 (4 : Int32) (1 : Int32) v0 v1 v2 v3 w0 w1 w2 w3 [.unset, .unset, .unset, .unset, .unset, .unset]) [])) target → Steps p.tables e below (s₁.setTop (mkF m 0 #[.val (.int p1), .val (.long q2), .second, .val (.long q3), .second, .val (.long q4), .second, .val (.long q5), .second, .val (.int p6), .unset, .unset, .unset, .unset, .unset, .unset, .unset, .unset, .unset, .unset, .unset, .unset, .unset, .unset, .unset, .unset, .unset] [])) target := fun target kt => own_j1 p1 q2 q3 q4 q5 p6 X0 hx hZ hw hby hown hc9 target (castTop (by rw [hk, h_v0, h_v1, h_v2, h_v3, h_w0, h_w1, h_w2, h_w3]) kt)
  obtain ⟨T7, h7, k7, X7, e7, E7, A7, I7, st7⟩ := newPE X0 hx hZ (hw _ (List.mem_of_getElem? (i := 1) rfl)) e0 (g := (mkF m 73 (own_L p1 q2 q3 q4 q5 p6 (4 : Int32) (1 : Int32) v0 v1 v2 v3 w0 w1 w2 w3 [.unset, .unset, .unset, .unset, .unset, .unset]) [(.int (4 : Int32))])) rfl (hb hby at_73) rfl (by decide) (cap := 4) (by decide) (by decide) (by decide) (by decide) (ad := "[I") rfl
  obtain ⟨b7, g7⟩ : ∃ z, z = h0.size := ⟨_, rfl⟩      -- the fresh array's address
  have Z7 : n0 ≤ h7.size := Nat.le_trans Z0 E7.1
  rw [← g7] at A7 I7 st7
  have V_b7 : Arv Z h7 b7 k7 .int (4 : Int32) [(.int (0 : Int32)), (.int (0 : Int32)), (.int (0 : Int32)), (.int (0 : Int32))] (.int (0 : Int32)) := (Arv.new A7 (by decide)).pad (pad_rep [] (.int (0 : Int32)) 4)
  have g_b7 : n0 ≤ b7 := Nat.le_trans Z0 (Nat.le_of_eq g7.symm)
  have sz_b7 : h0.size ≤ b7 := (Nat.le_trans (Keep.refl h0 []).1 (Nat.le_of_eq g7.symm))
  have K7 : Keep h0 h7 [] := (Keep.refl h0 []).ext E7
  obtain ⟨cl_b7_87, Ar_b7, q_b7, S_b7, N_b7, H_b7, G_b7⟩ := V_b7      -- open the array's fact as it stands now (its cell, kind, length, elements)
  have hin87 : ¬ ((0 : Int32) < 0 ∨ cl_b7_87.slots.size ≤ ((0 : Int32)).toNatClampNeg) := inb_of S_b7 ⟨by decide, by decide⟩
  obtain ⟨T8, h8, X8, e8, W8, st8⟩ := stI X7 hx hZ e7 Ar_b7 (j := (0 : Int32)) hin87 (g := (mkF m 87 (own_L p1 q2 q3 q4 q5 p6 (4 : Int32) (1 : Int32) v0 v1 v2 v3 w0 w1 w2 w3 [.val (.ref b7), .unset, .unset, .unset, .unset, .unset]) [(.int v0), (.int (0 : Int32)), (.ref b7)])) rfl rfl (hb hby at_87)
  have Z8 : n0 ≤ h8.size := Nat.le_trans Z7 (Keep.of_wr W8).1
  have V_b7_8 := Arv.set Ar_b7 q_b7 S_b7 N_b7 H_b7 G_b7 rfl W8 0 rfl (Nat.le_of_ble_eq_true rfl)      -- the array as it stands now (the place must lie among its first values: Arv.pad with pad_rep lengthens them)
  have K8 : Keep h0 h8 [] := K7.wr W8 (Or.inr sz_b7)
  have N8 := Fr.snoc X8 N0 g_b7
  obtain ⟨cl_b7_99, Ar_b7, q_b7, S_b7, N_b7, H_b7, G_b7⟩ := V_b7_8      -- open the array's fact as it stands now (its cell, kind, length, elements)
  have hin99 : ¬ ((1 : Int32) < 0 ∨ cl_b7_99.slots.size ≤ ((1 : Int32)).toNatClampNeg) := inb_of S_b7 ⟨by decide, by decide⟩
  obtain ⟨T9, h9, X9, e9, W9, st9⟩ := stI X8 hx hZ e8 Ar_b7 (j := (1 : Int32)) hin99 (g := (mkF m 99 (own_L p1 q2 q3 q4 q5 p6 (4 : Int32) (1 : Int32) v0 v1 v2 v3 w0 w1 w2 w3 [.val (.ref b7), .unset, .unset, .unset, .unset, .unset]) [(.int v1), (.int (1 : Int32)), (.ref b7)])) rfl rfl (hb hby at_99)
  have Z9 : n0 ≤ h9.size := Nat.le_trans Z8 (Keep.of_wr W9).1
  have V_b7_9 := Arv.set Ar_b7 q_b7 S_b7 N_b7 H_b7 G_b7 rfl W9 1 rfl (Nat.le_of_ble_eq_true rfl)      -- the array as it stands now (the place must lie among its first values: Arv.pad with pad_rep lengthens them)
  have K9 : Keep h0 h9 [] := K8.wr W9 (Or.inr sz_b7)
  have N9 := Fr.snoc X9 N8 g_b7
  obtain ⟨cl_b7_111, Ar_b7, q_b7, S_b7, N_b7, H_b7, G_b7⟩ := V_b7_9      -- open the array's fact as it stands now (its cell, kind, length, elements)
  have hin111 : ¬ ((2 : Int32) < 0 ∨ cl_b7_111.slots.size ≤ ((2 : Int32)).toNatClampNeg) := inb_of S_b7 ⟨by decide, by decide⟩
  obtain ⟨T10, h10, X10, e10, W10, st10⟩ := stI X9 hx hZ e9 Ar_b7 (j := (2 : Int32)) hin111 (g := (mkF m 111 (own_L p1 q2 q3 q4 q5 p6 (4 : Int32) (1 : Int32) v0 v1 v2 v3 w0 w1 w2 w3 [.val (.ref b7), .unset, .unset, .unset, .unset, .unset]) [(.int v2), (.int (2 : Int32)), (.ref b7)])) rfl rfl (hb hby at_111)
  have Z10 : n0 ≤ h10.size := Nat.le_trans Z9 (Keep.of_wr W10).1
  have V_b7_10 := Arv.set Ar_b7 q_b7 S_b7 N_b7 H_b7 G_b7 rfl W10 2 rfl (Nat.le_of_ble_eq_true rfl)      -- the array as it stands now (the place must lie among its first values: Arv.pad with pad_rep lengthens them)
  have K10 : Keep h0 h10 [] := K9.wr W10 (Or.inr sz_b7)
  have N10 := Fr.snoc X10 N9 g_b7
  obtain ⟨cl_b7_123, Ar_b7, q_b7, S_b7, N_b7, H_b7, G_b7⟩ := V_b7_10      -- open the array's fact as it stands now (its cell, kind, length, elements)
  have hin123 : ¬ ((3 : Int32) < 0 ∨ cl_b7_123.slots.size ≤ ((3 : Int32)).toNatClampNeg) := inb_of S_b7 ⟨by decide, by decide⟩
  obtain ⟨T11, h11, X11, e11, W11, st11⟩ := stI X10 hx hZ e10 Ar_b7 (j := (3 : Int32)) hin123 (g := (mkF m 123 (own_L p1 q2 q3 q4 q5 p6 (4 : Int32) (1 : Int32) v0 v1 v2 v3 w0 w1 w2 w3 [.val (.ref b7), .unset, .unset, .unset, .unset, .unset]) [(.int v3), (.int (3 : Int32)), (.ref b7)])) rfl rfl (hb hby at_123)
  have Z11 : n0 ≤ h11.size := Nat.le_trans Z10 (Keep.of_wr W11).1
  have V_b7_11 := Arv.set Ar_b7 q_b7 S_b7 N_b7 H_b7 G_b7 rfl W11 3 rfl (Nat.le_of_ble_eq_true rfl)      -- the array as it stands now (the place must lie among its first values: Arv.pad with pad_rep lengthens them)
  have K11 : Keep h0 h11 [] := K10.wr W11 (Or.inr sz_b7)
  have N11 := Fr.snoc X11 N10 g_b7
  have jmp_124 : ∀ target, Steps p.tables e below (T11.setTop (mkF m 131 (own_L p1 q2 q3 q4 q5 p6 (4 : Int32) (1 : Int32) v0 v1 v2 v3 w0 w1 w2 w3 [.val (.ref b7), .val (.int (5 : Int32)), .unset, .unset, .unset, .unset]) [])) target → Steps p.tables e below (T11.setTop (mkF m 124 (own_L p1 q2 q3 q4 q5 p6 (4 : Int32) (1 : Int32) v0 v1 v2 v3 w0 w1 w2 w3 [.val (.ref b7), .unset, .unset, .unset, .unset, .unset]) [])) target := by
    intro target kt
    · have hm : (4 : Int32) + (1 : Int32) = (5 : Int32) := by decide
      show Steps p.tables e below (T11.setTop (mkF m 124 (own_L p1 q2 q3 q4 q5 p6 (4 : Int32) (1 : Int32) v0 v1 v2 v3 w0 w1 w2 w3 [.val (.ref b7), .unset, .unset, .unset, .unset, .unset]) [])) _
      refine XS.iload X11.here hx rfl (hb hby at_124) rfl ?_
      show Steps p.tables e below (T11.setTop (mkF m 126 (own_L p1 q2 q3 q4 q5 p6 (4 : Int32) (1 : Int32) v0 v1 v2 v3 w0 w1 w2 w3 [.val (.ref b7), .unset, .unset, .unset, .unset, .unset]) [(.int (4 : Int32))])) _
      refine XS.iload X11.here hx rfl (hb hby at_126) rfl ?_
      show Steps p.tables e below (T11.setTop (mkF m 128 (own_L p1 q2 q3 q4 q5 p6 (4 : Int32) (1 : Int32) v0 v1 v2 v3 w0 w1 w2 w3 [.val (.ref b7), .unset, .unset, .unset, .unset, .unset]) [(.int (1 : Int32)), (.int (4 : Int32))])) _
      refine XS.iadd X11.here hx rfl (hb hby at_128) rfl ?_
      show Steps p.tables e below (T11.setTop (mkF m 129 (own_L p1 q2 q3 q4 q5 p6 (4 : Int32) (1 : Int32) v0 v1 v2 v3 w0 w1 w2 w3 [.val (.ref b7), .unset, .unset, .unset, .unset, .unset]) [(.int ((4 : Int32) + (1 : Int32)))])) _
      refine XS.istore X11.here hx rfl (hb hby at_129) rfl (l' := (own_L p1 q2 q3 q4 q5 p6 (4 : Int32) (1 : Int32) v0 v1 v2 v3 w0 w1 w2 w3 [.val (.ref b7), .val (.int ((4 : Int32) + (1 : Int32))), .unset, .unset, .unset, .unset])) rfl ?_
      exact castTop (by rw [hm]) kt
  obtain ⟨T12, h12, k12, X12, e12, E12, A12, I12, st12⟩ := newPE X11 hx hZ (hw _ (List.mem_of_getElem? (i := 1) rfl)) e11 (g := (mkF m 133 (own_L p1 q2 q3 q4 q5 p6 (4 : Int32) (1 : Int32) v0 v1 v2 v3 w0 w1 w2 w3 [.val (.ref b7), .val (.int (5 : Int32)), .unset, .unset, .unset, .unset]) [(.int (5 : Int32))])) rfl (hb hby at_133) rfl (by decide) (cap := 5) (by decide) (by decide) (by decide) (by decide) (ad := "[I") rfl
  obtain ⟨b12, g12⟩ : ∃ z, z = h11.size := ⟨_, rfl⟩      -- the fresh array's address
  have Z12 : n0 ≤ h12.size := Nat.le_trans Z11 E12.1
  rw [← g12] at A12 I12 st12
  have V_b12 : Arv Z h12 b12 k12 .int (5 : Int32) [(.int (0 : Int32)), (.int (0 : Int32)), (.int (0 : Int32)), (.int (0 : Int32)), (.int (0 : Int32))] (.int (0 : Int32)) := (Arv.new A12 (by decide)).pad (pad_rep [] (.int (0 : Int32)) 5)
  have g_b12 : n0 ≤ b12 := Nat.le_trans (Nat.le_trans (Nat.le_trans (Nat.le_trans (Nat.le_trans (Nat.le_trans Z0 E7.1) (Keep.of_wr W8).1) (Keep.of_wr W9).1) (Keep.of_wr W10).1) (Keep.of_wr W11).1) (Nat.le_of_eq g12.symm)
  have sz_b12 : h0.size ≤ b12 := (Nat.le_trans K11.1 (Nat.le_of_eq g12.symm))
  have K12 : Keep h0 h12 [] := K11.ext E12
  obtain ⟨cl_b12_147, Ar_b12, q_b12, S_b12, N_b12, H_b12, G_b12⟩ := V_b12      -- open the array's fact as it stands now (its cell, kind, length, elements)
  have hin147 : ¬ ((0 : Int32) < 0 ∨ cl_b12_147.slots.size ≤ ((0 : Int32)).toNatClampNeg) := inb_of S_b12 ⟨by decide, by decide⟩
  obtain ⟨T13, h13, X13, e13, W13, st13⟩ := stI X12 hx hZ e12 Ar_b12 (j := (0 : Int32)) hin147 (g := (mkF m 147 (own_L p1 q2 q3 q4 q5 p6 (4 : Int32) (1 : Int32) v0 v1 v2 v3 w0 w1 w2 w3 [.val (.ref b7), .val (.int (5 : Int32)), .val (.ref b12), .unset, .unset, .unset]) [(.int w0), (.int (0 : Int32)), (.ref b12)])) rfl rfl (hb hby at_147)
  have Z13 : n0 ≤ h13.size := Nat.le_trans Z12 (Keep.of_wr W13).1
  have V_b12_13 := Arv.set Ar_b12 q_b12 S_b12 N_b12 H_b12 G_b12 rfl W13 0 rfl (Nat.le_of_ble_eq_true rfl)      -- the array as it stands now (the place must lie among its first values: Arv.pad with pad_rep lengthens them)
  have K13 : Keep h0 h13 [] := K12.wr W13 (Or.inr sz_b12)
  have N13 := Fr.snoc X13 N11 g_b12
  obtain ⟨cl_b12_159, Ar_b12, q_b12, S_b12, N_b12, H_b12, G_b12⟩ := V_b12_13      -- open the array's fact as it stands now (its cell, kind, length, elements)
  have hin159 : ¬ ((1 : Int32) < 0 ∨ cl_b12_159.slots.size ≤ ((1 : Int32)).toNatClampNeg) := inb_of S_b12 ⟨by decide, by decide⟩
  obtain ⟨T14, h14, X14, e14, W14, st14⟩ := stI X13 hx hZ e13 Ar_b12 (j := (1 : Int32)) hin159 (g := (mkF m 159 (own_L p1 q2 q3 q4 q5 p6 (4 : Int32) (1 : Int32) v0 v1 v2 v3 w0 w1 w2 w3 [.val (.ref b7), .val (.int (5 : Int32)), .val (.ref b12), .unset, .unset, .unset]) [(.int w1), (.int (1 : Int32)), (.ref b12)])) rfl rfl (hb hby at_159)
  have Z14 : n0 ≤ h14.size := Nat.le_trans Z13 (Keep.of_wr W14).1
  have V_b12_14 := Arv.set Ar_b12 q_b12 S_b12 N_b12 H_b12 G_b12 rfl W14 1 rfl (Nat.le_of_ble_eq_true rfl)      -- the array as it stands now (the place must lie among its first values: Arv.pad with pad_rep lengthens them)
  have K14 : Keep h0 h14 [] := K13.wr W14 (Or.inr sz_b12)
  have N14 := Fr.snoc X14 N13 g_b12
  obtain ⟨cl_b12_171, Ar_b12, q_b12, S_b12, N_b12, H_b12, G_b12⟩ := V_b12_14      -- open the array's fact as it stands now (its cell, kind, length, elements)
  have hin171 : ¬ ((2 : Int32) < 0 ∨ cl_b12_171.slots.size ≤ ((2 : Int32)).toNatClampNeg) := inb_of S_b12 ⟨by decide, by decide⟩
  obtain ⟨T15, h15, X15, e15, W15, st15⟩ := stI X14 hx hZ e14 Ar_b12 (j := (2 : Int32)) hin171 (g := (mkF m 171 (own_L p1 q2 q3 q4 q5 p6 (4 : Int32) (1 : Int32) v0 v1 v2 v3 w0 w1 w2 w3 [.val (.ref b7), .val (.int (5 : Int32)), .val (.ref b12), .unset, .unset, .unset]) [(.int w2), (.int (2 : Int32)), (.ref b12)])) rfl rfl (hb hby at_171)
  have Z15 : n0 ≤ h15.size := Nat.le_trans Z14 (Keep.of_wr W15).1
  have V_b12_15 := Arv.set Ar_b12 q_b12 S_b12 N_b12 H_b12 G_b12 rfl W15 2 rfl (Nat.le_of_ble_eq_true rfl)      -- the array as it stands now (the place must lie among its first values: Arv.pad with pad_rep lengthens them)
  have K15 : Keep h0 h15 [] := K14.wr W15 (Or.inr sz_b12)
  have N15 := Fr.snoc X15 N14 g_b12
  obtain ⟨cl_b12_183, Ar_b12, q_b12, S_b12, N_b12, H_b12, G_b12⟩ := V_b12_15      -- open the array's fact as it stands now (its cell, kind, length, elements)
  have hin183 : ¬ ((3 : Int32) < 0 ∨ cl_b12_183.slots.size ≤ ((3 : Int32)).toNatClampNeg) := inb_of S_b12 ⟨by decide, by decide⟩
  obtain ⟨T16, h16, X16, e16, W16, st16⟩ := stI X15 hx hZ e15 Ar_b12 (j := (3 : Int32)) hin183 (g := (mkF m 183 (own_L p1 q2 q3 q4 q5 p6 (4 : Int32) (1 : Int32) v0 v1 v2 v3 w0 w1 w2 w3 [.val (.ref b7), .val (.int (5 : Int32)), .val (.ref b12), .unset, .unset, .unset]) [(.int w3), (.int (3 : Int32)), (.ref b12)])) rfl rfl (hb hby at_183)
  have Z16 : n0 ≤ h16.size := Nat.le_trans Z15 (Keep.of_wr W16).1
  have V_b12_16 := Arv.set Ar_b12 q_b12 S_b12 N_b12 H_b12 G_b12 rfl W16 3 rfl (Nat.le_of_ble_eq_true rfl)      -- the array as it stands now (the place must lie among its first values: Arv.pad with pad_rep lengthens them)
  have K16 : Keep h0 h16 [] := K15.wr W16 (Or.inr sz_b12)
  have N16 := Fr.snoc X16 N15 g_b12
  obtain ⟨cl_b12_195, Ar_b12, q_b12, S_b12, N_b12, H_b12, G_b12⟩ := V_b12_16      -- open the array's fact as it stands now (its cell, kind, length, elements)
  have hin195 : ¬ ((4 : Int32) < 0 ∨ cl_b12_195.slots.size ≤ ((4 : Int32)).toNatClampNeg) := inb_of S_b12 ⟨by decide, by decide⟩
  obtain ⟨T17, h17, X17, e17, W17, st17⟩ := stI X16 hx hZ e16 Ar_b12 (j := (4 : Int32)) hin195 (g := (mkF m 195 (own_L p1 q2 q3 q4 q5 p6 (4 : Int32) (1 : Int32) v0 v1 v2 v3 w0 w1 w2 w3 [.val (.ref b7), .val (.int (5 : Int32)), .val (.ref b12), .unset, .unset, .unset]) [(.int p6), (.int (4 : Int32)), (.ref b12)])) rfl rfl (hb hby at_195)
  have Z17 : n0 ≤ h17.size := Nat.le_trans Z16 (Keep.of_wr W17).1
  have V_b12_17 := Arv.set Ar_b12 q_b12 S_b12 N_b12 H_b12 G_b12 rfl W17 4 rfl (Nat.le_of_ble_eq_true rfl)      -- the array as it stands now (the place must lie among its first values: Arv.pad with pad_rep lengthens them)
  have K17 : Keep h0 h17 [] := K16.wr W17 (Or.inr sz_b12)
  have N17 := Fr.snoc X17 N16 g_b12
  obtain ⟨T18, h18, X18, e18, E18, A18, D18, -, st18⟩ := newO X17 hx hZ hown (hw _ (List.mem_of_getElem? (i := 2) rfl)) (hw _ (List.mem_of_getElem? (i := 3) rfl)) (hw _ (List.mem_of_getElem? (i := 4) rfl)) e17 (g := (mkF m 196 (own_L p1 q2 q3 q4 q5 p6 (4 : Int32) (1 : Int32) v0 v1 v2 v3 w0 w1 w2 w3 [.val (.ref b7), .val (.int (5 : Int32)), .val (.ref b12), .unset, .unset, .unset]) [])) rfl (hb hby at_196) (by decide) (by decide)
  obtain ⟨b18, g18⟩ : ∃ z, z = h17.size := ⟨_, rfl⟩      -- the fresh object's address
  have Z18 : n0 ≤ h18.size := Nat.le_trans Z17 E18.1
  rw [← g18] at A18 D18 st18      -- A18 : Exa Z h18 b18 "com/example/stagecraft/stagecraft/examples/GenericDotProduct"; E18 : Ext h17 h18 (carries every older fact: .ext E18)
  have F_fixed_b18 : Fld Z h18 b18 "com/example/stagecraft/stagecraft/examples/GenericDotProduct" "fixed" "[I" .null := D18 (Or.inr (hw _ (List.mem_of_getElem? (i := 21) rfl))) (ty := (.array .int)) (by decide)
  have E_b18 := A18
  have g_b18 : n0 ≤ b18 := Nat.le_trans (Nat.le_trans (Nat.le_trans (Nat.le_trans (Nat.le_trans (Nat.le_trans (Nat.le_trans (Nat.le_trans (Nat.le_trans (Nat.le_trans (Nat.le_trans (Nat.le_trans Z0 E7.1) (Keep.of_wr W8).1) (Keep.of_wr W9).1) (Keep.of_wr W10).1) (Keep.of_wr W11).1) E12.1) (Keep.of_wr W13).1) (Keep.of_wr W14).1) (Keep.of_wr W15).1) (Keep.of_wr W16).1) (Keep.of_wr W17).1) (Nat.le_of_eq g18.symm)
  have sz_b18 : h0.size ≤ b18 := (Nat.le_trans K17.1 (Nat.le_of_eq g18.symm))
  have K18 : Keep h0 h18 [] := K17.ext E18
  have CV1_b7 := (((((((V_b7_11.ext E12).other W13 (Nat.ne_of_lt (Nat.lt_of_lt_of_le V_b7_11.lt (Nat.le_of_eq g12.symm)))).other W14 (Nat.ne_of_lt (Nat.lt_of_lt_of_le V_b7_11.lt (Nat.le_of_eq g12.symm)))).other W15 (Nat.ne_of_lt (Nat.lt_of_lt_of_le V_b7_11.lt (Nat.le_of_eq g12.symm)))).other W16 (Nat.ne_of_lt (Nat.lt_of_lt_of_le V_b7_11.lt (Nat.le_of_eq g12.symm)))).other W17 (Nat.ne_of_lt (Nat.lt_of_lt_of_le V_b7_11.lt (Nat.le_of_eq g12.symm)))).ext E18)
  have CE1_b7 := (((((((((((I7.wr W8).wr W9).wr W10).wr W11).ext E12).wr W13).wr W14).wr W15).wr W16).wr W17).ext E18)
  have CV1_b12 := (V_b12_17.ext E18)
  have CE1_b12 := ((((((I12.wr W13).wr W14).wr W15).wr W16).wr W17).ext E18)
  have CE1_b18 := E_b18
  -- pc 202: the constructor of com/example/stagecraft/stagecraft/examples/GenericDotProduct by its contract rm1
  obtain ⟨_, _, ⟨T19, L19, k19, n19⟩, -, X19, ⟨Lc19, hQ19, l19, y19, z19⟩, st19⟩ := X18.specialBack hx (y := (⟨"com/example/stagecraft/stagecraft/examples/GenericDotProduct", "<init>", "([I)V"⟩ : MethodName)) rfl hown (mvT hZ (hw _ (List.mem_of_getElem? (i := 5) rfl))) (mvT hZ (hw _ (List.mem_of_getElem? (i := 6) rfl))) (mvT hZ (hw _ (List.mem_of_getElem? (i := 7) rfl))) (by decide) (backOf (W := 1) (rm1 l Z a0 hw [] b18 b7 k7 (4 : Int32) [(.int v0), (.int v1), (.int v2), (.int v3)] .null h18 n0 Z18 CV1_b7 (by decide) CE1_b7 E_b18 F_fixed_b18 g_b18) hZ (hw _ (List.mem_of_getElem? (i := 7) rfl)) (hw _ (List.mem_of_getElem? (i := 4) rfl)) (by decide) (by decide)) (g := (mkF m 202 (own_L p1 q2 q3 q4 q5 p6 (4 : Int32) (1 : Int32) v0 v1 v2 v3 w0 w1 w2 w3 [.val (.ref b7), .val (.int (5 : Int32)), .val (.ref b12), .unset, .unset, .unset]) [(.ref b7), (.ref b18), (.ref b18)])) rfl (by rw [hml]; rfl) (Steps.refl _) (a := b18) (argsL := [(.ref b7)]) (rest := [(.ref b18)]) (lenOf pd_0_0 rfl) rfl (by show 2 * 0 + _ ≤ _; exact Nat.le_of_eq rfl) (hb hby at_202) (fun _ _ => ⟨rfl, e18, (by decide : 3 + 1 ≤ _), (by decide : 10 + 4 ≤ _)⟩)
  dsimp only [Pt.U, Pt.locs, Pt.cells, Pt.slots] at X19 l19 y19 z19 st19 hQ19
  subst l19 y19 z19
  obtain ⟨rfl, N19q, K19q, E19x, t19, F19a, V19a⟩ := hQ19
  have Z19 : n0 ≤ T19.heap.size := Nat.le_trans Z18 K19q.1
  have N19 := Fr.app N17 N19q
  have CE2_b7 := ((((((((((((I7.wr W8).wr W9).wr W10).wr W11).ext E12).wr W13).wr W14).wr W15).wr W16).wr W17).ext E18).keep K19q)
  have CE2_b12 := (((((((I12.wr W13).wr W14).wr W15).wr W16).wr W17).ext E18).keep K19q)
  have CE2_b18 := (E_b18.keep K19q)
  -- pc 211: com/example/stagecraft/stagecraft/examples/GenericDotProduct.apply by the contract of the body that the receiver's class selects, rm3
  obtain ⟨cq20, kq20, q20a, q20b, q20c⟩ := isOf hZ rfl (E_b18.keep K19q)
  obtain ⟨_, _, ⟨T20, L20, k20, n20⟩, -, X20, ⟨Lc20, hQ20, l20, y20, z20⟩, st20⟩ := X19.virtualBack hx (y := (⟨"com/example/stagecraft/stagecraft/examples/GenericDotProduct", "apply", "([I)I"⟩ : MethodName)) (z := (⟨"com/example/stagecraft/stagecraft/examples/GenericDotProduct", "apply", "([I)I"⟩ : MethodName)) hown (mvT hZ (hw _ (List.mem_of_getElem? (i := 22) rfl))) (mvT hZ (hw _ (List.mem_of_getElem? (i := 23) rfl))) (notFace_of_selects (args := #[]) (mvT hZ (hw _ (List.mem_of_getElem? (i := 25) rfl)))) (mvT hZ (hw _ (List.mem_of_getElem? (i := 25) rfl))) (mvT hZ (hw _ (List.mem_of_getElem? (i := 24) rfl))) (by decide) (backOf (W := 0) (rm3 l Z a0 hw [] b18 b12 t19 k7 k12 (4 : Int32) (5 : Int32) [(.int v0), (.int v1), (.int v2), (.int v3)] [(.int w0), (.int w1), (.int w2), (.int w3), (.int p6)] (fun j => [v0, v1, v2, v3].getD j 0) (fun j => [w0, w1, w2, w3].getD j 0) 4 T19.heap n0 Z19 (by decide) rfl (by decide) F19a V19a (CV1_b12.keep K19q (ninS (Nat.ne_of_lt (Nat.lt_of_lt_of_le V_b12_17.lt (Nat.le_of_eq g18.symm))) nin0)) (fun j hj => by rcases j with _ | _ | _ | _ | j <;> first | rfl | (exfalso; omega)) (fun j hj => by rcases j with _ | _ | _ | _ | j <;> first | rfl | (exfalso; omega))) hZ (hw _ (List.mem_of_getElem? (i := 26) rfl)) (hw _ (List.mem_of_getElem? (i := 4) rfl)) (by decide) (by decide)) q20a q20c (g := (mkF m 211 (own_L p1 q2 q3 q4 q5 p6 (4 : Int32) (1 : Int32) v0 v1 v2 v3 w0 w1 w2 w3 [.val (.ref b7), .val (.int (5 : Int32)), .val (.ref b12), .val (.ref b18), .unset, .unset]) [(.ref b12), (.ref b18)])) rfl (by rw [hml]; rfl) (Steps.refl _) (argsL := [(.ref b12)]) (rest := []) (lenOf pd_0_3 rfl) rfl (by show 2 * 0 + _ ≤ _; exact Nat.le_of_eq rfl) (hb hby at_211) (fun _ _ => ⟨rfl, rfl, (by decide : 4 + 0 ≤ _), (by decide : 14 + 0 ≤ _)⟩)
  dsimp only [Pt.U, Pt.locs, Pt.cells, Pt.slots] at X20 l20 y20 z20 st20 hQ20
  subst l20 y20 z20
  obtain ⟨rfl, N20q, E20q⟩ := hQ20
  have K20q : Keep T19.heap T20.heap [] := by rw [E20q]; exact Keep.refl _ _
  have Z20 : n0 ≤ T20.heap.size := Nat.le_trans Z19 K20q.1
  have N20 := Fr.app N19 N20q
  obtain ⟨fs, hr, hrun, hended, hW, hsame⟩ := X20.leave (v := some (.int (1 : Int32))) (fun h => by rw [Bd.returns] at h; cases h)
  refine ⟨_, _, pre0 _ ?_, hrun, hended, _, _, rfl, ?_, ⟨_, rfl⟩, hW, hsame.mono (by decide) (by decide)⟩
  -- 4. STEPS
  · show Steps p.tables e below (s₁.setTop (mkF m 0 #[.val (.int p1), .val (.long q2), .second, .val (.long q3), .second, .val (.long q4), .second, .val (.long q5), .second, .val (.int p6), .unset, .unset, .unset, .unset, .unset, .unset, .unset, .unset, .unset, .unset, .unset, .unset, .unset, .unset, .unset, .unset, .unset] [])) _
    refine jmp_0 _ ?_
    show Steps p.tables e below (s₁.setTop (mkF m 71 (own_L p1 q2 q3 q4 q5 p6 (4 : Int32) (1 : Int32) v0 v1 v2 v3 w0 w1 w2 w3 [.unset, .unset, .unset, .unset, .unset, .unset]) [])) _
    refine XS.iload X0.here hx rfl (hb hby at_71) rfl ?_
    show Steps p.tables e below (s₁.setTop (mkF m 73 (own_L p1 q2 q3 q4 q5 p6 (4 : Int32) (1 : Int32) v0 v1 v2 v3 w0 w1 w2 w3 [.unset, .unset, .unset, .unset, .unset, .unset]) [(.int (4 : Int32))])) _
    refine st7 _ ?_
    show Steps p.tables e below (T7.setTop (mkF m 75 (own_L p1 q2 q3 q4 q5 p6 (4 : Int32) (1 : Int32) v0 v1 v2 v3 w0 w1 w2 w3 [.unset, .unset, .unset, .unset, .unset, .unset]) [(.ref b7)])) _
    refine XS.astore X7.here hx rfl (hb hby at_75) rfl rfl (l' := (own_L p1 q2 q3 q4 q5 p6 (4 : Int32) (1 : Int32) v0 v1 v2 v3 w0 w1 w2 w3 [.val (.ref b7), .unset, .unset, .unset, .unset, .unset])) rfl ?_
    show Steps p.tables e below (T7.setTop (mkF m 77 (own_L p1 q2 q3 q4 q5 p6 (4 : Int32) (1 : Int32) v0 v1 v2 v3 w0 w1 w2 w3 [.val (.ref b7), .unset, .unset, .unset, .unset, .unset]) [])) _
    refine XS.iload X7.here hx rfl (hb hby at_77) rfl ?_
    show Steps p.tables e below (T7.setTop (mkF m 79 (own_L p1 q2 q3 q4 q5 p6 (4 : Int32) (1 : Int32) v0 v1 v2 v3 w0 w1 w2 w3 [.val (.ref b7), .unset, .unset, .unset, .unset, .unset]) [(.int (4 : Int32))])) _
    refine XS.ifNo X7.here hx rfl (hb hby at_79) rfl ((if0 _ _).trans (tlt (by decide : (0 : Int32) < (4 : Int32))).2.2.2) ?_
    show Steps p.tables e below (T7.setTop (mkF m 82 (own_L p1 q2 q3 q4 q5 p6 (4 : Int32) (1 : Int32) v0 v1 v2 v3 w0 w1 w2 w3 [.val (.ref b7), .unset, .unset, .unset, .unset, .unset]) [])) _
    refine XS.aload X7.here hx rfl (hb hby at_82) rfl rfl ?_
    show Steps p.tables e below (T7.setTop (mkF m 84 (own_L p1 q2 q3 q4 q5 p6 (4 : Int32) (1 : Int32) v0 v1 v2 v3 w0 w1 w2 w3 [.val (.ref b7), .unset, .unset, .unset, .unset, .unset]) [(.ref b7)])) _
    refine XS.iconst X7.here hx rfl (hb hby at_84) ?_
    show Steps p.tables e below (T7.setTop (mkF m 85 (own_L p1 q2 q3 q4 q5 p6 (4 : Int32) (1 : Int32) v0 v1 v2 v3 w0 w1 w2 w3 [.val (.ref b7), .unset, .unset, .unset, .unset, .unset]) [(.int (0 : Int32)), (.ref b7)])) _
    refine XS.iload X7.here hx rfl (hb hby at_85) rfl ?_
    show Steps p.tables e below (T7.setTop (mkF m 87 (own_L p1 q2 q3 q4 q5 p6 (4 : Int32) (1 : Int32) v0 v1 v2 v3 w0 w1 w2 w3 [.val (.ref b7), .unset, .unset, .unset, .unset, .unset]) [(.int v0), (.int (0 : Int32)), (.ref b7)])) _
    refine st8 _ ?_
    show Steps p.tables e below (T8.setTop (mkF m 88 (own_L p1 q2 q3 q4 q5 p6 (4 : Int32) (1 : Int32) v0 v1 v2 v3 w0 w1 w2 w3 [.val (.ref b7), .unset, .unset, .unset, .unset, .unset]) [])) _
    refine XS.iload X8.here hx rfl (hb hby at_88) rfl ?_
    show Steps p.tables e below (T8.setTop (mkF m 90 (own_L p1 q2 q3 q4 q5 p6 (4 : Int32) (1 : Int32) v0 v1 v2 v3 w0 w1 w2 w3 [.val (.ref b7), .unset, .unset, .unset, .unset, .unset]) [(.int (4 : Int32))])) _
    refine XS.iconst X8.here hx rfl (hb hby at_90) ?_
    show Steps p.tables e below (T8.setTop (mkF m 91 (own_L p1 q2 q3 q4 q5 p6 (4 : Int32) (1 : Int32) v0 v1 v2 v3 w0 w1 w2 w3 [.val (.ref b7), .unset, .unset, .unset, .unset, .unset]) [(.int (1 : Int32)), (.int (4 : Int32))])) _
    refine XS.icmpNo X8.here hx rfl (hb hby at_91) rfl (tlt (by decide : (1 : Int32) < (4 : Int32))).2.2.2 ?_
    show Steps p.tables e below (T8.setTop (mkF m 94 (own_L p1 q2 q3 q4 q5 p6 (4 : Int32) (1 : Int32) v0 v1 v2 v3 w0 w1 w2 w3 [.val (.ref b7), .unset, .unset, .unset, .unset, .unset]) [])) _
    refine XS.aload X8.here hx rfl (hb hby at_94) rfl rfl ?_
    show Steps p.tables e below (T8.setTop (mkF m 96 (own_L p1 q2 q3 q4 q5 p6 (4 : Int32) (1 : Int32) v0 v1 v2 v3 w0 w1 w2 w3 [.val (.ref b7), .unset, .unset, .unset, .unset, .unset]) [(.ref b7)])) _
    refine XS.iconst X8.here hx rfl (hb hby at_96) ?_
    show Steps p.tables e below (T8.setTop (mkF m 97 (own_L p1 q2 q3 q4 q5 p6 (4 : Int32) (1 : Int32) v0 v1 v2 v3 w0 w1 w2 w3 [.val (.ref b7), .unset, .unset, .unset, .unset, .unset]) [(.int (1 : Int32)), (.ref b7)])) _
    refine XS.iload X8.here hx rfl (hb hby at_97) rfl ?_
    show Steps p.tables e below (T8.setTop (mkF m 99 (own_L p1 q2 q3 q4 q5 p6 (4 : Int32) (1 : Int32) v0 v1 v2 v3 w0 w1 w2 w3 [.val (.ref b7), .unset, .unset, .unset, .unset, .unset]) [(.int v1), (.int (1 : Int32)), (.ref b7)])) _
    refine st9 _ ?_
    show Steps p.tables e below (T9.setTop (mkF m 100 (own_L p1 q2 q3 q4 q5 p6 (4 : Int32) (1 : Int32) v0 v1 v2 v3 w0 w1 w2 w3 [.val (.ref b7), .unset, .unset, .unset, .unset, .unset]) [])) _
    refine XS.iload X9.here hx rfl (hb hby at_100) rfl ?_
    show Steps p.tables e below (T9.setTop (mkF m 102 (own_L p1 q2 q3 q4 q5 p6 (4 : Int32) (1 : Int32) v0 v1 v2 v3 w0 w1 w2 w3 [.val (.ref b7), .unset, .unset, .unset, .unset, .unset]) [(.int (4 : Int32))])) _
    refine XS.iconst X9.here hx rfl (hb hby at_102) ?_
    show Steps p.tables e below (T9.setTop (mkF m 103 (own_L p1 q2 q3 q4 q5 p6 (4 : Int32) (1 : Int32) v0 v1 v2 v3 w0 w1 w2 w3 [.val (.ref b7), .unset, .unset, .unset, .unset, .unset]) [(.int (2 : Int32)), (.int (4 : Int32))])) _
    refine XS.icmpNo X9.here hx rfl (hb hby at_103) rfl (tlt (by decide : (2 : Int32) < (4 : Int32))).2.2.2 ?_
    show Steps p.tables e below (T9.setTop (mkF m 106 (own_L p1 q2 q3 q4 q5 p6 (4 : Int32) (1 : Int32) v0 v1 v2 v3 w0 w1 w2 w3 [.val (.ref b7), .unset, .unset, .unset, .unset, .unset]) [])) _
    refine XS.aload X9.here hx rfl (hb hby at_106) rfl rfl ?_
    show Steps p.tables e below (T9.setTop (mkF m 108 (own_L p1 q2 q3 q4 q5 p6 (4 : Int32) (1 : Int32) v0 v1 v2 v3 w0 w1 w2 w3 [.val (.ref b7), .unset, .unset, .unset, .unset, .unset]) [(.ref b7)])) _
    refine XS.iconst X9.here hx rfl (hb hby at_108) ?_
    show Steps p.tables e below (T9.setTop (mkF m 109 (own_L p1 q2 q3 q4 q5 p6 (4 : Int32) (1 : Int32) v0 v1 v2 v3 w0 w1 w2 w3 [.val (.ref b7), .unset, .unset, .unset, .unset, .unset]) [(.int (2 : Int32)), (.ref b7)])) _
    refine XS.iload X9.here hx rfl (hb hby at_109) rfl ?_
    show Steps p.tables e below (T9.setTop (mkF m 111 (own_L p1 q2 q3 q4 q5 p6 (4 : Int32) (1 : Int32) v0 v1 v2 v3 w0 w1 w2 w3 [.val (.ref b7), .unset, .unset, .unset, .unset, .unset]) [(.int v2), (.int (2 : Int32)), (.ref b7)])) _
    refine st10 _ ?_
    show Steps p.tables e below (T10.setTop (mkF m 112 (own_L p1 q2 q3 q4 q5 p6 (4 : Int32) (1 : Int32) v0 v1 v2 v3 w0 w1 w2 w3 [.val (.ref b7), .unset, .unset, .unset, .unset, .unset]) [])) _
    refine XS.iload X10.here hx rfl (hb hby at_112) rfl ?_
    show Steps p.tables e below (T10.setTop (mkF m 114 (own_L p1 q2 q3 q4 q5 p6 (4 : Int32) (1 : Int32) v0 v1 v2 v3 w0 w1 w2 w3 [.val (.ref b7), .unset, .unset, .unset, .unset, .unset]) [(.int (4 : Int32))])) _
    refine XS.iconst X10.here hx rfl (hb hby at_114) ?_
    show Steps p.tables e below (T10.setTop (mkF m 115 (own_L p1 q2 q3 q4 q5 p6 (4 : Int32) (1 : Int32) v0 v1 v2 v3 w0 w1 w2 w3 [.val (.ref b7), .unset, .unset, .unset, .unset, .unset]) [(.int (3 : Int32)), (.int (4 : Int32))])) _
    refine XS.icmpNo X10.here hx rfl (hb hby at_115) rfl (tlt (by decide : (3 : Int32) < (4 : Int32))).2.2.2 ?_
    show Steps p.tables e below (T10.setTop (mkF m 118 (own_L p1 q2 q3 q4 q5 p6 (4 : Int32) (1 : Int32) v0 v1 v2 v3 w0 w1 w2 w3 [.val (.ref b7), .unset, .unset, .unset, .unset, .unset]) [])) _
    refine XS.aload X10.here hx rfl (hb hby at_118) rfl rfl ?_
    show Steps p.tables e below (T10.setTop (mkF m 120 (own_L p1 q2 q3 q4 q5 p6 (4 : Int32) (1 : Int32) v0 v1 v2 v3 w0 w1 w2 w3 [.val (.ref b7), .unset, .unset, .unset, .unset, .unset]) [(.ref b7)])) _
    refine XS.iconst X10.here hx rfl (hb hby at_120) ?_
    show Steps p.tables e below (T10.setTop (mkF m 121 (own_L p1 q2 q3 q4 q5 p6 (4 : Int32) (1 : Int32) v0 v1 v2 v3 w0 w1 w2 w3 [.val (.ref b7), .unset, .unset, .unset, .unset, .unset]) [(.int (3 : Int32)), (.ref b7)])) _
    refine XS.iload X10.here hx rfl (hb hby at_121) rfl ?_
    show Steps p.tables e below (T10.setTop (mkF m 123 (own_L p1 q2 q3 q4 q5 p6 (4 : Int32) (1 : Int32) v0 v1 v2 v3 w0 w1 w2 w3 [.val (.ref b7), .unset, .unset, .unset, .unset, .unset]) [(.int v3), (.int (3 : Int32)), (.ref b7)])) _
    refine st11 _ ?_
    show Steps p.tables e below (T11.setTop (mkF m 124 (own_L p1 q2 q3 q4 q5 p6 (4 : Int32) (1 : Int32) v0 v1 v2 v3 w0 w1 w2 w3 [.val (.ref b7), .unset, .unset, .unset, .unset, .unset]) [])) _
    refine jmp_124 _ ?_
    show Steps p.tables e below (T11.setTop (mkF m 131 (own_L p1 q2 q3 q4 q5 p6 (4 : Int32) (1 : Int32) v0 v1 v2 v3 w0 w1 w2 w3 [.val (.ref b7), .val (.int (5 : Int32)), .unset, .unset, .unset, .unset]) [])) _
    refine XS.iload X11.here hx rfl (hb hby at_131) rfl ?_
    show Steps p.tables e below (T11.setTop (mkF m 133 (own_L p1 q2 q3 q4 q5 p6 (4 : Int32) (1 : Int32) v0 v1 v2 v3 w0 w1 w2 w3 [.val (.ref b7), .val (.int (5 : Int32)), .unset, .unset, .unset, .unset]) [(.int (5 : Int32))])) _
    refine st12 _ ?_
    show Steps p.tables e below (T12.setTop (mkF m 135 (own_L p1 q2 q3 q4 q5 p6 (4 : Int32) (1 : Int32) v0 v1 v2 v3 w0 w1 w2 w3 [.val (.ref b7), .val (.int (5 : Int32)), .unset, .unset, .unset, .unset]) [(.ref b12)])) _
    refine XS.astore X12.here hx rfl (hb hby at_135) rfl rfl (l' := (own_L p1 q2 q3 q4 q5 p6 (4 : Int32) (1 : Int32) v0 v1 v2 v3 w0 w1 w2 w3 [.val (.ref b7), .val (.int (5 : Int32)), .val (.ref b12), .unset, .unset, .unset])) rfl ?_
    show Steps p.tables e below (T12.setTop (mkF m 137 (own_L p1 q2 q3 q4 q5 p6 (4 : Int32) (1 : Int32) v0 v1 v2 v3 w0 w1 w2 w3 [.val (.ref b7), .val (.int (5 : Int32)), .val (.ref b12), .unset, .unset, .unset]) [])) _
    refine XS.iload X12.here hx rfl (hb hby at_137) rfl ?_
    show Steps p.tables e below (T12.setTop (mkF m 139 (own_L p1 q2 q3 q4 q5 p6 (4 : Int32) (1 : Int32) v0 v1 v2 v3 w0 w1 w2 w3 [.val (.ref b7), .val (.int (5 : Int32)), .val (.ref b12), .unset, .unset, .unset]) [(.int (5 : Int32))])) _
    refine XS.ifNo X12.here hx rfl (hb hby at_139) rfl ((if0 _ _).trans (tlt (by decide : (0 : Int32) < (5 : Int32))).2.2.2) ?_
    show Steps p.tables e below (T12.setTop (mkF m 142 (own_L p1 q2 q3 q4 q5 p6 (4 : Int32) (1 : Int32) v0 v1 v2 v3 w0 w1 w2 w3 [.val (.ref b7), .val (.int (5 : Int32)), .val (.ref b12), .unset, .unset, .unset]) [])) _
    refine XS.aload X12.here hx rfl (hb hby at_142) rfl rfl ?_
    show Steps p.tables e below (T12.setTop (mkF m 144 (own_L p1 q2 q3 q4 q5 p6 (4 : Int32) (1 : Int32) v0 v1 v2 v3 w0 w1 w2 w3 [.val (.ref b7), .val (.int (5 : Int32)), .val (.ref b12), .unset, .unset, .unset]) [(.ref b12)])) _
    refine XS.iconst X12.here hx rfl (hb hby at_144) ?_
    show Steps p.tables e below (T12.setTop (mkF m 145 (own_L p1 q2 q3 q4 q5 p6 (4 : Int32) (1 : Int32) v0 v1 v2 v3 w0 w1 w2 w3 [.val (.ref b7), .val (.int (5 : Int32)), .val (.ref b12), .unset, .unset, .unset]) [(.int (0 : Int32)), (.ref b12)])) _
    refine XS.iload X12.here hx rfl (hb hby at_145) rfl ?_
    show Steps p.tables e below (T12.setTop (mkF m 147 (own_L p1 q2 q3 q4 q5 p6 (4 : Int32) (1 : Int32) v0 v1 v2 v3 w0 w1 w2 w3 [.val (.ref b7), .val (.int (5 : Int32)), .val (.ref b12), .unset, .unset, .unset]) [(.int w0), (.int (0 : Int32)), (.ref b12)])) _
    refine st13 _ ?_
    show Steps p.tables e below (T13.setTop (mkF m 148 (own_L p1 q2 q3 q4 q5 p6 (4 : Int32) (1 : Int32) v0 v1 v2 v3 w0 w1 w2 w3 [.val (.ref b7), .val (.int (5 : Int32)), .val (.ref b12), .unset, .unset, .unset]) [])) _
    refine XS.iload X13.here hx rfl (hb hby at_148) rfl ?_
    show Steps p.tables e below (T13.setTop (mkF m 150 (own_L p1 q2 q3 q4 q5 p6 (4 : Int32) (1 : Int32) v0 v1 v2 v3 w0 w1 w2 w3 [.val (.ref b7), .val (.int (5 : Int32)), .val (.ref b12), .unset, .unset, .unset]) [(.int (5 : Int32))])) _
    refine XS.iconst X13.here hx rfl (hb hby at_150) ?_
    show Steps p.tables e below (T13.setTop (mkF m 151 (own_L p1 q2 q3 q4 q5 p6 (4 : Int32) (1 : Int32) v0 v1 v2 v3 w0 w1 w2 w3 [.val (.ref b7), .val (.int (5 : Int32)), .val (.ref b12), .unset, .unset, .unset]) [(.int (1 : Int32)), (.int (5 : Int32))])) _
    refine XS.icmpNo X13.here hx rfl (hb hby at_151) rfl (tlt (by decide : (1 : Int32) < (5 : Int32))).2.2.2 ?_
    show Steps p.tables e below (T13.setTop (mkF m 154 (own_L p1 q2 q3 q4 q5 p6 (4 : Int32) (1 : Int32) v0 v1 v2 v3 w0 w1 w2 w3 [.val (.ref b7), .val (.int (5 : Int32)), .val (.ref b12), .unset, .unset, .unset]) [])) _
    refine XS.aload X13.here hx rfl (hb hby at_154) rfl rfl ?_
    show Steps p.tables e below (T13.setTop (mkF m 156 (own_L p1 q2 q3 q4 q5 p6 (4 : Int32) (1 : Int32) v0 v1 v2 v3 w0 w1 w2 w3 [.val (.ref b7), .val (.int (5 : Int32)), .val (.ref b12), .unset, .unset, .unset]) [(.ref b12)])) _
    refine XS.iconst X13.here hx rfl (hb hby at_156) ?_
    show Steps p.tables e below (T13.setTop (mkF m 157 (own_L p1 q2 q3 q4 q5 p6 (4 : Int32) (1 : Int32) v0 v1 v2 v3 w0 w1 w2 w3 [.val (.ref b7), .val (.int (5 : Int32)), .val (.ref b12), .unset, .unset, .unset]) [(.int (1 : Int32)), (.ref b12)])) _
    refine XS.iload X13.here hx rfl (hb hby at_157) rfl ?_
    show Steps p.tables e below (T13.setTop (mkF m 159 (own_L p1 q2 q3 q4 q5 p6 (4 : Int32) (1 : Int32) v0 v1 v2 v3 w0 w1 w2 w3 [.val (.ref b7), .val (.int (5 : Int32)), .val (.ref b12), .unset, .unset, .unset]) [(.int w1), (.int (1 : Int32)), (.ref b12)])) _
    refine st14 _ ?_
    show Steps p.tables e below (T14.setTop (mkF m 160 (own_L p1 q2 q3 q4 q5 p6 (4 : Int32) (1 : Int32) v0 v1 v2 v3 w0 w1 w2 w3 [.val (.ref b7), .val (.int (5 : Int32)), .val (.ref b12), .unset, .unset, .unset]) [])) _
    refine XS.iload X14.here hx rfl (hb hby at_160) rfl ?_
    show Steps p.tables e below (T14.setTop (mkF m 162 (own_L p1 q2 q3 q4 q5 p6 (4 : Int32) (1 : Int32) v0 v1 v2 v3 w0 w1 w2 w3 [.val (.ref b7), .val (.int (5 : Int32)), .val (.ref b12), .unset, .unset, .unset]) [(.int (5 : Int32))])) _
    refine XS.iconst X14.here hx rfl (hb hby at_162) ?_
    show Steps p.tables e below (T14.setTop (mkF m 163 (own_L p1 q2 q3 q4 q5 p6 (4 : Int32) (1 : Int32) v0 v1 v2 v3 w0 w1 w2 w3 [.val (.ref b7), .val (.int (5 : Int32)), .val (.ref b12), .unset, .unset, .unset]) [(.int (2 : Int32)), (.int (5 : Int32))])) _
    refine XS.icmpNo X14.here hx rfl (hb hby at_163) rfl (tlt (by decide : (2 : Int32) < (5 : Int32))).2.2.2 ?_
    show Steps p.tables e below (T14.setTop (mkF m 166 (own_L p1 q2 q3 q4 q5 p6 (4 : Int32) (1 : Int32) v0 v1 v2 v3 w0 w1 w2 w3 [.val (.ref b7), .val (.int (5 : Int32)), .val (.ref b12), .unset, .unset, .unset]) [])) _
    refine XS.aload X14.here hx rfl (hb hby at_166) rfl rfl ?_
    show Steps p.tables e below (T14.setTop (mkF m 168 (own_L p1 q2 q3 q4 q5 p6 (4 : Int32) (1 : Int32) v0 v1 v2 v3 w0 w1 w2 w3 [.val (.ref b7), .val (.int (5 : Int32)), .val (.ref b12), .unset, .unset, .unset]) [(.ref b12)])) _
    refine XS.iconst X14.here hx rfl (hb hby at_168) ?_
    show Steps p.tables e below (T14.setTop (mkF m 169 (own_L p1 q2 q3 q4 q5 p6 (4 : Int32) (1 : Int32) v0 v1 v2 v3 w0 w1 w2 w3 [.val (.ref b7), .val (.int (5 : Int32)), .val (.ref b12), .unset, .unset, .unset]) [(.int (2 : Int32)), (.ref b12)])) _
    refine XS.iload X14.here hx rfl (hb hby at_169) rfl ?_
    show Steps p.tables e below (T14.setTop (mkF m 171 (own_L p1 q2 q3 q4 q5 p6 (4 : Int32) (1 : Int32) v0 v1 v2 v3 w0 w1 w2 w3 [.val (.ref b7), .val (.int (5 : Int32)), .val (.ref b12), .unset, .unset, .unset]) [(.int w2), (.int (2 : Int32)), (.ref b12)])) _
    refine st15 _ ?_
    show Steps p.tables e below (T15.setTop (mkF m 172 (own_L p1 q2 q3 q4 q5 p6 (4 : Int32) (1 : Int32) v0 v1 v2 v3 w0 w1 w2 w3 [.val (.ref b7), .val (.int (5 : Int32)), .val (.ref b12), .unset, .unset, .unset]) [])) _
    refine XS.iload X15.here hx rfl (hb hby at_172) rfl ?_
    show Steps p.tables e below (T15.setTop (mkF m 174 (own_L p1 q2 q3 q4 q5 p6 (4 : Int32) (1 : Int32) v0 v1 v2 v3 w0 w1 w2 w3 [.val (.ref b7), .val (.int (5 : Int32)), .val (.ref b12), .unset, .unset, .unset]) [(.int (5 : Int32))])) _
    refine XS.iconst X15.here hx rfl (hb hby at_174) ?_
    show Steps p.tables e below (T15.setTop (mkF m 175 (own_L p1 q2 q3 q4 q5 p6 (4 : Int32) (1 : Int32) v0 v1 v2 v3 w0 w1 w2 w3 [.val (.ref b7), .val (.int (5 : Int32)), .val (.ref b12), .unset, .unset, .unset]) [(.int (3 : Int32)), (.int (5 : Int32))])) _
    refine XS.icmpNo X15.here hx rfl (hb hby at_175) rfl (tlt (by decide : (3 : Int32) < (5 : Int32))).2.2.2 ?_
    show Steps p.tables e below (T15.setTop (mkF m 178 (own_L p1 q2 q3 q4 q5 p6 (4 : Int32) (1 : Int32) v0 v1 v2 v3 w0 w1 w2 w3 [.val (.ref b7), .val (.int (5 : Int32)), .val (.ref b12), .unset, .unset, .unset]) [])) _
    refine XS.aload X15.here hx rfl (hb hby at_178) rfl rfl ?_
    show Steps p.tables e below (T15.setTop (mkF m 180 (own_L p1 q2 q3 q4 q5 p6 (4 : Int32) (1 : Int32) v0 v1 v2 v3 w0 w1 w2 w3 [.val (.ref b7), .val (.int (5 : Int32)), .val (.ref b12), .unset, .unset, .unset]) [(.ref b12)])) _
    refine XS.iconst X15.here hx rfl (hb hby at_180) ?_
    show Steps p.tables e below (T15.setTop (mkF m 181 (own_L p1 q2 q3 q4 q5 p6 (4 : Int32) (1 : Int32) v0 v1 v2 v3 w0 w1 w2 w3 [.val (.ref b7), .val (.int (5 : Int32)), .val (.ref b12), .unset, .unset, .unset]) [(.int (3 : Int32)), (.ref b12)])) _
    refine XS.iload X15.here hx rfl (hb hby at_181) rfl ?_
    show Steps p.tables e below (T15.setTop (mkF m 183 (own_L p1 q2 q3 q4 q5 p6 (4 : Int32) (1 : Int32) v0 v1 v2 v3 w0 w1 w2 w3 [.val (.ref b7), .val (.int (5 : Int32)), .val (.ref b12), .unset, .unset, .unset]) [(.int w3), (.int (3 : Int32)), (.ref b12)])) _
    refine st16 _ ?_
    show Steps p.tables e below (T16.setTop (mkF m 184 (own_L p1 q2 q3 q4 q5 p6 (4 : Int32) (1 : Int32) v0 v1 v2 v3 w0 w1 w2 w3 [.val (.ref b7), .val (.int (5 : Int32)), .val (.ref b12), .unset, .unset, .unset]) [])) _
    refine XS.iload X16.here hx rfl (hb hby at_184) rfl ?_
    show Steps p.tables e below (T16.setTop (mkF m 186 (own_L p1 q2 q3 q4 q5 p6 (4 : Int32) (1 : Int32) v0 v1 v2 v3 w0 w1 w2 w3 [.val (.ref b7), .val (.int (5 : Int32)), .val (.ref b12), .unset, .unset, .unset]) [(.int (5 : Int32))])) _
    refine XS.iconst X16.here hx rfl (hb hby at_186) ?_
    show Steps p.tables e below (T16.setTop (mkF m 187 (own_L p1 q2 q3 q4 q5 p6 (4 : Int32) (1 : Int32) v0 v1 v2 v3 w0 w1 w2 w3 [.val (.ref b7), .val (.int (5 : Int32)), .val (.ref b12), .unset, .unset, .unset]) [(.int (4 : Int32)), (.int (5 : Int32))])) _
    refine XS.icmpNo X16.here hx rfl (hb hby at_187) rfl (tlt (by decide : (4 : Int32) < (5 : Int32))).2.2.2 ?_
    show Steps p.tables e below (T16.setTop (mkF m 190 (own_L p1 q2 q3 q4 q5 p6 (4 : Int32) (1 : Int32) v0 v1 v2 v3 w0 w1 w2 w3 [.val (.ref b7), .val (.int (5 : Int32)), .val (.ref b12), .unset, .unset, .unset]) [])) _
    refine XS.aload X16.here hx rfl (hb hby at_190) rfl rfl ?_
    show Steps p.tables e below (T16.setTop (mkF m 192 (own_L p1 q2 q3 q4 q5 p6 (4 : Int32) (1 : Int32) v0 v1 v2 v3 w0 w1 w2 w3 [.val (.ref b7), .val (.int (5 : Int32)), .val (.ref b12), .unset, .unset, .unset]) [(.ref b12)])) _
    refine XS.iconst X16.here hx rfl (hb hby at_192) ?_
    show Steps p.tables e below (T16.setTop (mkF m 193 (own_L p1 q2 q3 q4 q5 p6 (4 : Int32) (1 : Int32) v0 v1 v2 v3 w0 w1 w2 w3 [.val (.ref b7), .val (.int (5 : Int32)), .val (.ref b12), .unset, .unset, .unset]) [(.int (4 : Int32)), (.ref b12)])) _
    refine XS.iload X16.here hx rfl (hb hby at_193) rfl ?_
    show Steps p.tables e below (T16.setTop (mkF m 195 (own_L p1 q2 q3 q4 q5 p6 (4 : Int32) (1 : Int32) v0 v1 v2 v3 w0 w1 w2 w3 [.val (.ref b7), .val (.int (5 : Int32)), .val (.ref b12), .unset, .unset, .unset]) [(.int p6), (.int (4 : Int32)), (.ref b12)])) _
    refine st17 _ ?_
    show Steps p.tables e below (T17.setTop (mkF m 196 (own_L p1 q2 q3 q4 q5 p6 (4 : Int32) (1 : Int32) v0 v1 v2 v3 w0 w1 w2 w3 [.val (.ref b7), .val (.int (5 : Int32)), .val (.ref b12), .unset, .unset, .unset]) [])) _
    refine st18 _ ?_
    show Steps p.tables e below (T18.setTop (mkF m 199 (own_L p1 q2 q3 q4 q5 p6 (4 : Int32) (1 : Int32) v0 v1 v2 v3 w0 w1 w2 w3 [.val (.ref b7), .val (.int (5 : Int32)), .val (.ref b12), .unset, .unset, .unset]) [(.ref b18)])) _
    refine XS.dup X18.here hx rfl (hb hby at_199) rfl rfl ?_
    show Steps p.tables e below (T18.setTop (mkF m 200 (own_L p1 q2 q3 q4 q5 p6 (4 : Int32) (1 : Int32) v0 v1 v2 v3 w0 w1 w2 w3 [.val (.ref b7), .val (.int (5 : Int32)), .val (.ref b12), .unset, .unset, .unset]) [(.ref b18), (.ref b18)])) _
    refine XS.aload X18.here hx rfl (hb hby at_200) rfl rfl ?_
    show Steps p.tables e below (T18.setTop (mkF m 202 (own_L p1 q2 q3 q4 q5 p6 (4 : Int32) (1 : Int32) v0 v1 v2 v3 w0 w1 w2 w3 [.val (.ref b7), .val (.int (5 : Int32)), .val (.ref b12), .unset, .unset, .unset]) [(.ref b7), (.ref b18), (.ref b18)])) _
    refine st19.trans ?_
    show Steps p.tables e below (T19.setTop (mkF m 205 (own_L p1 q2 q3 q4 q5 p6 (4 : Int32) (1 : Int32) v0 v1 v2 v3 w0 w1 w2 w3 [.val (.ref b7), .val (.int (5 : Int32)), .val (.ref b12), .unset, .unset, .unset]) [(.ref b18)])) _
    refine XS.astore X19.here hx rfl (hb hby at_205) rfl rfl (l' := (own_L p1 q2 q3 q4 q5 p6 (4 : Int32) (1 : Int32) v0 v1 v2 v3 w0 w1 w2 w3 [.val (.ref b7), .val (.int (5 : Int32)), .val (.ref b12), .val (.ref b18), .unset, .unset])) rfl ?_
    show Steps p.tables e below (T19.setTop (mkF m 207 (own_L p1 q2 q3 q4 q5 p6 (4 : Int32) (1 : Int32) v0 v1 v2 v3 w0 w1 w2 w3 [.val (.ref b7), .val (.int (5 : Int32)), .val (.ref b12), .val (.ref b18), .unset, .unset]) [])) _
    refine XS.aload X19.here hx rfl (hb hby at_207) rfl rfl ?_
    show Steps p.tables e below (T19.setTop (mkF m 209 (own_L p1 q2 q3 q4 q5 p6 (4 : Int32) (1 : Int32) v0 v1 v2 v3 w0 w1 w2 w3 [.val (.ref b7), .val (.int (5 : Int32)), .val (.ref b12), .val (.ref b18), .unset, .unset]) [(.ref b18)])) _
    refine XS.aload X19.here hx rfl (hb hby at_209) rfl rfl ?_
    show Steps p.tables e below (T19.setTop (mkF m 211 (own_L p1 q2 q3 q4 q5 p6 (4 : Int32) (1 : Int32) v0 v1 v2 v3 w0 w1 w2 w3 [.val (.ref b7), .val (.int (5 : Int32)), .val (.ref b12), .val (.ref b18), .unset, .unset]) [(.ref b12), (.ref b18)])) _
    refine st20.trans ?_
    show Steps p.tables e below (T20.setTop (mkF m 214 (own_L p1 q2 q3 q4 q5 p6 (4 : Int32) (1 : Int32) v0 v1 v2 v3 w0 w1 w2 w3 [.val (.ref b7), .val (.int (5 : Int32)), .val (.ref b12), .val (.ref b18), .unset, .unset]) [(.int (own_acc (fun j => [v0, v1, v2, v3].getD j 0) (fun j => [w0, w1, w2, w3].getD j 0) 4 0 0))])) _
    refine XS.istore X20.here hx rfl (hb hby at_214) rfl (l' := (own_L p1 q2 q3 q4 q5 p6 (4 : Int32) (1 : Int32) v0 v1 v2 v3 w0 w1 w2 w3 [.val (.ref b7), .val (.int (5 : Int32)), .val (.ref b12), .val (.ref b18), .val (.int (own_acc (fun j => [v0, v1, v2, v3].getD j 0) (fun j => [w0, w1, w2, w3].getD j 0) 4 0 0)), .unset])) rfl ?_
    show Steps p.tables e below (T20.setTop (mkF m 216 (own_L p1 q2 q3 q4 q5 p6 (4 : Int32) (1 : Int32) v0 v1 v2 v3 w0 w1 w2 w3 [.val (.ref b7), .val (.int (5 : Int32)), .val (.ref b12), .val (.ref b18), .val (.int (own_acc (fun j => [v0, v1, v2, v3].getD j 0) (fun j => [w0, w1, w2, w3].getD j 0) 4 0 0)), .unset]) [])) _
    refine XS.iconst X20.here hx rfl (hb hby at_216) ?_
    show Steps p.tables e below (T20.setTop (mkF m 217 (own_L p1 q2 q3 q4 q5 p6 (4 : Int32) (1 : Int32) v0 v1 v2 v3 w0 w1 w2 w3 [.val (.ref b7), .val (.int (5 : Int32)), .val (.ref b12), .val (.ref b18), .val (.int (own_acc (fun j => [v0, v1, v2, v3].getD j 0) (fun j => [w0, w1, w2, w3].getD j 0) 4 0 0)), .unset]) [(.int (0 : Int32))])) _
    refine XS.istore X20.here hx rfl (hb hby at_217) rfl (l' := (own_L p1 q2 q3 q4 q5 p6 (4 : Int32) (1 : Int32) v0 v1 v2 v3 w0 w1 w2 w3 [.val (.ref b7), .val (.int (5 : Int32)), .val (.ref b12), .val (.ref b18), .val (.int (own_acc (fun j => [v0, v1, v2, v3].getD j 0) (fun j => [w0, w1, w2, w3].getD j 0) 4 0 0)), .val (.int (0 : Int32))])) rfl ?_
    show Steps p.tables e below (T20.setTop (mkF m 219 (own_L p1 q2 q3 q4 q5 p6 (4 : Int32) (1 : Int32) v0 v1 v2 v3 w0 w1 w2 w3 [.val (.ref b7), .val (.int (5 : Int32)), .val (.ref b12), .val (.ref b18), .val (.int (own_acc (fun j => [v0, v1, v2, v3].getD j 0) (fun j => [w0, w1, w2, w3].getD j 0) 4 0 0)), .val (.int (0 : Int32))]) [])) _
    refine XS.iload X20.here hx rfl (hb hby at_219) rfl ?_
    show Steps p.tables e below (T20.setTop (mkF m 221 (own_L p1 q2 q3 q4 q5 p6 (4 : Int32) (1 : Int32) v0 v1 v2 v3 w0 w1 w2 w3 [.val (.ref b7), .val (.int (5 : Int32)), .val (.ref b12), .val (.ref b18), .val (.int (own_acc (fun j => [v0, v1, v2, v3].getD j 0) (fun j => [w0, w1, w2, w3].getD j 0) 4 0 0)), .val (.int (0 : Int32))]) [(.int (4 : Int32))])) _
    refine XS.ifNo X20.here hx rfl (hb hby at_221) rfl ((if0 _ _).trans (tlt (by decide : (0 : Int32) < (4 : Int32))).2.2.2) ?_
    show Steps p.tables e below (T20.setTop (mkF m 224 (own_L p1 q2 q3 q4 q5 p6 (4 : Int32) (1 : Int32) v0 v1 v2 v3 w0 w1 w2 w3 [.val (.ref b7), .val (.int (5 : Int32)), .val (.ref b12), .val (.ref b18), .val (.int (own_acc (fun j => [v0, v1, v2, v3].getD j 0) (fun j => [w0, w1, w2, w3].getD j 0) 4 0 0)), .val (.int (0 : Int32))]) [])) _
    refine XS.iload X20.here hx rfl (hb hby at_224) rfl ?_
    show Steps p.tables e below (T20.setTop (mkF m 226 (own_L p1 q2 q3 q4 q5 p6 (4 : Int32) (1 : Int32) v0 v1 v2 v3 w0 w1 w2 w3 [.val (.ref b7), .val (.int (5 : Int32)), .val (.ref b12), .val (.ref b18), .val (.int (own_acc (fun j => [v0, v1, v2, v3].getD j 0) (fun j => [w0, w1, w2, w3].getD j 0) 4 0 0)), .val (.int (0 : Int32))]) [(.int (0 : Int32))])) _
    refine XS.iload X20.here hx rfl (hb hby at_226) rfl ?_
    show Steps p.tables e below (T20.setTop (mkF m 228 (own_L p1 q2 q3 q4 q5 p6 (4 : Int32) (1 : Int32) v0 v1 v2 v3 w0 w1 w2 w3 [.val (.ref b7), .val (.int (5 : Int32)), .val (.ref b12), .val (.ref b18), .val (.int (own_acc (fun j => [v0, v1, v2, v3].getD j 0) (fun j => [w0, w1, w2, w3].getD j 0) 4 0 0)), .val (.int (0 : Int32))]) [(.int v0), (.int (0 : Int32))])) _
    refine XS.iload X20.here hx rfl (hb hby at_228) rfl ?_
    show Steps p.tables e below (T20.setTop (mkF m 230 (own_L p1 q2 q3 q4 q5 p6 (4 : Int32) (1 : Int32) v0 v1 v2 v3 w0 w1 w2 w3 [.val (.ref b7), .val (.int (5 : Int32)), .val (.ref b12), .val (.ref b18), .val (.int (own_acc (fun j => [v0, v1, v2, v3].getD j 0) (fun j => [w0, w1, w2, w3].getD j 0) 4 0 0)), .val (.int (0 : Int32))]) [(.int w0), (.int v0), (.int (0 : Int32))])) _
    refine XS.imul X20.here hx rfl (hb hby at_230) rfl ?_
    show Steps p.tables e below (T20.setTop (mkF m 231 (own_L p1 q2 q3 q4 q5 p6 (4 : Int32) (1 : Int32) v0 v1 v2 v3 w0 w1 w2 w3 [.val (.ref b7), .val (.int (5 : Int32)), .val (.ref b12), .val (.ref b18), .val (.int (own_acc (fun j => [v0, v1, v2, v3].getD j 0) (fun j => [w0, w1, w2, w3].getD j 0) 4 0 0)), .val (.int (0 : Int32))]) [(.int (v0 * w0)), (.int (0 : Int32))])) _
    refine XS.iadd X20.here hx rfl (hb hby at_231) rfl ?_
    show Steps p.tables e below (T20.setTop (mkF m 232 (own_L p1 q2 q3 q4 q5 p6 (4 : Int32) (1 : Int32) v0 v1 v2 v3 w0 w1 w2 w3 [.val (.ref b7), .val (.int (5 : Int32)), .val (.ref b12), .val (.ref b18), .val (.int (own_acc (fun j => [v0, v1, v2, v3].getD j 0) (fun j => [w0, w1, w2, w3].getD j 0) 4 0 0)), .val (.int (0 : Int32))]) [(.int ((0 : Int32) + (v0 * w0)))])) _
    refine XS.istore X20.here hx rfl (hb hby at_232) rfl (l' := (own_L p1 q2 q3 q4 q5 p6 (4 : Int32) (1 : Int32) v0 v1 v2 v3 w0 w1 w2 w3 [.val (.ref b7), .val (.int (5 : Int32)), .val (.ref b12), .val (.ref b18), .val (.int (own_acc (fun j => [v0, v1, v2, v3].getD j 0) (fun j => [w0, w1, w2, w3].getD j 0) 4 0 0)), .val (.int ((0 : Int32) + (v0 * w0)))])) rfl ?_
    show Steps p.tables e below (T20.setTop (mkF m 234 (own_L p1 q2 q3 q4 q5 p6 (4 : Int32) (1 : Int32) v0 v1 v2 v3 w0 w1 w2 w3 [.val (.ref b7), .val (.int (5 : Int32)), .val (.ref b12), .val (.ref b18), .val (.int (own_acc (fun j => [v0, v1, v2, v3].getD j 0) (fun j => [w0, w1, w2, w3].getD j 0) 4 0 0)), .val (.int ((0 : Int32) + (v0 * w0)))]) [])) _
    refine XS.iload X20.here hx rfl (hb hby at_234) rfl ?_
    show Steps p.tables e below (T20.setTop (mkF m 236 (own_L p1 q2 q3 q4 q5 p6 (4 : Int32) (1 : Int32) v0 v1 v2 v3 w0 w1 w2 w3 [.val (.ref b7), .val (.int (5 : Int32)), .val (.ref b12), .val (.ref b18), .val (.int (own_acc (fun j => [v0, v1, v2, v3].getD j 0) (fun j => [w0, w1, w2, w3].getD j 0) 4 0 0)), .val (.int ((0 : Int32) + (v0 * w0)))]) [(.int (4 : Int32))])) _
    refine XS.iconst X20.here hx rfl (hb hby at_236) ?_
    show Steps p.tables e below (T20.setTop (mkF m 237 (own_L p1 q2 q3 q4 q5 p6 (4 : Int32) (1 : Int32) v0 v1 v2 v3 w0 w1 w2 w3 [.val (.ref b7), .val (.int (5 : Int32)), .val (.ref b12), .val (.ref b18), .val (.int (own_acc (fun j => [v0, v1, v2, v3].getD j 0) (fun j => [w0, w1, w2, w3].getD j 0) 4 0 0)), .val (.int ((0 : Int32) + (v0 * w0)))]) [(.int (1 : Int32)), (.int (4 : Int32))])) _
    refine XS.icmpNo X20.here hx rfl (hb hby at_237) rfl (tlt (by decide : (1 : Int32) < (4 : Int32))).2.2.2 ?_
    show Steps p.tables e below (T20.setTop (mkF m 240 (own_L p1 q2 q3 q4 q5 p6 (4 : Int32) (1 : Int32) v0 v1 v2 v3 w0 w1 w2 w3 [.val (.ref b7), .val (.int (5 : Int32)), .val (.ref b12), .val (.ref b18), .val (.int (own_acc (fun j => [v0, v1, v2, v3].getD j 0) (fun j => [w0, w1, w2, w3].getD j 0) 4 0 0)), .val (.int ((0 : Int32) + (v0 * w0)))]) [])) _
    refine XS.iload X20.here hx rfl (hb hby at_240) rfl ?_
    show Steps p.tables e below (T20.setTop (mkF m 242 (own_L p1 q2 q3 q4 q5 p6 (4 : Int32) (1 : Int32) v0 v1 v2 v3 w0 w1 w2 w3 [.val (.ref b7), .val (.int (5 : Int32)), .val (.ref b12), .val (.ref b18), .val (.int (own_acc (fun j => [v0, v1, v2, v3].getD j 0) (fun j => [w0, w1, w2, w3].getD j 0) 4 0 0)), .val (.int ((0 : Int32) + (v0 * w0)))]) [(.int ((0 : Int32) + (v0 * w0)))])) _
    refine XS.iload X20.here hx rfl (hb hby at_242) rfl ?_
    show Steps p.tables e below (T20.setTop (mkF m 244 (own_L p1 q2 q3 q4 q5 p6 (4 : Int32) (1 : Int32) v0 v1 v2 v3 w0 w1 w2 w3 [.val (.ref b7), .val (.int (5 : Int32)), .val (.ref b12), .val (.ref b18), .val (.int (own_acc (fun j => [v0, v1, v2, v3].getD j 0) (fun j => [w0, w1, w2, w3].getD j 0) 4 0 0)), .val (.int ((0 : Int32) + (v0 * w0)))]) [(.int v1), (.int ((0 : Int32) + (v0 * w0)))])) _
    refine XS.iload X20.here hx rfl (hb hby at_244) rfl ?_
    show Steps p.tables e below (T20.setTop (mkF m 246 (own_L p1 q2 q3 q4 q5 p6 (4 : Int32) (1 : Int32) v0 v1 v2 v3 w0 w1 w2 w3 [.val (.ref b7), .val (.int (5 : Int32)), .val (.ref b12), .val (.ref b18), .val (.int (own_acc (fun j => [v0, v1, v2, v3].getD j 0) (fun j => [w0, w1, w2, w3].getD j 0) 4 0 0)), .val (.int ((0 : Int32) + (v0 * w0)))]) [(.int w1), (.int v1), (.int ((0 : Int32) + (v0 * w0)))])) _
    refine XS.imul X20.here hx rfl (hb hby at_246) rfl ?_
    show Steps p.tables e below (T20.setTop (mkF m 247 (own_L p1 q2 q3 q4 q5 p6 (4 : Int32) (1 : Int32) v0 v1 v2 v3 w0 w1 w2 w3 [.val (.ref b7), .val (.int (5 : Int32)), .val (.ref b12), .val (.ref b18), .val (.int (own_acc (fun j => [v0, v1, v2, v3].getD j 0) (fun j => [w0, w1, w2, w3].getD j 0) 4 0 0)), .val (.int ((0 : Int32) + (v0 * w0)))]) [(.int (v1 * w1)), (.int ((0 : Int32) + (v0 * w0)))])) _
    refine XS.iadd X20.here hx rfl (hb hby at_247) rfl ?_
    show Steps p.tables e below (T20.setTop (mkF m 248 (own_L p1 q2 q3 q4 q5 p6 (4 : Int32) (1 : Int32) v0 v1 v2 v3 w0 w1 w2 w3 [.val (.ref b7), .val (.int (5 : Int32)), .val (.ref b12), .val (.ref b18), .val (.int (own_acc (fun j => [v0, v1, v2, v3].getD j 0) (fun j => [w0, w1, w2, w3].getD j 0) 4 0 0)), .val (.int ((0 : Int32) + (v0 * w0)))]) [(.int (((0 : Int32) + (v0 * w0)) + (v1 * w1)))])) _
    refine XS.istore X20.here hx rfl (hb hby at_248) rfl (l' := (own_L p1 q2 q3 q4 q5 p6 (4 : Int32) (1 : Int32) v0 v1 v2 v3 w0 w1 w2 w3 [.val (.ref b7), .val (.int (5 : Int32)), .val (.ref b12), .val (.ref b18), .val (.int (own_acc (fun j => [v0, v1, v2, v3].getD j 0) (fun j => [w0, w1, w2, w3].getD j 0) 4 0 0)), .val (.int (((0 : Int32) + (v0 * w0)) + (v1 * w1)))])) rfl ?_
    show Steps p.tables e below (T20.setTop (mkF m 250 (own_L p1 q2 q3 q4 q5 p6 (4 : Int32) (1 : Int32) v0 v1 v2 v3 w0 w1 w2 w3 [.val (.ref b7), .val (.int (5 : Int32)), .val (.ref b12), .val (.ref b18), .val (.int (own_acc (fun j => [v0, v1, v2, v3].getD j 0) (fun j => [w0, w1, w2, w3].getD j 0) 4 0 0)), .val (.int (((0 : Int32) + (v0 * w0)) + (v1 * w1)))]) [])) _
    refine XS.iload X20.here hx rfl (hb hby at_250) rfl ?_
    show Steps p.tables e below (T20.setTop (mkF m 252 (own_L p1 q2 q3 q4 q5 p6 (4 : Int32) (1 : Int32) v0 v1 v2 v3 w0 w1 w2 w3 [.val (.ref b7), .val (.int (5 : Int32)), .val (.ref b12), .val (.ref b18), .val (.int (own_acc (fun j => [v0, v1, v2, v3].getD j 0) (fun j => [w0, w1, w2, w3].getD j 0) 4 0 0)), .val (.int (((0 : Int32) + (v0 * w0)) + (v1 * w1)))]) [(.int (4 : Int32))])) _
    refine XS.iconst X20.here hx rfl (hb hby at_252) ?_
    show Steps p.tables e below (T20.setTop (mkF m 253 (own_L p1 q2 q3 q4 q5 p6 (4 : Int32) (1 : Int32) v0 v1 v2 v3 w0 w1 w2 w3 [.val (.ref b7), .val (.int (5 : Int32)), .val (.ref b12), .val (.ref b18), .val (.int (own_acc (fun j => [v0, v1, v2, v3].getD j 0) (fun j => [w0, w1, w2, w3].getD j 0) 4 0 0)), .val (.int (((0 : Int32) + (v0 * w0)) + (v1 * w1)))]) [(.int (2 : Int32)), (.int (4 : Int32))])) _
    refine XS.icmpNo X20.here hx rfl (hb hby at_253) rfl (tlt (by decide : (2 : Int32) < (4 : Int32))).2.2.2 ?_
    show Steps p.tables e below (T20.setTop (mkF m 256 (own_L p1 q2 q3 q4 q5 p6 (4 : Int32) (1 : Int32) v0 v1 v2 v3 w0 w1 w2 w3 [.val (.ref b7), .val (.int (5 : Int32)), .val (.ref b12), .val (.ref b18), .val (.int (own_acc (fun j => [v0, v1, v2, v3].getD j 0) (fun j => [w0, w1, w2, w3].getD j 0) 4 0 0)), .val (.int (((0 : Int32) + (v0 * w0)) + (v1 * w1)))]) [])) _
    refine XS.iload X20.here hx rfl (hb hby at_256) rfl ?_
    show Steps p.tables e below (T20.setTop (mkF m 258 (own_L p1 q2 q3 q4 q5 p6 (4 : Int32) (1 : Int32) v0 v1 v2 v3 w0 w1 w2 w3 [.val (.ref b7), .val (.int (5 : Int32)), .val (.ref b12), .val (.ref b18), .val (.int (own_acc (fun j => [v0, v1, v2, v3].getD j 0) (fun j => [w0, w1, w2, w3].getD j 0) 4 0 0)), .val (.int (((0 : Int32) + (v0 * w0)) + (v1 * w1)))]) [(.int (((0 : Int32) + (v0 * w0)) + (v1 * w1)))])) _
    refine XS.iload X20.here hx rfl (hb hby at_258) rfl ?_
    show Steps p.tables e below (T20.setTop (mkF m 260 (own_L p1 q2 q3 q4 q5 p6 (4 : Int32) (1 : Int32) v0 v1 v2 v3 w0 w1 w2 w3 [.val (.ref b7), .val (.int (5 : Int32)), .val (.ref b12), .val (.ref b18), .val (.int (own_acc (fun j => [v0, v1, v2, v3].getD j 0) (fun j => [w0, w1, w2, w3].getD j 0) 4 0 0)), .val (.int (((0 : Int32) + (v0 * w0)) + (v1 * w1)))]) [(.int v2), (.int (((0 : Int32) + (v0 * w0)) + (v1 * w1)))])) _
    refine XS.iload X20.here hx rfl (hb hby at_260) rfl ?_
    show Steps p.tables e below (T20.setTop (mkF m 262 (own_L p1 q2 q3 q4 q5 p6 (4 : Int32) (1 : Int32) v0 v1 v2 v3 w0 w1 w2 w3 [.val (.ref b7), .val (.int (5 : Int32)), .val (.ref b12), .val (.ref b18), .val (.int (own_acc (fun j => [v0, v1, v2, v3].getD j 0) (fun j => [w0, w1, w2, w3].getD j 0) 4 0 0)), .val (.int (((0 : Int32) + (v0 * w0)) + (v1 * w1)))]) [(.int w2), (.int v2), (.int (((0 : Int32) + (v0 * w0)) + (v1 * w1)))])) _
    refine XS.imul X20.here hx rfl (hb hby at_262) rfl ?_
    show Steps p.tables e below (T20.setTop (mkF m 263 (own_L p1 q2 q3 q4 q5 p6 (4 : Int32) (1 : Int32) v0 v1 v2 v3 w0 w1 w2 w3 [.val (.ref b7), .val (.int (5 : Int32)), .val (.ref b12), .val (.ref b18), .val (.int (own_acc (fun j => [v0, v1, v2, v3].getD j 0) (fun j => [w0, w1, w2, w3].getD j 0) 4 0 0)), .val (.int (((0 : Int32) + (v0 * w0)) + (v1 * w1)))]) [(.int (v2 * w2)), (.int (((0 : Int32) + (v0 * w0)) + (v1 * w1)))])) _
    refine XS.iadd X20.here hx rfl (hb hby at_263) rfl ?_
    show Steps p.tables e below (T20.setTop (mkF m 264 (own_L p1 q2 q3 q4 q5 p6 (4 : Int32) (1 : Int32) v0 v1 v2 v3 w0 w1 w2 w3 [.val (.ref b7), .val (.int (5 : Int32)), .val (.ref b12), .val (.ref b18), .val (.int (own_acc (fun j => [v0, v1, v2, v3].getD j 0) (fun j => [w0, w1, w2, w3].getD j 0) 4 0 0)), .val (.int (((0 : Int32) + (v0 * w0)) + (v1 * w1)))]) [(.int ((((0 : Int32) + (v0 * w0)) + (v1 * w1)) + (v2 * w2)))])) _
    refine XS.istore X20.here hx rfl (hb hby at_264) rfl (l' := (own_L p1 q2 q3 q4 q5 p6 (4 : Int32) (1 : Int32) v0 v1 v2 v3 w0 w1 w2 w3 [.val (.ref b7), .val (.int (5 : Int32)), .val (.ref b12), .val (.ref b18), .val (.int (own_acc (fun j => [v0, v1, v2, v3].getD j 0) (fun j => [w0, w1, w2, w3].getD j 0) 4 0 0)), .val (.int ((((0 : Int32) + (v0 * w0)) + (v1 * w1)) + (v2 * w2)))])) rfl ?_
    show Steps p.tables e below (T20.setTop (mkF m 266 (own_L p1 q2 q3 q4 q5 p6 (4 : Int32) (1 : Int32) v0 v1 v2 v3 w0 w1 w2 w3 [.val (.ref b7), .val (.int (5 : Int32)), .val (.ref b12), .val (.ref b18), .val (.int (own_acc (fun j => [v0, v1, v2, v3].getD j 0) (fun j => [w0, w1, w2, w3].getD j 0) 4 0 0)), .val (.int ((((0 : Int32) + (v0 * w0)) + (v1 * w1)) + (v2 * w2)))]) [])) _
    refine XS.iload X20.here hx rfl (hb hby at_266) rfl ?_
    show Steps p.tables e below (T20.setTop (mkF m 268 (own_L p1 q2 q3 q4 q5 p6 (4 : Int32) (1 : Int32) v0 v1 v2 v3 w0 w1 w2 w3 [.val (.ref b7), .val (.int (5 : Int32)), .val (.ref b12), .val (.ref b18), .val (.int (own_acc (fun j => [v0, v1, v2, v3].getD j 0) (fun j => [w0, w1, w2, w3].getD j 0) 4 0 0)), .val (.int ((((0 : Int32) + (v0 * w0)) + (v1 * w1)) + (v2 * w2)))]) [(.int (4 : Int32))])) _
    refine XS.iconst X20.here hx rfl (hb hby at_268) ?_
    show Steps p.tables e below (T20.setTop (mkF m 269 (own_L p1 q2 q3 q4 q5 p6 (4 : Int32) (1 : Int32) v0 v1 v2 v3 w0 w1 w2 w3 [.val (.ref b7), .val (.int (5 : Int32)), .val (.ref b12), .val (.ref b18), .val (.int (own_acc (fun j => [v0, v1, v2, v3].getD j 0) (fun j => [w0, w1, w2, w3].getD j 0) 4 0 0)), .val (.int ((((0 : Int32) + (v0 * w0)) + (v1 * w1)) + (v2 * w2)))]) [(.int (3 : Int32)), (.int (4 : Int32))])) _
    refine XS.icmpNo X20.here hx rfl (hb hby at_269) rfl (tlt (by decide : (3 : Int32) < (4 : Int32))).2.2.2 ?_
    show Steps p.tables e below (T20.setTop (mkF m 272 (own_L p1 q2 q3 q4 q5 p6 (4 : Int32) (1 : Int32) v0 v1 v2 v3 w0 w1 w2 w3 [.val (.ref b7), .val (.int (5 : Int32)), .val (.ref b12), .val (.ref b18), .val (.int (own_acc (fun j => [v0, v1, v2, v3].getD j 0) (fun j => [w0, w1, w2, w3].getD j 0) 4 0 0)), .val (.int ((((0 : Int32) + (v0 * w0)) + (v1 * w1)) + (v2 * w2)))]) [])) _
    refine XS.iload X20.here hx rfl (hb hby at_272) rfl ?_
    show Steps p.tables e below (T20.setTop (mkF m 274 (own_L p1 q2 q3 q4 q5 p6 (4 : Int32) (1 : Int32) v0 v1 v2 v3 w0 w1 w2 w3 [.val (.ref b7), .val (.int (5 : Int32)), .val (.ref b12), .val (.ref b18), .val (.int (own_acc (fun j => [v0, v1, v2, v3].getD j 0) (fun j => [w0, w1, w2, w3].getD j 0) 4 0 0)), .val (.int ((((0 : Int32) + (v0 * w0)) + (v1 * w1)) + (v2 * w2)))]) [(.int ((((0 : Int32) + (v0 * w0)) + (v1 * w1)) + (v2 * w2)))])) _
    refine XS.iload X20.here hx rfl (hb hby at_274) rfl ?_
    show Steps p.tables e below (T20.setTop (mkF m 276 (own_L p1 q2 q3 q4 q5 p6 (4 : Int32) (1 : Int32) v0 v1 v2 v3 w0 w1 w2 w3 [.val (.ref b7), .val (.int (5 : Int32)), .val (.ref b12), .val (.ref b18), .val (.int (own_acc (fun j => [v0, v1, v2, v3].getD j 0) (fun j => [w0, w1, w2, w3].getD j 0) 4 0 0)), .val (.int ((((0 : Int32) + (v0 * w0)) + (v1 * w1)) + (v2 * w2)))]) [(.int v3), (.int ((((0 : Int32) + (v0 * w0)) + (v1 * w1)) + (v2 * w2)))])) _
    refine XS.iload X20.here hx rfl (hb hby at_276) rfl ?_
    show Steps p.tables e below (T20.setTop (mkF m 278 (own_L p1 q2 q3 q4 q5 p6 (4 : Int32) (1 : Int32) v0 v1 v2 v3 w0 w1 w2 w3 [.val (.ref b7), .val (.int (5 : Int32)), .val (.ref b12), .val (.ref b18), .val (.int (own_acc (fun j => [v0, v1, v2, v3].getD j 0) (fun j => [w0, w1, w2, w3].getD j 0) 4 0 0)), .val (.int ((((0 : Int32) + (v0 * w0)) + (v1 * w1)) + (v2 * w2)))]) [(.int w3), (.int v3), (.int ((((0 : Int32) + (v0 * w0)) + (v1 * w1)) + (v2 * w2)))])) _
    refine XS.imul X20.here hx rfl (hb hby at_278) rfl ?_
    show Steps p.tables e below (T20.setTop (mkF m 279 (own_L p1 q2 q3 q4 q5 p6 (4 : Int32) (1 : Int32) v0 v1 v2 v3 w0 w1 w2 w3 [.val (.ref b7), .val (.int (5 : Int32)), .val (.ref b12), .val (.ref b18), .val (.int (own_acc (fun j => [v0, v1, v2, v3].getD j 0) (fun j => [w0, w1, w2, w3].getD j 0) 4 0 0)), .val (.int ((((0 : Int32) + (v0 * w0)) + (v1 * w1)) + (v2 * w2)))]) [(.int (v3 * w3)), (.int ((((0 : Int32) + (v0 * w0)) + (v1 * w1)) + (v2 * w2)))])) _
    refine XS.iadd X20.here hx rfl (hb hby at_279) rfl ?_
    show Steps p.tables e below (T20.setTop (mkF m 280 (own_L p1 q2 q3 q4 q5 p6 (4 : Int32) (1 : Int32) v0 v1 v2 v3 w0 w1 w2 w3 [.val (.ref b7), .val (.int (5 : Int32)), .val (.ref b12), .val (.ref b18), .val (.int (own_acc (fun j => [v0, v1, v2, v3].getD j 0) (fun j => [w0, w1, w2, w3].getD j 0) 4 0 0)), .val (.int ((((0 : Int32) + (v0 * w0)) + (v1 * w1)) + (v2 * w2)))]) [(.int (((((0 : Int32) + (v0 * w0)) + (v1 * w1)) + (v2 * w2)) + (v3 * w3)))])) _
    refine XS.istore X20.here hx rfl (hb hby at_280) rfl (l' := (own_L p1 q2 q3 q4 q5 p6 (4 : Int32) (1 : Int32) v0 v1 v2 v3 w0 w1 w2 w3 [.val (.ref b7), .val (.int (5 : Int32)), .val (.ref b12), .val (.ref b18), .val (.int (own_acc (fun j => [v0, v1, v2, v3].getD j 0) (fun j => [w0, w1, w2, w3].getD j 0) 4 0 0)), .val (.int (((((0 : Int32) + (v0 * w0)) + (v1 * w1)) + (v2 * w2)) + (v3 * w3)))])) rfl ?_
    show Steps p.tables e below (T20.setTop (mkF m 282 (own_L p1 q2 q3 q4 q5 p6 (4 : Int32) (1 : Int32) v0 v1 v2 v3 w0 w1 w2 w3 [.val (.ref b7), .val (.int (5 : Int32)), .val (.ref b12), .val (.ref b18), .val (.int (own_acc (fun j => [v0, v1, v2, v3].getD j 0) (fun j => [w0, w1, w2, w3].getD j 0) 4 0 0)), .val (.int (((((0 : Int32) + (v0 * w0)) + (v1 * w1)) + (v2 * w2)) + (v3 * w3)))]) [])) _
    refine XS.iload X20.here hx rfl (hb hby at_282) rfl ?_
    show Steps p.tables e below (T20.setTop (mkF m 284 (own_L p1 q2 q3 q4 q5 p6 (4 : Int32) (1 : Int32) v0 v1 v2 v3 w0 w1 w2 w3 [.val (.ref b7), .val (.int (5 : Int32)), .val (.ref b12), .val (.ref b18), .val (.int (own_acc (fun j => [v0, v1, v2, v3].getD j 0) (fun j => [w0, w1, w2, w3].getD j 0) 4 0 0)), .val (.int (((((0 : Int32) + (v0 * w0)) + (v1 * w1)) + (v2 * w2)) + (v3 * w3)))]) [(.int (own_acc (fun j => [v0, v1, v2, v3].getD j 0) (fun j => [w0, w1, w2, w3].getD j 0) 4 0 0))])) _
    refine XS.iload X20.here hx rfl (hb hby at_284) rfl ?_
    show Steps p.tables e below (T20.setTop (mkF m 286 (own_L p1 q2 q3 q4 q5 p6 (4 : Int32) (1 : Int32) v0 v1 v2 v3 w0 w1 w2 w3 [.val (.ref b7), .val (.int (5 : Int32)), .val (.ref b12), .val (.ref b18), .val (.int (own_acc (fun j => [v0, v1, v2, v3].getD j 0) (fun j => [w0, w1, w2, w3].getD j 0) 4 0 0)), .val (.int (((((0 : Int32) + (v0 * w0)) + (v1 * w1)) + (v2 * w2)) + (v3 * w3)))]) [(.int (((((0 : Int32) + (v0 * w0)) + (v1 * w1)) + (v2 * w2)) + (v3 * w3))), (.int (own_acc (fun j => [v0, v1, v2, v3].getD j 0) (fun j => [w0, w1, w2, w3].getD j 0) 4 0 0))])) _
    refine XS.icmpNo X20.here hx rfl (hb hby at_286) rfl (teq (rfl : (own_acc (fun j => [v0, v1, v2, v3].getD j 0) (fun j => [w0, w1, w2, w3].getD j 0) 4 0 0) = (((((0 : Int32) + (v0 * w0)) + (v1 * w1)) + (v2 * w2)) + (v3 * w3)))).2 ?_
    show Steps p.tables e below (T20.setTop (mkF m 289 (own_L p1 q2 q3 q4 q5 p6 (4 : Int32) (1 : Int32) v0 v1 v2 v3 w0 w1 w2 w3 [.val (.ref b7), .val (.int (5 : Int32)), .val (.ref b12), .val (.ref b18), .val (.int (own_acc (fun j => [v0, v1, v2, v3].getD j 0) (fun j => [w0, w1, w2, w3].getD j 0) 4 0 0)), .val (.int (((((0 : Int32) + (v0 * w0)) + (v1 * w1)) + (v2 * w2)) + (v3 * w3)))]) [])) _
    refine XS.iconst X20.here hx rfl (hb hby at_289) ?_
    show Steps p.tables e below (T20.setTop (mkF m 290 (own_L p1 q2 q3 q4 q5 p6 (4 : Int32) (1 : Int32) v0 v1 v2 v3 w0 w1 w2 w3 [.val (.ref b7), .val (.int (5 : Int32)), .val (.ref b12), .val (.ref b18), .val (.int (own_acc (fun j => [v0, v1, v2, v3].getD j 0) (fun j => [w0, w1, w2, w3].getD j 0) 4 0 0)), .val (.int (((((0 : Int32) + (v0 * w0)) + (v1 * w1)) + (v2 * w2)) + (v3 * w3)))]) [(.int (1 : Int32))])) _
    refine XS.goto X20.here hx rfl (pc0 := 290) (pc' := 294) rfl (hb hby at_290) (by decide) (by decide) ?_
    show Steps p.tables e below (T20.setTop (mkF m 294 (own_L p1 q2 q3 q4 q5 p6 (4 : Int32) (1 : Int32) v0 v1 v2 v3 w0 w1 w2 w3 [.val (.ref b7), .val (.int (5 : Int32)), .val (.ref b12), .val (.ref b18), .val (.int (own_acc (fun j => [v0, v1, v2, v3].getD j 0) (fun j => [w0, w1, w2, w3].getD j 0) 4 0 0)), .val (.int (((((0 : Int32) + (v0 * w0)) + (v1 * w1)) + (v2 * w2)) + (v3 * w3)))]) [(.int (1 : Int32))])) _
    exact retN X20 hx (t := .boolean) Bd.returns (by simp) (hb hby at_294) hr
  · show Q0 Z p1 q2 q3 q4 q5 p6 h0 n0 _ T20.heap _
    exact ⟨rfl, N20⟩
theorem rm0 (l : Launch) (Z : State) (a0 : Array Value) (hw : ∀ d ∈ tables_1, d.before a0 Z = true) (ws : List Jvm.Cond) (p1 : Int32) (q2 q3 q4 q5 : Int64) (p6 : Int32) (h0 : Heap) (n0 : Nat) (Z0 : n0 ≤ h0.size) : MetFree l x (head1 (Jvm.Cond.code x code maxLocals ret :: ws) room_1) (fun a U => a = #[(.int p1), (.long q2), (.long q3), (.long q4), (.long q5), (.int p6)] ∧ Z.Warmed39 U.vm ∧ U.heap = h0) (fun _ _ _ _ _ => True) (fun _ U o U' => ∃ v L, o = .returned v ∧ Q0 Z p1 q2 q3 q4 q5 p6 h0 n0 v U'.heap L ∧ FrameEnd U o U' L room_1.cells room_1.slots) := by
  by_cases hc9 : p1 < (0 : Int32)
  · rcases own_five p1 with hk | hk | hk | hk | hk
    · exact rm0_0_1 l Z a0 hw ws p1 q2 q3 q4 q5 p6 h0 n0 Z0 _ _ _ _ _ _ _ _ rfl rfl rfl rfl rfl rfl rfl rfl hk hc9
    · exact rm0_1_1 l Z a0 hw ws p1 q2 q3 q4 q5 p6 h0 n0 Z0 _ _ _ _ _ _ _ _ rfl rfl rfl rfl rfl rfl rfl rfl hk hc9
    · exact rm0_2_1 l Z a0 hw ws p1 q2 q3 q4 q5 p6 h0 n0 Z0 _ _ _ _ _ _ _ _ rfl rfl rfl rfl rfl rfl rfl rfl hk hc9
    · exact rm0_3_1 l Z a0 hw ws p1 q2 q3 q4 q5 p6 h0 n0 Z0 _ _ _ _ _ _ _ _ rfl rfl rfl rfl rfl rfl rfl rfl hk hc9
    · exact rm0_4_1 l Z a0 hw ws p1 q2 q3 q4 q5 p6 h0 n0 Z0 _ _ _ _ _ _ _ _ rfl rfl rfl rfl rfl rfl rfl rfl hk hc9
  · rcases own_five p1 with hk | hk | hk | hk | hk
    · exact rm0_0_0 l Z a0 hw ws p1 q2 q3 q4 q5 p6 h0 n0 Z0 _ _ _ _ _ _ _ _ rfl rfl rfl rfl rfl rfl rfl rfl hk hc9
    · exact rm0_1_0 l Z a0 hw ws p1 q2 q3 q4 q5 p6 h0 n0 Z0 _ _ _ _ _ _ _ _ rfl rfl rfl rfl rfl rfl rfl rfl hk hc9
    · exact rm0_2_0 l Z a0 hw ws p1 q2 q3 q4 q5 p6 h0 n0 Z0 _ _ _ _ _ _ _ _ rfl rfl rfl rfl rfl rfl rfl rfl hk hc9
    · exact rm0_3_0 l Z a0 hw ws p1 q2 q3 q4 q5 p6 h0 n0 Z0 _ _ _ _ _ _ _ _ rfl rfl rfl rfl rfl rfl rfl rfl hk hc9
    · exact rm0_4_0 l Z a0 hw ws p1 q2 q3 q4 q5 p6 h0 n0 Z0 _ _ _ _ _ _ _ _ rfl rfl rfl rfl rfl rfl rfl rfl hk hc9
set_option maxRecDepth 65536 in
set_option maxHeartbeats 40000000 in
theorem comes_1 {Post : Tables → Env → Array Value → State → Outcome → State → Prop} (hpost : ∀ tb e args s v u, (limb_1_1.after args s (.returned v) u = true ∧ limb_1_2.after args s (.returned v) u = true ∧ True) → FrameEnd s (.returned v) u (Jvm.fieldLocs frame_1_writes args s ++ Jvm.arrayLocs frame_1_arrays args s ++ Jvm.staticLocs frame_1_statics s) 16 128 → Post tb e args s (.returned v) u) :
    ArmFor flags0 classFile x code maxLocals ret World_1 tables_1 room_1 Calls_1 rest_1 Pre_1 Post := by
  intro l hfl _ _ p e ha hc hk s m args below hf hA hF happ hP
  obtain ⟨hcalls, hrest, hpre⟩ := hP
  obtain ⟨-, -, -, hnamed, -, -, -, hat⟩ := (Spec.applies_iff hf).mp happ
  obtain ⟨hg, hn⟩ := and_e (Cond.before_iff.mp (show (Jvm.Cond.and given_1 narrow_1).before args s = true from hpre))
  obtain ⟨g20, g21⟩ := and_e hg
  obtain ⟨g22, g23⟩ := and_e g21
  obtain ⟨g24, g25⟩ := and_e g23
  obtain ⟨g26, g27⟩ := and_e g25
  obtain ⟨g28, g29⟩ := and_e g27
  obtain ⟨g30, g31⟩ := and_e g29
  obtain ⟨w0, w1, w2, w3, w4, w5, rfl⟩ : ∃ w0 w1 w2 w3 w4 w5 : Value, args = #[w0, w1, w2, w3, w4, w5] := by
    have hs : args.size = 6 := by simpa [Cond.value, given_1] using g20
    obtain ⟨L⟩ := args
    match L, hs with
    | [w0, w1, w2, w3, w4, w5], _ => exact ⟨w0, w1, w2, w3, w4, w5, rfl⟩
  have hw := fun d (hd : d ∈ tables_1) => atoms_spec (ws := Jvm.Cond.code x code maxLocals ret :: tables_1) hat d (List.mem_cons_of_mem _ hd)
  have hfit : Fit s := fun {y c} hc i hi => by
    obtain ⟨ha, rfl⟩ := Array.getElem?_eq_some_iff.mp hc
    have q := List.all_eq_true.mp ((Array.all_eq_true_iff_forall_mem.mp hF) _ (Array.getElem_mem ha)) i (List.mem_range.mpr hi)
    simpa [Array.getElem?_eq_getElem hi] using q
  obtain ⟨i0, ei0⟩ := is_v g22
  obtain rfl : w0 = (.int i0) := Option.some.inj ei0
  obtain ⟨i1, ei1⟩ := isL_v g24
  obtain rfl : w1 = (.long i1) := Option.some.inj ei1
  obtain ⟨i2, ei2⟩ := isL_v g26
  obtain rfl : w2 = (.long i2) := Option.some.inj ei2
  obtain ⟨i3, ei3⟩ := isL_v g28
  obtain rfl : w3 = (.long i3) := Option.some.inj ei3
  obtain ⟨i4, ei4⟩ := isL_v g30
  obtain rfl : w4 = (.long i4) := Option.some.inj ei4
  obtain ⟨i5, ei5⟩ := is_v g31
  obtain rfl : w5 = (.int i5) := Option.some.inj ei5
  obtain ⟨n, o, h1, h2, h3, _, L, rfl, ⟨rfl, N⟩, hq⟩ := rm0 l s _ hw tables_1 i0 i1 i2 i3 i4 i5 s.heap s.heap.size (Nat.le_refl _) p e ha hc hk s m _ below hf ((Spec.applies_iff_loose hf).mp happ).1 ⟨rfl, State.Warmed39.refl s, rfl⟩ trivial
  refine ⟨n, _, h1, h2, h3, hpost _ _ _ _ _ _ ⟨Cond.after_iff.mpr rfl, Cond.after_iff.mpr (eq_i res_at (Term.int_eval (1)) rfl), trivial⟩ ⟨hq.1, hq.2.1, (hq.2.2.sift fun y hy => Or.inr (N y hy)).mono (by decide) (by decide)⟩⟩
theorem main_1_1 : Claimed_1_1 := comes_1 fun _ _ _ _ _ _ h hF => ⟨h.1, hF⟩
theorem main_1_2 : Claimed_1_2 := comes_1 fun _ _ _ _ _ _ h hF => ⟨h.2.1, hF⟩
end Jvm.Pilot.@@N@@
namespace Jvm.Pilot.@@N@@
open Jvm Jvm.ClassFile Sem Op Lib Jvm.Free Jvm.Stand Jvm.Pilot.@@N@@.Jvm.D
/-! MADE BY PROGRAM (witnessworld.py) out of the Statement's table words and the real class files: 10 classes; the members and pool entries that the words name. The judged class is class 1, her method 1. -/
namespace start1
open Jvm.ClassFile
def u (s : String) : CpInfo := .utf8 (stringToUtf16 s)
/-- a pool by its gaps: so many unusable entries, then the entry; so many at the end -/
def gap : Nat → List CpInfo → List CpInfo
  | 0, r => r
  | n + 1, r => .unusable :: gap n r
def poolList (es : List (Nat × CpInfo)) (last : Nat) : List CpInfo := es.foldr (fun e r => gap e.1 (e.2 :: r)) (gap last [])
def pool (es : List (Nat × CpInfo)) (last : Nat) : Array CpInfo := ⟨poolList es last⟩
def fileOf (pool : Array CpInfo) (this : Nat) (attrs : Array Attribute := #[]) (ms : Array MethodInfo := #[]) (fl : Nat := 33) (sup : Nat := 0) (ifs : Array Nat := #[]) (fds : Array FieldInfo := #[]) : ClassFile where
  minorVersion := 0
  majorVersion := 65
  constantPool := pool
  accessFlags := fl
  thisClass := this
  superClass := sup
  interfaces := ifs
  fields := fds
  methods := ms
  attributes := attrs
def plain (name : String) (sup : Option ClassId) : Class where
  name := name
  kind := .ordinary
  loader := none
  accessFlags := 33
  super := sup
  interfaces := #[]
  cf := none
  fields := #[]
  methods := #[]
  instanceTypes := #[]
  staticTypes := #[]
  resolved := #[]
  callSites := []
  init := .initialized
  statics := none
  mirror := none

def pool0 : Array CpInfo := pool [(5, u "<init>"), (0, u "()V"), (1, .class_ 10), (1, u "java/lang/Object"), (85, u "clone"), (0, u "()Ljava/lang/Object;")] 26

def k0c0 : Code := { maxStack := 0, maxLocals := 1, code := object_method_1_code, exceptionTable := #[], attributes := #[] }
def k0m0 : Method := { name := "<init>", desc := "()V", sig := { parameters := [], returnType := none }, accessFlags := 1, code := some k0c0 }
def k0m1 : Method := { name := "clone", desc := "()Ljava/lang/Object;", sig := { parameters := [], returnType := some (.object "java/lang/Object") }, accessFlags := 260, code := none }
/-- java/lang/Object -/
def k0 : Class := { plain "java/lang/Object" none with
  accessFlags := 33
  interfaces := #[]
  cf := some (fileOf pool0 8 #[] #[{ accessFlags := 1, nameIndex := 5, descriptorIndex := 6, attributes := #[] }, { accessFlags := 260, nameIndex := 96, descriptorIndex := 97, attributes := #[] }] 33 0 #[] #[])
  fields := #[]
  methods := #[k0m0, k0m1]
  instanceTypes := #[]
  staticTypes := #[]
  resolved := Array.replicate 124 none
  statics := none }

def pool1 : Array CpInfo := pool [(2, .class_ 4), (1, u "java/lang/Object"), (0, u "<init>"), (0, u "()V"), (0, .integer 2147483647), (0, .class_ 9), (0, u "com/example/stagecraft/stagecraft/examples/GenericDotProduct"), (0, .methodref 8 11), (0, .nameAndType 5 12), (0, u "([I)V"), (0, .methodref 8 14), (0, .nameAndType 15 16), (0, u "apply"), (0, u "([I)I"), (0, .class_ 18), (0, u "com/example/stagecraft/stagecraft/examples/GenericDotProductApplyPinLaw"), (2, u "law"), (0, u "(IJJJJI)Z")] 5

def k1m0 : Method := { name := "<init>", desc := "()V", sig := { parameters := [], returnType := none }, accessFlags := 1, code := none }
def k1c1 : Code := { maxStack := 3, maxLocals := 27, code := code, exceptionTable := #[], attributes := #[] }
def k1m1 : Method := { name := "law", desc := "(IJJJJI)Z", sig := { parameters := [.int, .long, .long, .long, .long, .int], returnType := some .boolean }, accessFlags := 9, code := some k1c1 }
/-- com/example/stagecraft/stagecraft/examples/GenericDotProductApplyPinLaw -/
def k1 : Class := { plain "com/example/stagecraft/stagecraft/examples/GenericDotProductApplyPinLaw" (some 0) with
  accessFlags := 49
  interfaces := #[]
  cf := some (fileOf pool1 17 #[] #[{ accessFlags := 1, nameIndex := 5, descriptorIndex := 6, attributes := #[] }, { accessFlags := 9, nameIndex := 21, descriptorIndex := 22, attributes := #[] }] 49 2 #[] #[])
  fields := #[]
  methods := #[k1m0, k1m1]
  instanceTypes := #[]
  staticTypes := #[]
  resolved := Array.replicate 28 none
  statics := none }

def pool2 : Array CpInfo := pool [(1, .class_ 2), (0, u "com/example/stagecraft/stagecraft/examples/DotProduct"), (0, .class_ 4), (0, u "java/lang/Object")] 4

/-- com/example/stagecraft/stagecraft/examples/DotProduct -/
def k2 : Class := { plain "com/example/stagecraft/stagecraft/examples/DotProduct" (some 0) with
  accessFlags := 1537
  interfaces := #[]
  cf := some (fileOf pool2 1 #[] #[] 1537 3 #[] #[])
  fields := #[]
  methods := #[]
  instanceTypes := #[]
  staticTypes := #[]
  resolved := Array.replicate 9 none
  statics := none }

def pool3 : Array CpInfo := pool [(1, .methodref 2 3), (0, .class_ 4), (0, .nameAndType 5 6), (0, u "java/lang/Object"), (0, u "<init>"), (0, u "()V"), (0, .methodref 8 9), (0, .class_ 10), (0, .nameAndType 11 12), (0, u "[I"), (0, u "clone"), (0, u "()Ljava/lang/Object;"), (0, .fieldref 14 15), (0, .class_ 16), (0, .nameAndType 17 10), (0, u "com/example/stagecraft/stagecraft/examples/GenericDotProduct"), (0, u "fixed"), (0, .class_ 19), (0, u "com/example/stagecraft/stagecraft/examples/DotProduct"), (0, u "([I)V"), (2, u "apply"), (0, u "([I)I")] 3

def k3c0 : Code := { maxStack := 2, maxLocals := 2, code := prog_47_method_1_code, exceptionTable := #[], attributes := #[] }
def k3m0 : Method := { name := "<init>", desc := "([I)V", sig := { parameters := [(.array .int)], returnType := none }, accessFlags := 1, code := some k3c0 }
def k3c1 : Code := { maxStack := 4, maxLocals := 4, code := prog_47_method_2_code, exceptionTable := #[], attributes := #[] }
def k3m1 : Method := { name := "apply", desc := "([I)I", sig := { parameters := [(.array .int)], returnType := some .int }, accessFlags := 1, code := some k3c1 }
/-- com/example/stagecraft/stagecraft/examples/GenericDotProduct -/
def k3 : Class := { plain "com/example/stagecraft/stagecraft/examples/GenericDotProduct" (some 0) with
  accessFlags := 49
  interfaces := #[2]
  cf := some (fileOf pool3 14 #[] #[{ accessFlags := 1, nameIndex := 5, descriptorIndex := 20, attributes := #[] }, { accessFlags := 1, nameIndex := 23, descriptorIndex := 24, attributes := #[] }] 49 2 #[18] #[{ accessFlags := 18, nameIndex := 17, descriptorIndex := 10, attributes := #[] }])
  fields := #[{ name := "fixed", type := (.array .int), accessFlags := 18, slot := 0, constantValue := 0 }]
  methods := #[k3m0, k3m1]
  instanceTypes := #[(.array .int)]
  staticTypes := #[]
  resolved := Array.replicate 28 none
  statics := none }

def pool4 : Array CpInfo := pool [(1, .class_ 2), (0, u "java/lang/Cloneable"), (0, .class_ 4), (0, u "java/lang/Object")] 2

/-- java/lang/Cloneable -/
def k4 : Class := { plain "java/lang/Cloneable" (some 0) with
  accessFlags := 1537
  interfaces := #[]
  cf := some (fileOf pool4 1 #[] #[] 1537 3 #[] #[])
  fields := #[]
  methods := #[]
  instanceTypes := #[]
  staticTypes := #[]
  resolved := Array.replicate 7 none
  statics := none }

def pool5 : Array CpInfo := pool [(1, u "java/io/Serializable"), (0, .class_ 1), (0, u "java/lang/Object"), (0, .class_ 3)] 3

/-- java/io/Serializable -/
def k5 : Class := { plain "java/io/Serializable" (some 0) with
  accessFlags := 1537
  interfaces := #[]
  cf := some (fileOf pool5 2 #[] #[] 1537 4 #[] #[])
  fields := #[]
  methods := #[]
  instanceTypes := #[]
  staticTypes := #[]
  resolved := Array.replicate 8 none
  statics := none }

/-- the primitive byte -/
def k6 : Class := { plain "byte" none with kind := .primitive 'B', accessFlags := 0x411 }
/-- [B -/
def k7 : Class := { plain "[B" (some 0) with kind := .array 6 .byte, interfaces := #[4, 5], accessFlags := 1041 }

/-- the primitive int -/
def k8 : Class := { plain "int" none with kind := .primitive 'I', accessFlags := 0x411 }
/-- [I -/
def k9 : Class := { plain "[I" (some 0) with kind := .array 8 .int, interfaces := #[4, 5], accessFlags := 1041 }

def heap : Heap := #[]
def classes : Array Class := #[k0, k1, k2, k3, k4, k5, k6, k7, k8, k9]
def interned : List (Array UInt16 × Addr) := []
def slotsUsed : Nat := 0
def theMethod : MethodId := ⟨1, 1⟩
def args0 : Array Value := #[.int 5, .long 1, .long 2, .long 3, .long 4, .int 5]
def aboutOver (below : List Frame) : State where
  vm := { classes := classes, interned := interned.toArray }
  heap := heap
  slotsUsed := slotsUsed
  threads := #[{ frames := .invoking theMethod args0 :: below }]
def below0 : List Frame := [.native { method := ⟨0, 0⟩, args := #[] }]
def about1 : State := aboutOver below0
def p0 : Program := .bare "" "" ""
def e0 : Env := launch0.env 0 0 0
theorem w_frames : about1.frames = Frame.invoking theMethod args0 :: below0 := rfl
set_option maxRecDepth 65536 in
theorem w_args : argsFit about1.vm theMethod args0 = true := by decide +kernel
set_option maxRecDepth 65536 in
theorem w_heap : heapFits about1 = true := by decide +kernel
set_option maxRecDepth 65536 in
theorem w_runnable : about1.curStatus? = some .runnable := by decide +kernel
set_option maxRecDepth 65536 in
theorem w_alone : about1.alone = true := by decide +kernel
set_option maxRecDepth 65536 in
theorem w_named : about1.methodNamed? x = some theMethod := by decide +kernel
set_option maxRecDepth 65536 in
theorem w_hears : about1.hears theMethod below0 = true := by decide +kernel
set_option maxRecDepth 65536 in
theorem w_ripe : about1.ripe theMethod args0 below0 = true := by decide +kernel
theorem w_running : about1.status = .running := rfl
set_option maxRecDepth 65536 in
theorem w_room : about1.hasRoom e0.platform room_1 = true :=
  launch0.hasRoom_least _ room_1 (by decide +kernel) (by decide +kernel) (by decide +kernel) (by decide +kernel) (by decide +kernel) (by decide +kernel)
theorem allAtoms_all (ts : List Jvm.Cond) (a : Array Jvm.Value) (st : Jvm.State) : (allAtoms ts).before a st = ts.all (fun c => c.before a st) := by
  induction ts with
  | nil => rfl
  | cons c t ih =>
    show (Jvm.Cond.and c (allAtoms t)).before a st = _
    rw [Jvm.Cond.before_and, ih, List.all_cons]
def words1 : List Jvm.Cond := Jvm.Cond.code x code maxLocals ret :: tables_1
/-- a 'code' word, met by the world's own term for the bytes: nothing is compared byte by byte -/
theorem code_word {y : MethodName} {bytes : ByteArray} {mx : Nat} {rt : Option FieldType} {a : Array Value} {s : State} {m : MethodId} {meth : Method} {c : Code} (h1 : s.methodNamed? y = some m) (h2 : s.vm.method? m = some meth) (h3 : meth.code = some c) (h4 : c.code = bytes)
    (h5 : (c.maxLocals == mx && c.exceptionTable.isEmpty && decide (c.maxStack ≤ mostOperands) && decide (meth.sig.returnType = rt) && !meth.locks && decide (parseMethodDescriptor y.desc = some meth.sig)) = true) : (Jvm.Cond.code y bytes mx rt).before a s = true := by
  simp only [Bool.and_eq_true, beq_iff_eq, Bool.not_eq_true', decide_eq_true_eq] at h5
  obtain ⟨⟨⟨⟨⟨g1, g2⟩, g3⟩, g4⟩, g5⟩, g6⟩ := h5
  simp [Cond.before, Cond.holds, Cond.value, h1, h2, h3, h4, g1, g2, g3, g4, g5, g6]
def isCode : Jvm.Cond → Bool
  | .code _ _ _ _ => true
  | _ => false
theorem all_split {L : List Jvm.Cond} {P : Jvm.Cond → Bool} (h1 : L.all (fun c => isCode c || P c) = true) (h2 : ∀ c ∈ L.filter isCode, P c = true) : L.all P = true := by
  refine List.all_eq_true.mpr fun c hc => ?_
  have h := List.all_eq_true.mp h1 c hc
  rcases Bool.eq_false_or_eq_true (isCode c) with hi | hi
  · exact h2 c (List.mem_filter.mpr ⟨hc, hi⟩)
  · simpa [hi] using h
set_option maxRecDepth 65536 in
theorem w_c0 : (Jvm.Cond.code x code maxLocals ret).before args0 about1 = true := code_word (m := ⟨1, 1⟩) (meth := k1m1) (c := k1c1) (by decide +kernel) rfl rfl rfl (by decide +kernel)
set_option maxRecDepth 65536 in
theorem w_c1 : (Jvm.Cond.code ({ cls := "com/example/stagecraft/stagecraft/examples/GenericDotProduct", name := "<init>", desc := "([I)V" } : Jvm.MethodName) prog_47_method_1_code (2 : Nat) (Option.none : Option Jvm.ClassFile.FieldType)).before args0 about1 = true := code_word (m := ⟨3, 0⟩) (meth := k3m0) (c := k3c0) (by decide +kernel) rfl rfl rfl (by decide +kernel)
set_option maxRecDepth 65536 in
theorem w_c2 : (Jvm.Cond.code ({ cls := "java/lang/Object", name := "<init>", desc := "()V" } : Jvm.MethodName) object_method_1_code (1 : Nat) (Option.none : Option Jvm.ClassFile.FieldType)).before args0 about1 = true := code_word (m := ⟨0, 0⟩) (meth := k0m0) (c := k0c0) (by decide +kernel) rfl rfl rfl (by decide +kernel)
set_option maxRecDepth 65536 in
theorem w_c3 : (Jvm.Cond.code ({ cls := "com/example/stagecraft/stagecraft/examples/GenericDotProduct", name := "apply", desc := "([I)I" } : Jvm.MethodName) prog_47_method_2_code (4 : Nat) (Option.some Jvm.ClassFile.FieldType.int)).before args0 about1 = true := code_word (m := ⟨3, 1⟩) (meth := k3m1) (c := k3c1) (by decide +kernel) rfl rfl rfl (by decide +kernel)
def codes1 : List Jvm.Cond := [Jvm.Cond.code x code maxLocals ret, Jvm.Cond.code ({ cls := "com/example/stagecraft/stagecraft/examples/GenericDotProduct", name := "<init>", desc := "([I)V" } : Jvm.MethodName) prog_47_method_1_code (2 : Nat) (Option.none : Option Jvm.ClassFile.FieldType), Jvm.Cond.code ({ cls := "java/lang/Object", name := "<init>", desc := "()V" } : Jvm.MethodName) object_method_1_code (1 : Nat) (Option.none : Option Jvm.ClassFile.FieldType), Jvm.Cond.code ({ cls := "com/example/stagecraft/stagecraft/examples/GenericDotProduct", name := "apply", desc := "([I)I" } : Jvm.MethodName) prog_47_method_2_code (4 : Nat) (Option.some Jvm.ClassFile.FieldType.int)]
set_option maxRecDepth 65536 in
theorem codes_eq : words1.filter isCode = codes1 := rfl
theorem w_codes : ∀ c ∈ words1.filter isCode, c.before args0 about1 = true := by
  rw [codes_eq]
  intro c hc
  simp only [codes1, List.mem_cons, List.not_mem_nil, or_false] at hc
  rcases hc with rfl | rfl | rfl | rfl
  · exact w_c0
  · exact w_c1
  · exact w_c2
  · exact w_c3
set_option maxRecDepth 65536 in
theorem w_t1 : (words1.take 24).all (fun c => isCode c || c.before args0 about1) = true := by decide +kernel
set_option maxRecDepth 65536 in
theorem w_t2 : (words1.drop 24).all (fun c => isCode c || c.before args0 about1) = true := by decide +kernel
theorem w_tables : (allAtoms (Jvm.Cond.code x code maxLocals ret :: tables_1)).before args0 about1 = true := by
  rw [allAtoms_all]
  show words1.all (fun c => c.before args0 about1) = true
  refine all_split ?_ w_codes
  rw [← List.take_append_drop 24 words1, List.all_append, w_t1, w_t2]
  rfl
set_option maxRecDepth 65536 in
theorem w_case : (Jvm.Cond.and given_1 narrow_1).before args0 about1 = true := by decide +kernel
theorem w_applies : (headSpec (Jvm.Cond.code x code maxLocals ret :: tables_1) room_1).applies x e0.platform about1 = true :=
  (Spec.applies_iff w_frames).mpr ⟨w_running, w_runnable, w_alone, w_named, w_hears, w_ripe, w_room, w_tables⟩
theorem atStart : AtStart classFile x code maxLocals ret World_1 tables_1 room_1 Calls_1 rest_1 Pre_1 launch0 p0 e0 about1 theMethod args0 below0 :=
  ⟨lists_1, trivial, launch0.admits_env _ _ _, launch0.least_env, fairChoices_fair.cas, fairChoices_fair.clock, w_frames, w_args, w_heap, w_applies, trivial, trivial, w_case⟩
end start1
theorem witness_1 : WitnessClaimed_1 := ⟨start1.p0, start1.e0, start1.about1, start1.theMethod, start1.args0, start1.below0, start1.atStart⟩
end Jvm.Pilot.@@N@@
