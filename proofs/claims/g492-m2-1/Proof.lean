import JvmDerived
import JvmDerived.Pilot.@@N@@Statement
import JvmDerived.Pilot.@@N@@Code
set_option linter.unusedVariables false
set_option linter.unusedSimpArgs false
namespace Jvm.RoadKit
open Sem ClassFile Op Lib Jvm.Stand Jvm.Free Jvm.LawKit
section New
variable {p : Program} {l : Launch} {e : Env} {R : Room} {s : State} {m : MethodId} {args : Array Value} {below : List Frame} {meth : Method} {c : Code} {T : State} {locs : List Loc} {cells slots : Nat}
theorem retI (X : Stand p l e R s m args below meth c T locs cells slots) (hx : p.tables.exec = Jvm.exec) {pc : Nat} {Ls : Array Slot} {z : Int32} {rest : List Value} (hret : meth.sig.returnType = some .int) (hd : decode c.code pc = .ok (.ireturn, 1)) {fs : List Frame}
    (hl : ∀ (f : JFrame) (acts : List Action), f.method = m → f.locked = none → f.entered = [] → (doReturn e (T.setTop f) acts (some (.int z))).1 = T.setFrames fs) : Steps p.tables e below (T.setTop (mkF m pc Ls (.int z :: rest))) (T.setFrames fs) := by
  have hm' : T.vm.method? m = some meth := X.method'
  have hn : narrow .int (.int z) = .int z := rfl
  show Steps p.tables e below (T.setTop { method := m, pc := pc, locals := Ls, stack := _ :: rest, locked := none }) _
  jvm_step X.here [X.here.top, hx, hd, hm', hret, hn]
  first | (intro acts; rw [hl _ acts rfl rfl rfl]) | rw [hl _ _ rfl rfl rfl]
  exact Steps.refl _
end New
end Jvm.RoadKit
/- laws to paste: Road.backV, Road.lenW, Road.eqW, Road.codOf (cut by pick.py; bodies as the Statement names them) -/
namespace Jvm.Pilot.@@N@@
namespace StrChars
open Jvm Sem ClassFile Op Lib Jvm.Stand Jvm.Free.XT Jvm.Free.ALB Jvm.Free.JM Jvm.Free
open Jvm.Lib.Cold (StaticIs)
/-- a char array whose places are chars -/
def Ch (a : Addr) (A : Cell) (U : State) : Prop := Arr .char a A U ∧ Typed .char A
theorem Ch.mv {a : Addr} {A : Cell} {U U' : State} (h : Ch a A U) (hal : U.vm.Alike U'.vm) (hh : U'.heap = U.heap) : Ch a A U' := ⟨h.1.mv hal hh, h.2⟩
theorem Ch.keep {a : Addr} {A : Cell} {U U' : State} (h : Ch a A U) (hal : U.vm.Alike U'.vm) (hk : U'.heap[a]? = some A) : Ch a A U' := ⟨h.1.keep hal hk, h.2⟩
/-- what place i of a char[]'s cell holds -/
def cv (A : Cell) (i : Nat) : Int32 := match A.slots[i]? with | some (.int x) => x | _ => 0
theorem Ch.get {a : Addr} {A : Cell} {U : State} (h : Ch a A U) {i : Nat} (hi : i < A.slots.size) : A.slots[i]? = some (.int (cv A i)) := by
  have e := Array.getElem?_eq_getElem hi
  have f := h.2 i _ e
  unfold cv; rw [e]
  generalize A.slots[i] = v at f
  cases v <;> simp [fits] at f ⊢
/-- the byte that i2b leaves of a char -/
def lo8 (x : Int32) : Int32 := x.toInt8.toInt32
theorem fits_lo8 (y : Int32) : fits .byte (.int (lo8 y)) = true := by
  have h1 := y.toInt8.le_toInt
  have h2 := y.toInt8.toInt_lt
  simp only [lo8, fits, Bool.and_eq_true, decide_eq_true_eq, Int32.le_iff_toInt_le, Int8.toInt_toInt32, show (-128 : Int32).toInt = -128 from by decide, show (127 : Int32).toInt = 127 from by decide]
  omega
/-- A' is A but that each place j of lo .. hi - 1 holds f j -/
def Laid (A A' : Cell) (lo hi : Nat) (f : Nat → Value) : Prop := A'.cls = A.cls ∧ A'.vm = A.vm ∧ A'.slots.size = A.slots.size ∧ ∀ i, A'.slots[i]? = if lo ≤ i ∧ i < hi then some (f i) else A.slots[i]?
theorem Laid.zero (A : Cell) (lo : Nat) (f : Nat → Value) : Laid A A lo (lo + 0) f := ⟨rfl, rfl, rfl, fun i => by rw [if_neg (by omega)]⟩
theorem Laid.step {A Ak : Cell} {lo k : Nat} {f : Nat → Value} {v : Value} (h : Laid A Ak lo k f) (hlo : lo ≤ k) (hk : k < Ak.slots.size) (hv : v = f k) : Laid A (Ak.setSlot k v) lo (k + 1) f := by
  refine ⟨h.1, h.2.1, by simpa [Cell.setSlot] using h.2.2.1, fun i => ?_⟩
  by_cases e : k = i
  · subst e; rw [Cell.slots_setSlot_self v hk, if_pos (by omega), hv]
  · rw [Cell.slots_setSlot_ne v e, h.2.2.2 i]
    by_cases q : lo ≤ i ∧ i < k
    · rw [if_pos q, if_pos (by omega)]
    · rw [if_neg q, if_neg (by omega)]
def U16 : String := "java/lang/StringUTF16"
namespace Cmp5
def yN : MethodName := ⟨"java/lang/StringUTF16", "compress", "([CI[BII)I"⟩
abbrev yB : ByteArray := jdk_52_method_21_code
theorem d0 : decode yB 0 = .ok (.iconst 0, 1) := by decide +kernel
theorem d1 : decode yB 1 = .ok (.istore 5, 2) := by decide +kernel
theorem d3 : decode yB 3 = .ok (.iload 5, 2) := by decide +kernel
theorem d5 : decode yB 5 = .ok (.iload 4, 2) := by decide +kernel
theorem d7 : decode yB 7 = .ok (.if_icmp (.ge) 37, 3) := by decide +kernel
theorem d10 : decode yB 10 = .ok (.aload_n 0, 1) := by decide +kernel
theorem d11 : decode yB 11 = .ok (.iload_n 1, 1) := by decide +kernel
theorem d12 : decode yB 12 = .ok (.caload, 1) := by decide +kernel
theorem d13 : decode yB 13 = .ok (.istore 6, 2) := by decide +kernel
theorem d15 : decode yB 15 = .ok (.iload 6, 2) := by decide +kernel
theorem d17 : decode yB 17 = .ok (.sipush 255, 3) := by decide +kernel
theorem d20 : decode yB 20 = .ok (.if_icmp (.le) 6, 3) := by decide +kernel
theorem d26 : decode yB 26 = .ok (.aload_n 2, 1) := by decide +kernel
theorem d27 : decode yB 27 = .ok (.iload_n 3, 1) := by decide +kernel
theorem d28 : decode yB 28 = .ok (.iload 6, 2) := by decide +kernel
theorem d30 : decode yB 30 = .ok (.i2b, 1) := by decide +kernel
theorem d31 : decode yB 31 = .ok (.bastore, 1) := by decide +kernel
theorem d32 : decode yB 32 = .ok (.iinc 1 1, 3) := by decide +kernel
theorem d35 : decode yB 35 = .ok (.iinc 3 1, 3) := by decide +kernel
theorem d38 : decode yB 38 = .ok (.iinc 5 1, 3) := by decide +kernel
theorem d41 : decode yB 41 = .ok (.goto (-38), 3) := by decide +kernel
theorem d44 : decode yB 44 = .ok (.iload 4, 2) := by decide +kernel
theorem d46 : decode yB 46 = .ok (.ireturn, 1) := by decide +kernel
def site : List Cond := []
def tab : Cond := tabOf yN yB 7 (some .int) site
def P (b : Addr) (A : Cell) (d : Addr) (B : Cell) (o q len : Nat) (args : Array Value) (s : State) : Prop := args = #[.ref b, .int (Int32.ofNat o), .ref d, .int (Int32.ofNat q), .int (Int32.ofNat len)] ∧ Ch b A s ∧ Arr .byte d B s ∧ b ≠ d ∧ o + len ≤ A.slots.size ∧ q + len ≤ B.slots.size ∧ ∀ i, i < len → ¬ 255 < cv A (o + i)
def E (b : Addr) (A : Cell) (d : Addr) (B : Cell) (o q len : Nat) (r : Option Value) (s u : State) : Prop := r = some (.int (Int32.ofNat len)) ∧ ∃ B', Put d B' s u ∧ Laid B B' q (q + len) (fun j => Value.int (lo8 (cv A (o + (j - q)))))
/-- no char of the range above 255: len; the places written hold each char's low byte -/
theorem law (l : Launch) (b : Addr) (A : Cell) (d : Addr) (B : Cell) (o q len : Nat) : Law l yN 5 5 0 0 yB 7 (some .int) site (P b A d B o q len) (E b A d B o q len) (copyLocs d q len) 0 0 := by
  refine Law.of_walk (plainFor_of_name (by decide +kernel)) (by decide +kernel) (by decide +kernel) (by decide) (fun _ _ h => by rw [h.1]; rfl) (fun _ U U' hal hh h => ⟨h.1, h.2.1.mv hal hh, h.2.2.1.mv hal hh, h.2.2.2⟩) (fun r U U' V V' h1 hal h2 h => ⟨h.1, h.2.elim fun B' q => ⟨B', q.1.mv h1 h2, q.2⟩⟩) ?_
  intro p e s m args below meth c s₁ X0 hexec hbytes hml hret hlk hnm hown hh0 W hP
  obtain ⟨rfl, hA, hB, hne, l1, l2, hp⟩ := hP
  have c1 : Steps p.tables e below (s₁.setTop (entryFrame m #[.ref b, .int (Int32.ofNat o), .ref d, .int (Int32.ofNat q), .int (Int32.ofNat len)] 7)) (s₁.setTop (mkF m 0 #[.val (.ref b), .val (.int (Int32.ofNat o)), .val (.ref d), .val (.int (Int32.ofNat q)), .val (.int (Int32.ofNat len)), .unset, .unset] [])) := entry rfl
  have hA0 := hA.1.mv X0.warmed.alike hh0
  have hB0 := hB.mv X0.warmed.alike hh0
  have a31 := hA.1.2.2.2
  have c2 : Steps p.tables e below (s₁.setTop (entryFrame m #[.ref b, .int (Int32.ofNat o), .ref d, .int (Int32.ofNat q), .int (Int32.ofNat len)] 7)) (s₁.setTop (mkF m 3 #[.val (.ref b), .val (.int (Int32.ofNat o)), .val (.ref d), .val (.int (Int32.ofNat q)), .val (.int (Int32.ofNat len)), .val (.int 0), .unset] [])) := c1.trans (by
    refine iconstV X0.here hexec rfl 0 (hb hbytes d0) (by decide) ?_
    refine XS.istore X0.here hexec rfl (hb hbytes d1) rfl rfl ?_
    exact Steps.refl _)
  have loop : ∀ (r i : Nat), i + r = len → ∀ (z : Slot), (z = .unset ∨ ∃ w, z = .val w ∧ w.category = 1) → ∀ (Tl : State) (Bk : Cell), Stand p l e { frames := 0, locals := 0, cells := 0, slots := 0 } s m #[.ref b, .int (Int32.ofNat o), .ref d, .int (Int32.ofNat q), .int (Int32.ofNat len)] below meth c Tl ([] ++ copyLocs d q i) 0 0 → Put d Bk s₁ Tl → Laid B Bk q (q + i) (fun j => Value.int (lo8 (cv A (o + (j - q))))) →
      Steps p.tables e below (s₁.setTop (entryFrame m #[.ref b, .int (Int32.ofNat o), .ref d, .int (Int32.ofNat q), .int (Int32.ofNat len)] 7)) (Tl.setTop (mkF m 3 #[.val (.ref b), .val (.int (Int32.ofNat (o + i))), .val (.ref d), .val (.int (Int32.ofNat (q + i))), .val (.int (Int32.ofNat len)), .val (.int (Int32.ofNat i)), z] [])) → ∃ (T' : State) (B' : Cell) (z' : Slot), Stand p l e { frames := 0, locals := 0, cells := 0, slots := 0 } s m #[.ref b, .int (Int32.ofNat o), .ref d, .int (Int32.ofNat q), .int (Int32.ofNat len)] below meth c T' ([] ++ copyLocs d q len) 0 0 ∧ Put d B' s₁ T' ∧ Laid B B' q (q + len) (fun j => Value.int (lo8 (cv A (o + (j - q))))) ∧
      Steps p.tables e below (s₁.setTop (entryFrame m #[.ref b, .int (Int32.ofNat o), .ref d, .int (Int32.ofNat q), .int (Int32.ofNat len)] 7)) (T'.setTop (mkF m 3 #[.val (.ref b), .val (.int (Int32.ofNat (o + len))), .val (.ref d), .val (.int (Int32.ofNat (q + len))), .val (.int (Int32.ofNat len)), .val (.int (Int32.ofNat len)), z'] [])) := by
    intro r
    induction r with
    | zero =>
      intro i hi z hz Tl Bk Xl pl fl cl
      have hil : i = len := by omega
      rw [hil] at Xl fl cl
      exact ⟨Tl, Bk, z, Xl, pl, fl, cl⟩
    | succ r ih =>
      intro i hi z hz Tl Bk Xl pl fl cl
      have all := X0.warmed.alike.symm.trans Xl.warmed.alike
      have hAl := hA0.keep all (pl.other hne hA0.1)
      have hBk := hB0.like all pl.1 fl.1 fl.2.1 fl.2.2.1
      have hlt : q + i < Bk.slots.size := by rw [fl.2.2.1]; omega
      have c3 : Steps p.tables e below (s₁.setTop (entryFrame m #[.ref b, .int (Int32.ofNat o), .ref d, .int (Int32.ofNat q), .int (Int32.ofNat len)] 7)) (Tl.setTop (mkF m 12 #[.val (.ref b), .val (.int (Int32.ofNat (o + i))), .val (.ref d), .val (.int (Int32.ofNat (q + i))), .val (.int (Int32.ofNat len)), .val (.int (Int32.ofNat i)), z] [.int (Int32.ofNat (o + i)), .ref b])) := cl.trans (by
        refine XS.iload Xl.here hexec rfl (hb hbytes d3) rfl ?_
        refine XS.iload Xl.here hexec rfl (hb hbytes d5) rfl ?_
        refine XS.icmpNo Xl.here hexec rfl (hb hbytes d7) rfl (ii_ge_f (lt32 (by omega) (by omega))) ?_
        refine XS.aloadN Xl.here hexec rfl (hb hbytes d10) rfl rfl ?_
        refine XS.iloadN Xl.here hexec rfl (hb hbytes d11) rfl ?_
        exact Steps.refl _)
      have c4 : Steps p.tables e below (s₁.setTop (entryFrame m #[.ref b, .int (Int32.ofNat o), .ref d, .int (Int32.ofNat q), .int (Int32.ofNat len)] 7)) (Tl.setTop (mkF m 13 #[.val (.ref b), .val (.int (Int32.ofNat (o + i))), .val (.ref d), .val (.int (Int32.ofNat (q + i))), .val (.int (Int32.ofNat len)), .val (.int (Int32.ofNat i)), z] [.int (cv A (o + i))])) := c3.trans (by
        refine Xl.aget hexec hAl rfl (hA.get (i := o + i) (by omega)) rfl rfl (hb hbytes d12) ?_
        exact Steps.refl _)
      have c5 : Steps p.tables e below (s₁.setTop (entryFrame m #[.ref b, .int (Int32.ofNat o), .ref d, .int (Int32.ofNat q), .int (Int32.ofNat len)] 7)) (Tl.setTop (mkF m 15 #[.val (.ref b), .val (.int (Int32.ofNat (o + i))), .val (.ref d), .val (.int (Int32.ofNat (q + i))), .val (.int (Int32.ofNat len)), .val (.int (Int32.ofNat i)), .val (.int (cv A (o + i)))] [])) := c4.trans (by
        refine XS.istoreS Xl.here hexec rfl (hb hbytes d13) rfl rfl hz ?_
        exact Steps.refl _)
      have c6 : Steps p.tables e below (s₁.setTop (entryFrame m #[.ref b, .int (Int32.ofNat o), .ref d, .int (Int32.ofNat q), .int (Int32.ofNat len)] 7)) (Tl.setTop (mkF m 31 #[.val (.ref b), .val (.int (Int32.ofNat (o + i))), .val (.ref d), .val (.int (Int32.ofNat (q + i))), .val (.int (Int32.ofNat len)), .val (.int (Int32.ofNat i)), .val (.int (cv A (o + i)))] [.int (lo8 (cv A (o + i))), .int (Int32.ofNat (q + i)), .ref d])) := c5.trans (by
        refine XS.iload Xl.here hexec rfl (hb hbytes d15) rfl ?_
        refine sipushV Xl.here hexec rfl 255 (hb hbytes d17) (by decide) ?_
        refine XS.icmpYes Xl.here hexec rfl (pc0 := 20) rfl (hb hbytes d20) rfl (ii_le_t (hp i (by omega))) (by decide) rfl ?_
        refine XS.aloadN Xl.here hexec rfl (hb hbytes d26) rfl rfl ?_
        refine XS.iloadN Xl.here hexec rfl (hb hbytes d27) rfl ?_
        refine XS.iload Xl.here hexec rfl (hb hbytes d28) rfl ?_
        refine i2b Xl.here hexec rfl (hb hbytes d30) rfl ?_
        exact Steps.refl _)
      obtain ⟨T7, X7, p7, st7⟩ := Xl.aput hexec hBk rfl hlt rfl (fits_lo8 (cv A (o + i))) (g := (mkF m 31 #[.val (.ref b), .val (.int (Int32.ofNat (o + i))), .val (.ref d), .val (.int (Int32.ofNat (q + i))), .val (.int (Int32.ofNat len)), .val (.int (Int32.ofNat i)), .val (.int (cv A (o + i)))] [.int (lo8 (cv A (o + i))), .int (Int32.ofNat (q + i)), .ref d])) rfl (rest := []) rfl (hb hbytes d31)
      have c8 : Steps p.tables e below (s₁.setTop (entryFrame m #[.ref b, .int (Int32.ofNat o), .ref d, .int (Int32.ofNat q), .int (Int32.ofNat len)] 7)) (T7.setTop (mkF m 32 #[.val (.ref b), .val (.int (Int32.ofNat (o + i))), .val (.ref d), .val (.int (Int32.ofNat (q + i))), .val (.int (Int32.ofNat len)), .val (.int (Int32.ofNat i)), .val (.int (cv A (o + i)))] [])) := c6.trans (st7 _ (Steps.refl _))
      have c9 : Steps p.tables e below (s₁.setTop (entryFrame m #[.ref b, .int (Int32.ofNat o), .ref d, .int (Int32.ofNat q), .int (Int32.ofNat len)] 7)) (T7.setTop (mkF m 3 #[.val (.ref b), .val (.int (Int32.ofNat (o + i) + 1)), .val (.ref d), .val (.int (Int32.ofNat (q + i) + 1)), .val (.int (Int32.ofNat len)), .val (.int (Int32.ofNat i + 1)), .val (.int (cv A (o + i)))] [])) := c8.trans (by
        refine iincV X7.here hexec rfl 1 (hb hbytes d32) (by decide) rfl rfl ?_
        refine iincV X7.here hexec rfl 1 (hb hbytes d35) (by decide) rfl rfl ?_
        refine iincV X7.here hexec rfl 1 (hb hbytes d38) (by decide) rfl rfl ?_
        refine XS.goto X7.here hexec rfl (pc0 := 41) rfl (hb hbytes d41) (by decide) rfl ?_
        exact Steps.refl _)
      have c10 : Steps p.tables e below (s₁.setTop (entryFrame m #[.ref b, .int (Int32.ofNat o), .ref d, .int (Int32.ofNat q), .int (Int32.ofNat len)] 7)) (T7.setTop (mkF m 3 #[.val (.ref b), .val (.int (Int32.ofNat (o + (i + 1)))), .val (.ref d), .val (.int (Int32.ofNat (q + (i + 1)))), .val (.int (Int32.ofNat len)), .val (.int (Int32.ofNat (i + 1))), .val (.int (cv A (o + i)))] [])) := by
        have := c9
        rw [succ32, succ32, succ32] at this
        exact this
      exact ih (i + 1) (by omega) _ (Or.inr ⟨_, rfl, rfl⟩) T7 _ (by rw [copyLocs_step, ← List.append_assoc]; exact X7) (pl.trans p7) (fl.step (by omega) hlt (by simp)) c10
  obtain ⟨T9, B9, z9, X9, p9, f9, g9⟩ := loop len 0 (by omega) .unset (Or.inl rfl) s₁ B (by simpa [copyLocs] using X0) ⟨hB0.1, fun _ _ => rfl, rfl⟩ (Laid.zero _ _ _) c2
  have c11 : Steps p.tables e below (s₁.setTop (entryFrame m #[.ref b, .int (Int32.ofNat o), .ref d, .int (Int32.ofNat q), .int (Int32.ofNat len)] 7)) (T9.setTop (mkF m 46 #[.val (.ref b), .val (.int (Int32.ofNat (o + len))), .val (.ref d), .val (.int (Int32.ofNat (q + len))), .val (.int (Int32.ofNat len)), .val (.int (Int32.ofNat len)), z9] [.int (Int32.ofNat len)])) := g9.trans (by
    refine XS.iload X9.here hexec rfl (hb hbytes d3) rfl ?_
    refine XS.iload X9.here hexec rfl (hb hbytes d5) rfl ?_
    refine XS.icmpYes X9.here hexec rfl (pc0 := 7) rfl (hb hbytes d7) rfl (ii_ge_t (nlt32 (by omega) (Nat.le_refl _))) (by decide) rfl ?_
    refine XS.iload X9.here hexec rfl (hb hbytes d44) rfl ?_
    exact Steps.refl _)
  exact ⟨T9, some (.int (Int32.ofNat len)), _, _, _, X9, by simp, rfl, rfl, (fun h => by cases h), ⟨rfl, B9, p9.from hh0, f9⟩, fun fs hl => c11.trans (X9.ireturnOut hexec hret rfl (Or.inl rfl) (hb hbytes d46) hl)⟩
end Cmp5
namespace Cmp3
def yN : MethodName := ⟨"java/lang/StringUTF16", "compress", "([CII)[B"⟩
abbrev yB : ByteArray := jdk_52_method_16_code
theorem d0 : decode yB 0 = .ok (.iload_n 2, 1) := by decide +kernel
theorem d1 : decode yB 1 = .ok (.newarray .byte, 2) := by decide +kernel
theorem d3 : decode yB 3 = .ok (.astore_n 3, 1) := by decide +kernel
theorem d4 : decode yB 4 = .ok (.aload_n 0, 1) := by decide +kernel
theorem d5 : decode yB 5 = .ok (.iload_n 1, 1) := by decide +kernel
theorem d6 : decode yB 6 = .ok (.aload_n 3, 1) := by decide +kernel
theorem d7 : decode yB 7 = .ok (.iconst 0, 1) := by decide +kernel
theorem d8 : decode yB 8 = .ok (.iload_n 2, 1) := by decide +kernel
theorem d9 : decode yB 9 = .ok (.invokestatic 115, 3) := by decide +kernel
theorem d12 : decode yB 12 = .ok (.istore 4, 2) := by decide +kernel
theorem d14 : decode yB 14 = .ok (.iload 4, 2) := by decide +kernel
theorem d16 : decode yB 16 = .ok (.iload_n 2, 1) := by decide +kernel
theorem d17 : decode yB 17 = .ok (.if_icmp (.eq) 40, 3) := by decide +kernel
theorem d57 : decode yB 57 = .ok (.aload_n 3, 1) := by decide +kernel
theorem d58 : decode yB 58 = .ok (.areturn, 1) := by decide +kernel
def site : List Cond := [.arrayClass .byte, Cmp5.tab] ++ staticW U16 115 Cmp5.yN
def tab : Cond := tabOf yN yB 6 (some (.array .byte)) site
def P (b : Addr) (A : Cell) (o len : Nat) (args : Array Value) (s : State) : Prop := args = #[.ref b, .int (Int32.ofNat o), .int (Int32.ofNat len)] ∧ Ch b A s ∧ o + len ≤ A.slots.size ∧ len ≤ 536870912 ∧ ∀ i, i < len → ¬ 255 < cv A (o + i)
def E (b : Addr) (A : Cell) (o len : Nat) (r : Option Value) (s u : State) : Prop := NewArr .byte "[B" len (fun j => .int (lo8 (cv A (o + j)))) r s u ∧ u.heap.size = s.heap.size + 1
/-- no char of the range above 255: a new byte[] of their low bytes -/
theorem law (l : Launch) (b : Addr) (A : Cell) (o len : Nat) : Law l yN 3 3 1 18 yB 6 (some (.array .byte)) site (P b A o len) (E b A o len) [] 1 len := by
  refine Law.of_walk (plainFor_of_name (by decide +kernel)) (by decide +kernel) (by decide +kernel) (by decide) (fun _ _ h => by rw [h.1]; rfl) (fun _ U U' hal hh h => ⟨h.1, h.2.1.mv hal hh, h.2.2⟩) (fun r U U' V V' h1 hal h2 h => ⟨NewArr.mv r U U' V V' h1 hal h2 h.1, by rw [h1, h2]; exact h.2⟩) ?_
  intro p e s m args below meth c s₁ X0 hexec hbytes hml hret hlk hnm hown hh0 W hP
  obtain ⟨rfl, hA, l1, l2, hp⟩ := hP
  have a31 := hA.1.2.2.2
  have c1 : Steps p.tables e below (s₁.setTop (entryFrame m #[.ref b, .int (Int32.ofNat o), .int (Int32.ofNat len)] 6)) (s₁.setTop (mkF m 0 #[.val (.ref b), .val (.int (Int32.ofNat o)), .val (.int (Int32.ofNat len)), .unset, .unset, .unset] [])) := entry rfl
  have c2 : Steps p.tables e below (s₁.setTop (entryFrame m #[.ref b, .int (Int32.ofNat o), .int (Int32.ofNat len)] 6)) (s₁.setTop (mkF m 1 #[.val (.ref b), .val (.int (Int32.ofNat o)), .val (.int (Int32.ofNat len)), .unset, .unset, .unset] [.int (Int32.ofNat len)])) := c1.trans (by
    refine XS.iloadN X0.here hexec rfl (hb hbytes d0) rfl ?_
    exact Steps.refl _)
  obtain ⟨T3, B3, X3, ba3, bs3, bv3, bh3, bf3, st3⟩ := X0.anew hexec (atype := .byte) (wk W (.arrayClass .byte)) rfl (by show len * 1 ≤ _; omega) (by omega) (g := (mkF m 1 #[.val (.ref b), .val (.int (Int32.ofNat o)), .val (.int (Int32.ofNat len)), .unset, .unset, .unset] [.int (Int32.ofNat len)])) rfl (hb hbytes d1) (rest := []) rfl (Nat.le_refl _) (by show 0 + len ≤ len; omega)
  rw [hh0] at ba3 st3
  have kp3 : XT.Kept s T3 := (XT.Kept.of_eq hh0).push bh3
  have hA3 := hA.keep X3.warmed.alike (kp3 _ _ hA.1.1)
  have hne : b ≠ s.heap.size := hA.1.ne
  have c4 : Steps p.tables e below (s₁.setTop (entryFrame m #[.ref b, .int (Int32.ofNat o), .int (Int32.ofNat len)] 6)) (T3.setTop (mkF m 3 #[.val (.ref b), .val (.int (Int32.ofNat o)), .val (.int (Int32.ofNat len)), .unset, .unset, .unset] [.ref s.heap.size])) := c2.trans (st3 _ (Steps.refl _))
  have c5 : Steps p.tables e below (s₁.setTop (entryFrame m #[.ref b, .int (Int32.ofNat o), .int (Int32.ofNat len)] 6)) (T3.setTop (mkF m 9 #[.val (.ref b), .val (.int (Int32.ofNat o)), .val (.int (Int32.ofNat len)), .val (.ref s.heap.size), .unset, .unset] [.int (Int32.ofNat len), .int 0, .ref s.heap.size, .int (Int32.ofNat o), .ref b])) := c4.trans (by
    refine XS.astoreN X3.here hexec rfl (hb hbytes d3) rfl rfl rfl ?_
    refine XS.aloadN X3.here hexec rfl (hb hbytes d4) rfl rfl ?_
    refine XS.iloadN X3.here hexec rfl (hb hbytes d5) rfl ?_
    refine XS.aloadN X3.here hexec rfl (hb hbytes d6) rfl rfl ?_
    refine iconstV X3.here hexec rfl 0 (hb hbytes d7) (by decide) ?_
    refine XS.iloadN X3.here hexec rfl (hb hbytes d8) rfl ?_
    exact Steps.refl _)
  obtain ⟨v6, T6, X6, E6, g6⟩ := X3.callS hexec (Cmp5.law l b A s.heap.size B3 o 0 len) hown (wks W (staticW U16 115 Cmp5.yN)) (wk W Cmp5.tab) (W := 0) (Nat.le_of_ble_eq_true rfl) (Nat.le_of_ble_eq_true rfl) (Nat.le_refl _) (by show 0 + len + 0 ≤ len; omega) (g := (mkF m 9 #[.val (.ref b), .val (.int (Int32.ofNat o)), .val (.int (Int32.ofNat len)), .val (.ref s.heap.size), .unset, .unset] [.int (Int32.ofNat len), .int (Int32.ofNat 0), .ref s.heap.size, .int (Int32.ofNat o), .ref b])) rfl (by rw [hml]; rfl) c5 (argsL := [.ref b, .int (Int32.ofNat o), .ref s.heap.size, .int (Int32.ofNat 0), .int (Int32.ofNat len)]) (rest := []) rfl rfl (by show 2 * 0 + 0 ≤ _; decide) (hb hbytes d9) (⟨rfl, hA3, ba3, hne, l1, by rw [bs3]; simp, hp⟩)
  obtain ⟨rfl, B6, p6, f6⟩ := E6
  have c7 : Steps p.tables e below (s₁.setTop (entryFrame m #[.ref b, .int (Int32.ofNat o), .int (Int32.ofNat len)] 6)) (T6.setTop (mkF m 12 #[.val (.ref b), .val (.int (Int32.ofNat o)), .val (.int (Int32.ofNat len)), .val (.ref s.heap.size), .unset, .unset] [.int (Int32.ofNat len)])) := g6
  have c8 : Steps p.tables e below (s₁.setTop (entryFrame m #[.ref b, .int (Int32.ofNat o), .int (Int32.ofNat len)] 6)) (T6.setTop (mkF m 58 #[.val (.ref b), .val (.int (Int32.ofNat o)), .val (.int (Int32.ofNat len)), .val (.ref s.heap.size), .val (.int (Int32.ofNat len)), .unset] [.ref s.heap.size])) := c7.trans (by
    refine XS.istore X6.here hexec rfl (hb hbytes d12) rfl rfl ?_
    refine XS.iload X6.here hexec rfl (hb hbytes d14) rfl ?_
    refine XS.iloadN X6.here hexec rfl (hb hbytes d16) rfl ?_
    refine XS.icmpYes X6.here hexec rfl (pc0 := 17) rfl (hb hbytes d17) rfl (ii_eq_t rfl) (by decide) rfl ?_
    refine XS.aloadN X6.here hexec rfl (hb hbytes d57) rfl rfl ?_
    exact Steps.refl _)
  have X8 := X6.wide (L' := []) (cells' := 1) (slots' := len) (fun x hx hlt => by
    simp only [List.nil_append, copyLocs, List.mem_map, List.mem_range] at hx
    obtain ⟨i, -, rfl⟩ := hx
    exact absurd hlt (Nat.lt_irrefl _)) (Nat.le_refl _) (by omega)
  exact ⟨T6, some (.ref s.heap.size), _, _, _, X8, rfl, rfl, rfl, (fun h => by cases h), ⟨⟨rfl, B6, ba3.like (X3.warmed.alike.symm.trans X6.warmed.alike) p6.1 f6.1 f6.2.1 f6.2.2.1, f6.2.1.trans bv3, by rw [X6.warmed.alike.findClass, f6.1]; exact bf3, by rw [f6.2.2.1, bs3]; simp, fun j hj => by rw [f6.2.2.2 j, if_pos (by omega)]; rfl, kp3.put p6 (Nat.le_refl _)⟩, by rw [p6.2.2, bh3, hh0]; simp⟩, fun fs hl => c8.trans (X8.areturnOut hexec rfl hret rfl (hb hbytes d58) hl)⟩
end Cmp3
namespace CodL
def yN : MethodName := ⟨"java/lang/StringUTF16", "coderFromArrayLen", "([BI)B"⟩
abbrev yB : ByteArray := jdk_52_method_15_code
theorem d0 : decode yB 0 = .ok (.iload_n 1, 1) := by decide +kernel
theorem d1 : decode yB 1 = .ok (.aload_n 0, 1) := by decide +kernel
theorem d2 : decode yB 2 = .ok (.arraylength, 1) := by decide +kernel
theorem d3 : decode yB 3 = .ok (.isub, 1) := by decide +kernel
theorem d4 : decode yB 4 = .ok (.bipush 31, 2) := by decide +kernel
theorem d6 : decode yB 6 = .ok (.iushr, 1) := by decide +kernel
theorem d7 : decode yB 7 = .ok (.i2b, 1) := by decide +kernel
theorem d8 : decode yB 8 = .ok (.ireturn, 1) := by decide +kernel
def site : List Cond := []
def tab : Cond := tabOf yN yB 2 (some .byte) site
def P (d : Addr) (B : Cell) (args : Array Value) (s : State) : Prop := args = #[.ref d, .int (Int32.ofNat B.slots.size)] ∧ Arr .byte d B s
def E (r : Option Value) (s u : State) : Prop := XT.PureE (some (.int 0)) r s u
/-- an array as long as the number of chars: LATIN1 -/
theorem law (l : Launch) (d : Addr) (B : Cell) : Law l yN 2 2 0 0 yB 2 (some .byte) site (P d B) E [] 0 0 := by
  refine Law.of_walk (plainFor_of_name (by decide +kernel)) (by decide +kernel) (by decide +kernel) (by decide) (fun _ _ h => by rw [h.1]; rfl) (fun _ U U' hal hh h => ⟨h.1, h.2.mv hal hh⟩) (fun r U U' V V' h1 hal h2 h => XT.PureE.mv r U U' V V' h1 hal h2 h) ?_
  intro p e s m args below meth c s₁ X0 hexec hbytes hml hret hlk hnm hown hh0 W hP
  obtain ⟨rfl, hB⟩ := hP
  have hB0 := hB.mv X0.warmed.alike hh0
  have c1 : Steps p.tables e below (s₁.setTop (entryFrame m #[.ref d, .int (Int32.ofNat B.slots.size)] 2)) (s₁.setTop (mkF m 0 #[.val (.ref d), .val (.int (Int32.ofNat B.slots.size))] [])) := entry rfl
  have c2 : Steps p.tables e below (s₁.setTop (entryFrame m #[.ref d, .int (Int32.ofNat B.slots.size)] 2)) (s₁.setTop (mkF m 2 #[.val (.ref d), .val (.int (Int32.ofNat B.slots.size))] [.ref d, .int (Int32.ofNat B.slots.size)])) := c1.trans (by
    refine XS.iloadN X0.here hexec rfl (hb hbytes d0) rfl ?_
    refine XS.aloadN X0.here hexec rfl (hb hbytes d1) rfl rfl ?_
    exact Steps.refl _)
  have c3 : Steps p.tables e below (s₁.setTop (entryFrame m #[.ref d, .int (Int32.ofNat B.slots.size)] 2)) (s₁.setTop (mkF m 8 #[.val (.ref d), .val (.int (Int32.ofNat B.slots.size))] [.int (lo8 (ushr (Int32.ofNat B.slots.size - Int32.ofNat B.slots.size) 31))])) := c2.trans (by
    refine X0.alen hexec hB0 rfl rfl (hb hbytes d2) ?_
    refine XS.isub X0.here hexec rfl (hb hbytes d3) rfl ?_
    refine bipushV X0.here hexec rfl 31 (hb hbytes d4) (by decide) ?_
    refine iushr X0.here hexec rfl (hb hbytes d6) rfl ?_
    refine i2b X0.here hexec rfl (hb hbytes d7) rfl ?_
    exact Steps.refl _)
  have e0 : lo8 (ushr (Int32.ofNat B.slots.size - Int32.ofNat B.slots.size) 31) = 0 := by rw [Int32.sub_self]; decide
  rw [e0] at c3
  exact ⟨s₁, some (.int 0), _, _, _, X0, rfl, rfl, rfl, (fun h => by cases h), ⟨rfl, hh0⟩, fun fs hl => c3.trans (X0.ireturnOut hexec hret rfl (Or.inr (Or.inr (Or.inl rfl))) (hb hbytes d8) hl)⟩
end CodL
/-- the String at a is Latin-1 over a new byte[] (the heap's one new cell): the low bytes of the len chars of A from o on; every cell but a is kept -/
def Got (a : Addr) (D : Cell) (fV fC : Field) (A : Cell) (o len : Nat) (r : Option Value) (s u : State) : Prop := r = none ∧ ∃ D' V : Cell, Blank "java/lang/String" a D' u ∧ Same D D' [fV.slot, fC.slot] ∧ D'.slots[fV.slot]? = some (.ref s.heap.size) ∧ D'.slots[fC.slot]? = some (.int 0) ∧ Arr .byte s.heap.size V u ∧ V.vm = .none ∧ u.vm.findClass "[B" = some V.cls ∧ V.slots.size = len ∧ (∀ j, j < len → V.slots[j]? = some (.int (lo8 (cv A (o + j))))) ∧ (∀ (y : Addr) (c : Cell), y ≠ a → s.heap[y]? = some c → u.heap[y]? = some c) ∧ u.heap.size = s.heap.size + 1
theorem Got.mv {a : Addr} {D A : Cell} {fV fC : Field} {o len : Nat} : ∀ r (U U' V V' : State), U'.heap = U.heap → V.vm.Alike V'.vm → V'.heap = V.heap → Got a D fV fC A o len r U V → Got a D fV fC A o len r U' V' :=
  fun r U U' V V' h1 hal h2 ⟨e0, D', X, a1, a2, a3, a4, a5, a6, a7, a8, a9, a10, a11⟩ => ⟨e0, D', X, a1.mv hal h2, a2, by rw [h1]; exact a3, a4, by rw [h1]; exact a5.mv hal h2, a6, by rw [hal.findClass]; exact a7, a8, a9, by rw [h1, h2]; exact a10, by rw [h1, h2]; exact a11⟩
namespace New4
def yN : MethodName := ⟨"java/lang/String", "<init>", "([CIILjava/lang/Void;)V"⟩
abbrev yB : ByteArray := jdk_42_method_149_code
theorem d0 : decode yB 0 = .ok (.aload_n 0, 1) := by decide +kernel
theorem d1 : decode yB 1 = .ok (.invokespecial 1, 3) := by decide +kernel
theorem d4 : decode yB 4 = .ok (.iload_n 3, 1) := by decide +kernel
theorem d5 : decode yB 5 = .ok (.ifCond (.ne) 22, 3) := by decide +kernel
theorem d27 : decode yB 27 = .ok (.getstatic 38, 3) := by decide +kernel
theorem d30 : decode yB 30 = .ok (.ifCond (.eq) 28, 3) := by decide +kernel
theorem d33 : decode yB 33 = .ok (.aload_n 1, 1) := by decide +kernel
theorem d34 : decode yB 34 = .ok (.iload_n 2, 1) := by decide +kernel
theorem d35 : decode yB 35 = .ok (.iload_n 3, 1) := by decide +kernel
theorem d36 : decode yB 36 = .ok (.invokestatic 177, 3) := by decide +kernel
theorem d39 : decode yB 39 = .ok (.astore 5, 2) := by decide +kernel
theorem d41 : decode yB 41 = .ok (.aload_n 0, 1) := by decide +kernel
theorem d42 : decode yB 42 = .ok (.aload 5, 2) := by decide +kernel
theorem d44 : decode yB 44 = .ok (.iload_n 3, 1) := by decide +kernel
theorem d45 : decode yB 45 = .ok (.invokestatic 47, 3) := by decide +kernel
theorem d48 : decode yB 48 = .ok (.putfield 15, 3) := by decide +kernel
theorem d51 : decode yB 51 = .ok (.aload_n 0, 1) := by decide +kernel
theorem d52 : decode yB 52 = .ok (.aload 5, 2) := by decide +kernel
theorem d54 : decode yB 54 = .ok (.putfield 9, 3) := by decide +kernel
theorem d57 : decode yB 57 = .ok (.return_, 1) := by decide +kernel
def site : List Cond := [.fieldLink "java/lang/String" 38 "java/lang/String" "COMPACT_STRINGS" "Z", Cmp3.tab, CodL.tab, .laysFinal "java/lang/String" "java/lang/String" "value" "[B", .fieldLink "java/lang/String" 9 "java/lang/String" "value" "[B", .laysFinal "java/lang/String" "java/lang/String" "coder" "B", .fieldLink "java/lang/String" 15 "java/lang/String" "coder" "B"] ++ objW "java/lang/String" 1 ++ staticW "java/lang/String" 177 Cmp3.yN ++ staticW "java/lang/String" 47 CodL.yN
def tab : Cond := tabOf yN yB 6 none site
def P (a : Addr) (D : Cell) (fV fC : Field) (b : Addr) (A : Cell) (z : Int32) (o len : Nat) (args : Array Value) (s : State) : Prop := args = #[.ref a, .ref b, .int (Int32.ofNat o), .int (Int32.ofNat len), .null] ∧ Blank "java/lang/String" a D s ∧ Found "java/lang/String" "value" "[B" fV s ∧ Found "java/lang/String" "coder" "B" fC s ∧ Ch b A s ∧ StaticIs s "java/lang/String" "COMPACT_STRINGS" "Z" (.int z) ∧ ¬ z = 0 ∧ 0 < len ∧ o + len ≤ A.slots.size ∧ len ≤ 536870912 ∧ ∀ i, i < len → ¬ 255 < cv A (o + i)
def E (a : Addr) (D : Cell) (fV fC : Field) (A : Cell) (o len : Nat) (r : Option Value) (s u : State) : Prop := Got a D fV fC A o len r s u
/-- len > 0, no char of the range above 255: a Latin-1 String of their low bytes -/
theorem law (l : Launch) (a : Addr) (D : Cell) (fV fC : Field) (b : Addr) (A : Cell) (z : Int32) (o len : Nat) : Law l yN 5 4 2 35 yB 6 none site (P a D fV fC b A z o len) (E a D fV fC A o len) [⟨a, fC.slot⟩, ⟨a, fV.slot⟩] 1 len := by
  refine Law.of_walk (plainFor_of_name (by decide +kernel)) (by decide +kernel) (by decide +kernel) (by decide) (fun _ _ h => by rw [h.1]; rfl) (fun _ U U' hal hh h => ⟨h.1, h.2.1.mv hal hh, h.2.2.1.al hal, h.2.2.2.1.al hal, h.2.2.2.2.1.mv hal hh, h.2.2.2.2.2.1.there hal hh, h.2.2.2.2.2.2⟩) (fun r U U' V V' h1 hal h2 h => Got.mv r U U' V V' h1 hal h2 h) ?_
  intro p e s m args below meth c s₁ X0 hexec hbytes hml hret hlk hnm hown hh0 W hP
  obtain ⟨rfl, hB, f1, f2, hA, s1, hz, l0, l1, l2, hp⟩ := hP
  have a31 := hA.1.2.2.2
  have c1 : Steps p.tables e below (s₁.setTop (entryFrame m #[.ref a, .ref b, .int (Int32.ofNat o), .int (Int32.ofNat len), .null] 6)) (s₁.setTop (mkF m 0 #[.val (.ref a), .val (.ref b), .val (.int (Int32.ofNat o)), .val (.int (Int32.ofNat len)), .val .null, .unset] [])) := entry rfl
  have c2 : Steps p.tables e below (s₁.setTop (entryFrame m #[.ref a, .ref b, .int (Int32.ofNat o), .int (Int32.ofNat len), .null] 6)) (s₁.setTop (mkF m 1 #[.val (.ref a), .val (.ref b), .val (.int (Int32.ofNat o)), .val (.int (Int32.ofNat len)), .val .null, .unset] [.ref a])) := c1.trans (by
    refine XS.aloadN X0.here hexec rfl (hb hbytes d0) rfl rfl ?_
    exact Steps.refl _)
  obtain ⟨T3, X3, q3, st3⟩ := X0.oinit hexec hown (wks W (objW "java/lang/String" 1)) (g := (mkF m 1 #[.val (.ref a), .val (.ref b), .val (.int (Int32.ofNat o)), .val (.int (Int32.ofNat len)), .val .null, .unset] [.ref a])) rfl (by rw [hml]; rfl) (rest := []) rfl (hb hbytes d1) (W := 0) (by show 2 * 0 + 0 ≤ _; decide) (Nat.le_of_ble_eq_true rfl) (Nat.le_of_ble_eq_true rfl)
  have hh3 := q3.trans hh0
  have c4 : Steps p.tables e below (s₁.setTop (entryFrame m #[.ref a, .ref b, .int (Int32.ofNat o), .int (Int32.ofNat len), .null] 6)) (T3.setTop (mkF m 27 #[.val (.ref a), .val (.ref b), .val (.int (Int32.ofNat o)), .val (.int (Int32.ofNat len)), .val .null, .unset] [])) := (c2.trans (st3 _ (Steps.refl _))).trans (by
    refine XS.iloadN X3.here hexec rfl (hb hbytes d4) rfl ?_
    refine XS.ifYes X3.here hexec rfl (pc0 := 5) rfl (hb hbytes d5) rfl (i0_ne_t (nz32 (by omega) l0)) (by decide) rfl ?_
    exact Steps.refl _)
  obtain ⟨T5, X5, q5, st5⟩ := X3.sget hexec hown (wk W (.fieldLink "java/lang/String" 38 "java/lang/String" "COMPACT_STRINGS" "Z")) s1 (fun _ _ h => by rw [hh3]; exact h) (g := (mkF m 27 #[.val (.ref a), .val (.ref b), .val (.int (Int32.ofNat o)), .val (.int (Int32.ofNat len)), .val .null, .unset] [])) rfl (hb hbytes d27)
  have hh5 := q5.trans hh3
  have c6 : Steps p.tables e below (s₁.setTop (entryFrame m #[.ref a, .ref b, .int (Int32.ofNat o), .int (Int32.ofNat len), .null] 6)) (T5.setTop (mkF m 30 #[.val (.ref a), .val (.ref b), .val (.int (Int32.ofNat o)), .val (.int (Int32.ofNat len)), .val .null, .unset] [.int z])) := c4.trans (st5 _ (Steps.refl _))
  have c7 : Steps p.tables e below (s₁.setTop (entryFrame m #[.ref a, .ref b, .int (Int32.ofNat o), .int (Int32.ofNat len), .null] 6)) (T5.setTop (mkF m 36 #[.val (.ref a), .val (.ref b), .val (.int (Int32.ofNat o)), .val (.int (Int32.ofNat len)), .val .null, .unset] [.int (Int32.ofNat len), .int (Int32.ofNat o), .ref b])) := c6.trans (by
    refine XS.ifNo X5.here hexec rfl (hb hbytes d30) rfl (i0_eq_f hz) ?_
    refine XS.aloadN X5.here hexec rfl (hb hbytes d33) rfl rfl ?_
    refine XS.iloadN X5.here hexec rfl (hb hbytes d34) rfl ?_
    refine XS.iloadN X5.here hexec rfl (hb hbytes d35) rfl ?_
    exact Steps.refl _)
  obtain ⟨v8, T8, X8, E8, g8⟩ := X5.callS hexec (Cmp3.law l b A o len) hown (wks W (staticW "java/lang/String" 177 Cmp3.yN)) (wk W Cmp3.tab) (W := 0) (Nat.le_of_ble_eq_true rfl) (Nat.le_of_ble_eq_true rfl) (Nat.le_refl _) (by show 0 + len ≤ len; omega) (g := (mkF m 36 #[.val (.ref a), .val (.ref b), .val (.int (Int32.ofNat o)), .val (.int (Int32.ofNat len)), .val .null, .unset] [.int (Int32.ofNat len), .int (Int32.ofNat o), .ref b])) rfl (by rw [hml]; rfl) c7 (argsL := [.ref b, .int (Int32.ofNat o), .int (Int32.ofNat len)]) (rest := []) rfl rfl (by show 2 * 0 + 0 ≤ _; decide) (hb hbytes d36) (⟨rfl, hA.mv X5.warmed.alike hh5, l1, l2, hp⟩)
  obtain ⟨e8, z8⟩ := E8
  obtain ⟨rfl, N, n1, n2, n3, n4, n5, n6⟩ := NewArr.mv _ T5 s _ _ hh5.symm (Vm.Alike.refl _) rfl e8
  rw [hh5] at z8
  have hB1 := hB.keep X8.warmed.alike (n6 _ _ hB.1)
  have hne : s.heap.size ≠ a := (Nat.ne_of_lt (Array.getElem?_eq_some_iff.mp hB.1).1).symm
  have c9 : Steps p.tables e below (s₁.setTop (entryFrame m #[.ref a, .ref b, .int (Int32.ofNat o), .int (Int32.ofNat len), .null] 6)) (T8.setTop (mkF m 39 #[.val (.ref a), .val (.ref b), .val (.int (Int32.ofNat o)), .val (.int (Int32.ofNat len)), .val .null, .unset] [.ref s.heap.size])) := g8
  have c10 : Steps p.tables e below (s₁.setTop (entryFrame m #[.ref a, .ref b, .int (Int32.ofNat o), .int (Int32.ofNat len), .null] 6)) (T8.setTop (mkF m 45 #[.val (.ref a), .val (.ref b), .val (.int (Int32.ofNat o)), .val (.int (Int32.ofNat len)), .val .null, .val (.ref s.heap.size)] [.int (Int32.ofNat N.slots.size), .ref s.heap.size, .ref a])) := by
    have hc : Steps p.tables e below (s₁.setTop (entryFrame m #[.ref a, .ref b, .int (Int32.ofNat o), .int (Int32.ofNat len), .null] 6)) (T8.setTop (mkF m 45 #[.val (.ref a), .val (.ref b), .val (.int (Int32.ofNat o)), .val (.int (Int32.ofNat len)), .val .null, .val (.ref s.heap.size)] [.int (Int32.ofNat len), .ref s.heap.size, .ref a])) := c9.trans (by
      refine XS.astore X8.here hexec rfl (hb hbytes d39) rfl rfl rfl ?_
      refine XS.aloadN X8.here hexec rfl (hb hbytes d41) rfl rfl ?_
      refine XS.aload X8.here hexec rfl (hb hbytes d42) rfl rfl ?_
      refine XS.iloadN X8.here hexec rfl (hb hbytes d44) rfl ?_
      exact Steps.refl _)
    rw [n4]; exact hc
  obtain ⟨v11, T11, X11, E11, g11⟩ := X8.callS hexec (CodL.law l s.heap.size N) hown (wks W (staticW "java/lang/String" 47 CodL.yN)) (wk W CodL.tab) (W := 1) (Nat.le_of_ble_eq_true rfl) (Nat.le_of_ble_eq_true rfl) (Nat.le_refl _) (by show 0 + len + 0 ≤ len; omega) (g := (mkF m 45 #[.val (.ref a), .val (.ref b), .val (.int (Int32.ofNat o)), .val (.int (Int32.ofNat len)), .val .null, .val (.ref s.heap.size)] [.int (Int32.ofNat N.slots.size), .ref s.heap.size, .ref a])) rfl (by rw [hml]; rfl) c10 (argsL := [.ref s.heap.size, .int (Int32.ofNat N.slots.size)]) (rest := [.ref a]) rfl rfl (by show 2 * 0 + (1 + 0) ≤ _; decide) (hb hbytes d45) (⟨rfl, n1⟩)
  obtain ⟨rfl, q11⟩ := E11
  have hB11 := hB1.mv (X8.warmed.alike.symm.trans X11.warmed.alike) q11
  have c12 : Steps p.tables e below (s₁.setTop (entryFrame m #[.ref a, .ref b, .int (Int32.ofNat o), .int (Int32.ofNat len), .null] 6)) (T11.setTop (mkF m 48 #[.val (.ref a), .val (.ref b), .val (.int (Int32.ofNat o)), .val (.int (Int32.ofNat len)), .val .null, .val (.ref s.heap.size)] [.int 0, .ref a])) := g11
  obtain ⟨T13, X13, p13, bl13, sl13, st13⟩ := X11.finit hexec hown (wk W (.fieldLink "java/lang/String" 15 "java/lang/String" "coder" "B")) (Or.inr ⟨_, (wk W (.laysFinal "java/lang/String" "java/lang/String" "coder" "B"))⟩) (Or.inl ⟨rfl, hnm⟩) f2 (Or.inl rfl) hB11 (t := .byte) (by decide +kernel) rfl (g := (mkF m 48 #[.val (.ref a), .val (.ref b), .val (.int (Int32.ofNat o)), .val (.int (Int32.ofNat len)), .val .null, .val (.ref s.heap.size)] [.int 0, .ref a])) rfl (rest := []) rfl (hb hbytes d48)
  have c14 : Steps p.tables e below (s₁.setTop (entryFrame m #[.ref a, .ref b, .int (Int32.ofNat o), .int (Int32.ofNat len), .null] 6)) (T13.setTop (mkF m 54 #[.val (.ref a), .val (.ref b), .val (.int (Int32.ofNat o)), .val (.int (Int32.ofNat len)), .val .null, .val (.ref s.heap.size)] [.ref s.heap.size, .ref a])) := (c12.trans (st13 _ (Steps.refl _))).trans (by
    refine XS.aloadN X13.here hexec rfl (hb hbytes d51) rfl rfl ?_
    refine XS.aload X13.here hexec rfl (hb hbytes d52) rfl rfl ?_
    exact Steps.refl _)
  obtain ⟨T15, X15, p15, bl15, sl15, st15⟩ := X13.finit hexec hown (wk W (.fieldLink "java/lang/String" 9 "java/lang/String" "value" "[B")) (Or.inr ⟨_, (wk W (.laysFinal "java/lang/String" "java/lang/String" "value" "[B"))⟩) (Or.inl ⟨rfl, hnm⟩) f1 (Or.inl rfl) bl13 (t := (.array .byte)) (by decide +kernel) rfl (g := (mkF m 54 #[.val (.ref a), .val (.ref b), .val (.int (Int32.ofNat o)), .val (.int (Int32.ofNat len)), .val .null, .val (.ref s.heap.size)] [.ref s.heap.size, .ref a])) rfl (rest := []) rfl (hb hbytes d54)
  have c16 : Steps p.tables e below (s₁.setTop (entryFrame m #[.ref a, .ref b, .int (Int32.ofNat o), .int (Int32.ofNat len), .null] 6)) (T15.setTop (mkF m 57 #[.val (.ref a), .val (.ref b), .val (.int (Int32.ofNat o)), .val (.int (Int32.ofNat len)), .val .null, .val (.ref s.heap.size)] [])) := c14.trans (st15 _ (Steps.refl _))
  have ap := apart (Or.inr ⟨_, (wk W (.laysFinal "java/lang/String" "java/lang/String" "value" "[B"))⟩) (Or.inr ⟨_, (wk W (.laysFinal "java/lang/String" "java/lang/String" "coder" "B"))⟩) f1 f2 (t₁ := .array .byte) (t₂ := .byte) (by decide +kernel) (by decide +kernel) (by decide)
  have al := X8.warmed.alike.symm.trans X15.warmed.alike
  have n7 : T11.heap[s.heap.size]? = some N := by rw [q11]; exact n1.1
  exact ⟨T15, none, _, _, _, X15, by simp, rfl, by omega, (fun _ => rfl), ⟨rfl, _, N, bl15, ((Same.refl D _).set _ (by simp)).set _ (by simp), sl15, (Cell.slots_setSlot_ne _ ap).trans sl13, n1.keep al (p15.other hne (p13.other hne n7)), n2, by rw [al.findClass]; exact n3, n4, n5, fun y c h1 h2 => p15.other h1 (p13.other h1 (by rw [q11]; exact n6 y c h2)), by rw [p15.2.2, p13.2.2, q11]; exact z8⟩, fun fs hl => c16.trans (X15.returnOut hexec hret (hb hbytes d57) hl)⟩
end New4
namespace New1
def yN : MethodName := ⟨"java/lang/String", "<init>", "([C)V"⟩
abbrev yB : ByteArray := jdk_42_method_3_code
theorem d0 : decode yB 0 = .ok (.aload_n 0, 1) := by decide +kernel
theorem d1 : decode yB 1 = .ok (.aload_n 1, 1) := by decide +kernel
theorem d2 : decode yB 2 = .ok (.iconst 0, 1) := by decide +kernel
theorem d3 : decode yB 3 = .ok (.aload_n 1, 1) := by decide +kernel
theorem d4 : decode yB 4 = .ok (.arraylength, 1) := by decide +kernel
theorem d5 : decode yB 5 = .ok (.aconst_null, 1) := by decide +kernel
theorem d6 : decode yB 6 = .ok (.invokespecial 27, 3) := by decide +kernel
theorem d9 : decode yB 9 = .ok (.return_, 1) := by decide +kernel
def site : List Cond := [New4.tab] ++ initW "java/lang/String" 27 New4.yN
def tab : Cond := tabOf yN yB 2 none site
def P (a : Addr) (D : Cell) (fV fC : Field) (b : Addr) (A : Cell) (z : Int32) (args : Array Value) (s : State) : Prop := args = #[.ref a, .ref b] ∧ Blank "java/lang/String" a D s ∧ Found "java/lang/String" "value" "[B" fV s ∧ Found "java/lang/String" "coder" "B" fC s ∧ Ch b A s ∧ StaticIs s "java/lang/String" "COMPACT_STRINGS" "Z" (.int z) ∧ ¬ z = 0 ∧ 0 < A.slots.size ∧ A.slots.size ≤ 536870912 ∧ ∀ i, i < A.slots.size → ¬ 255 < cv A i
def E (a : Addr) (D : Cell) (fV fC : Field) (A : Cell) (r : Option Value) (s u : State) : Prop := Got a D fV fC A 0 A.slots.size r s u
/-- new String(chars), not empty, no char above 255: a Latin-1 String of their low bytes -/
theorem law (l : Launch) (a : Addr) (D : Cell) (fV fC : Field) (b : Addr) (A : Cell) (z : Int32) : Law l yN 2 1 3 52 yB 2 none site (P a D fV fC b A z) (E a D fV fC A) [⟨a, fC.slot⟩, ⟨a, fV.slot⟩] 1 A.slots.size := by
  refine Law.of_walk (plainFor_of_name (by decide +kernel)) (by decide +kernel) (by decide +kernel) (by decide) (fun _ _ h => by rw [h.1]; rfl) (fun _ U U' hal hh h => ⟨h.1, h.2.1.mv hal hh, h.2.2.1.al hal, h.2.2.2.1.al hal, h.2.2.2.2.1.mv hal hh, h.2.2.2.2.2.1.there hal hh, h.2.2.2.2.2.2⟩) (fun r U U' V V' h1 hal h2 h => Got.mv r U U' V V' h1 hal h2 h) ?_
  intro p e s m args below meth c s₁ X0 hexec hbytes hml hret hlk hnm hown hh0 W hP
  obtain ⟨rfl, hB, f1, f2, hA, s1, hz, l0, l2, hp⟩ := hP
  have c1 : Steps p.tables e below (s₁.setTop (entryFrame m #[.ref a, .ref b] 2)) (s₁.setTop (mkF m 0 #[.val (.ref a), .val (.ref b)] [])) := entry rfl
  have c2 : Steps p.tables e below (s₁.setTop (entryFrame m #[.ref a, .ref b] 2)) (s₁.setTop (mkF m 6 #[.val (.ref a), .val (.ref b)] [.null, .int (Int32.ofNat A.slots.size), .int 0, .ref b, .ref a])) := c1.trans (by
    refine XS.aloadN X0.here hexec rfl (hb hbytes d0) rfl rfl ?_
    refine XS.aloadN X0.here hexec rfl (hb hbytes d1) rfl rfl ?_
    refine iconstV X0.here hexec rfl 0 (hb hbytes d2) (by decide) ?_
    refine XS.aloadN X0.here hexec rfl (hb hbytes d3) rfl rfl ?_
    refine X0.alen hexec (hA.1.mv X0.warmed.alike hh0) rfl rfl (hb hbytes d4) ?_
    refine XS.aconstNull X0.here hexec rfl (hb hbytes d5) ?_
    exact Steps.refl _)
  obtain ⟨v3, T3, X3, E3, g3⟩ := X0.callN hexec (New4.law l a D fV fC b A z 0 A.slots.size) rfl hown (wks W (initW "java/lang/String" 27 New4.yN)) (W New4.tab (by simp only [site, List.mem_cons, List.mem_append, true_or, or_true])) (W := 0) (Nat.le_of_ble_eq_true rfl) (Nat.le_of_ble_eq_true rfl) (Nat.le_refl _) (by show 0 + A.slots.size ≤ A.slots.size; omega) (g := (mkF m 6 #[.val (.ref a), .val (.ref b)] [.null, .int (Int32.ofNat A.slots.size), .int (Int32.ofNat 0), .ref b, .ref a])) rfl (by rw [hml]; rfl) c2 (argsL := [.ref b, .int (Int32.ofNat 0), .int (Int32.ofNat A.slots.size), .null]) (rest := []) rfl rfl (by show 2 * 0 + 0 ≤ _; decide) (hb hbytes d6) (⟨rfl, hB.mv X0.warmed.alike hh0, f1.al X0.warmed.alike, f2.al X0.warmed.alike, hA.mv X0.warmed.alike hh0, s1.there X0.warmed.alike hh0, hz, l0, by omega, l2, fun i hi => by rw [Nat.zero_add]; exact hp i hi⟩)
  have e0 := Got.mv _ s₁ s _ _ hh0.symm (Vm.Alike.refl _) rfl E3
  obtain rfl := e0.1
  have c4 : Steps p.tables e below (s₁.setTop (entryFrame m #[.ref a, .ref b] 2)) (T3.setTop (mkF m 9 #[.val (.ref a), .val (.ref b)] [])) := g3
  exact ⟨T3, none, _, _, _, X3, by simp, rfl, by omega, (fun _ => rfl), e0, fun fs hl => c4.trans (X3.returnOut hexec hret (hb hbytes d9) hl)⟩
theorem pays {l : Launch} {R : Room} {p : Program} {e : Env} {below : List Frame} {s : State} {sargs : Array Value} {len W : Nat} (a : Addr) (D : Cell) (fV fC : Field) (b : Addr) (A : Cell) (z : Int32) (htab : tab.before sargs s = true) (hfr : 4 ≤ R.frames) (hlo : W + 65 ≤ R.locals) :
    Back l R p e below s sargs yN len W (fun A₁ a₁ => A₁.cells + 1 ≤ R.cells ∧ A₁.slots + A.slots.size ≤ R.slots ∧ P a D fV fC b A z a₁ A₁.U) (fun A₁ _ v₁ B₁ => E a D fV fC A v₁ A₁.U B₁.U ∧ B₁.locs = A₁.locs ++ [⟨a, fC.slot⟩, ⟨a, fV.slot⟩] ∧ B₁.cells = A₁.cells + 1 ∧ B₁.slots = A₁.slots + A.slots.size) :=
  (law l a D fV fC b A z).pays htab hfr (by omega)
end New1
/-- the byte, read back as charAt reads it, is the char -/
theorem lo8_mask {x : Int32} (h0 : ¬ x < 0) (h1 : ¬ 255 < x) : lo8 x &&& 255 = x := by
  have t : ∀ k : Fin 256, lo8 (Int32.ofNat k.val) &&& 255 = Int32.ofNat k.val := by decide +kernel
  rw [Int32.lt_iff_toInt_lt] at h0 h1
  have e0 : (0 : Int32).toInt = 0 := rfl
  have e1 : (255 : Int32).toInt = 255 := rfl
  obtain ⟨k, hk⟩ : ∃ k : Nat, x.toInt = k := ⟨x.toInt.toNat, by omega⟩
  have hx : x = Int32.ofNat k := Int32.toInt_inj.mp (by rw [hk, Int32.toInt_ofNat_small (by omega)])
  rw [hx]
  exact t ⟨k, by omega⟩
end StrChars
namespace StrChars.Road
open Jvm Sem ClassFile Op Lib Jvm.Stand Jvm.Free Jvm.Free.XT
open Jvm.Lib.Cold (StaticIs)
abbrev ST : String := "java/lang/String"
/-- every table word that New1's law asks, flat -/
abbrev words : List Jvm.Cond := [.code New1.yN New1.yB 2 none, .initialized ST, .methodLink ST 27 New4.yN, .instanceMethod New4.yN,
  .code New4.yN New4.yB 6 none, .fieldLink ST 38 ST "COMPACT_STRINGS" "Z", .laysFinal ST ST "value" "[B", .fieldLink ST 9 ST "value" "[B", .laysFinal ST ST "coder" "B", .fieldLink ST 15 ST "coder" "B",
  .methodLink ST 1 Lib.objectInit, .instanceMethod Lib.objectInit, .code Lib.objectInit ⟨#[0xb1]⟩ 1 none, .methodLink ST 177 Cmp3.yN, .static Cmp3.yN, .methodLink ST 47 CodL.yN, .static CodL.yN,
  .code Cmp3.yN Cmp3.yB 6 (some (.array .byte)), .initialized U16, .arrayClass .byte, .methodLink U16 115 Cmp5.yN, .static Cmp5.yN, .code Cmp5.yN Cmp5.yB 7 (some .int), .code CodL.yN CodL.yB 2 (some .byte)]
theorem tab_of {a : Array Value} {s : State} (h : ∀ w ∈ words, w.before a s = true) : New1.tab.before a s = true := by
  have h5 : Cmp5.tab.before a s = true := unparts (wk h (.code Cmp5.yN Cmp5.yB 7 (some .int))) (wks h (.initialized Cmp5.yN.cls :: Cmp5.site))
  have hc : CodL.tab.before a s = true := unparts (wk h (.code CodL.yN CodL.yB 2 (some .byte))) (wks h (.initialized CodL.yN.cls :: CodL.site))
  have q5 : ∀ w ∈ Cmp5.tab :: words, w.before a s = true := fun w hw => (List.mem_cons.mp hw).elim (fun e => e ▸ h5) (h w)
  have h3 : Cmp3.tab.before a s = true := unparts (wk q5 (.code Cmp3.yN Cmp3.yB 6 (some (.array .byte)))) (wks q5 (.initialized Cmp3.yN.cls :: Cmp3.site))
  have q3 : ∀ w ∈ Cmp3.tab :: CodL.tab :: words, w.before a s = true := fun w hw => (List.mem_cons.mp hw).elim (fun e => e ▸ h3) fun hw => (List.mem_cons.mp hw).elim (fun e => e ▸ hc) (h w)
  have h4 : New4.tab.before a s = true := unparts (wk q3 (.code New4.yN New4.yB 6 none)) (wks q3 (.initialized New4.yN.cls :: New4.site))
  have q4 : ∀ w ∈ New4.tab :: words, w.before a s = true := fun w hw => (List.mem_cons.mp hw).elim (fun e => e ▸ h4) (h w)
  exact unparts (wk q4 (.code New1.yN New1.yB 2 none)) (wks q4 (.initialized New1.yN.cls :: New1.site))
/-- the words ride from the start Z to the walk's own state -/
theorem moved {Z s : State} {a0 args : Array Value} (hZ : Z.Warmed39 s.vm) (hw : ∀ d ∈ words, d.before a0 Z = true) : ∀ d ∈ words, d.before args s = true := fun d hd => by
  have q := hw d hd
  have t : ∀ d ∈ words, d = .arrayClass .byte ∨ (d.onTables && d.keepsFace) = true := by decide +kernel
  rcases t d hd with rfl | t
  · exact RoadKit.mvA hZ q
  · exact RoadKit.mv hZ q t
/-- WHAT COMES BACK, over the tables of the start Z: h the heap at the call, h' behind it -/
def Q (Z : State) (x : Addr) (A : Cell) (h : Heap) (v : Option Value) (h' : Heap) (L : List Loc) : Prop := v = none ∧ (∀ y ∈ L, y.base = x) ∧ RoadKit.Keep h h' [x] ∧ h'.size = h.size + 1 ∧ RoadKit.Exa Z h' x ST ∧ RoadKit.Fld Z h' x ST "value" "[B" (.ref h.size) ∧ RoadKit.Fld Z h' x ST "coder" "B" (.int 0) ∧
  (∃ V : Cell, RoadKit.Arr Z h' h.size V .byte ∧ V.vm = .none ∧ Z.vm.findClass "[B" = some V.cls ∧ V.slots.size = A.slots.size ∧ ∀ j, j < A.slots.size → V.slots[j]? = some (.int (lo8 (cv A j)))) ∧
  ∀ (O n d : String) (w : Value), RoadKit.Fld Z h x O n d w → RoadKit.slotOf Z O n d ≠ RoadKit.slotOf Z ST "value" "[B" → RoadKit.slotOf Z O n d ≠ RoadKit.slotOf Z ST "coder" "B" → RoadKit.Fld Z h' x O n d w
/-- **new String(chars) AT A CALL, IN THE ROAD'S FORM**: for specialBack behind newO: x the fresh String, b the char[] with the cell A -/
theorem back {p : Program} {l : Launch} {e : Env} {R : Room} {s : State} {args : Array Value} {below : List Frame} {len W : Nat} {Z : State} {a0 : Array Value} {h : Heap} (hZ : Z.Warmed39 s.vm) (hw : ∀ d ∈ words, d.before a0 Z = true) {kI : Nat} (wi : (Jvm.Cond.instantiable ST kI).before a0 Z = true)
    {x b : Addr} {A : Cell} {z : Int32} {v0 c0 : Value} (E : RoadKit.Exa Z h x ST) (V : RoadKit.Fld Z h x ST "value" "[B" v0) (C : RoadKit.Fld Z h x ST "coder" "B" c0) (K : RoadKit.Arr Z h b A .char) (hty : Typed .char A) (S : RoadKit.Sta Z h ST "COMPACT_STRINGS" "Z" (.int z)) (hz : ¬ z = 0)
    (l0 : 0 < A.slots.size) (l2 : A.slots.size ≤ 536870912) (hp : ∀ i, i < A.slots.size → ¬ 255 < cv A i) (hfr : 4 ≤ R.frames) (hlo : W + 65 ≤ R.locals) :
    Back l R p e below s args New1.yN len W (fun P a => a = #[.ref x, .ref b] ∧ P.U.heap = h ∧ P.cells + 1 ≤ R.cells ∧ P.slots + A.slots.size ≤ R.slots)
      (fun P _ v B => ∃ L, Q Z x A h v B.U.heap L ∧ B.locs = P.locs ++ L ∧ B.cells = P.cells + 1 ∧ B.slots = P.slots + A.slots.size) := by
  intro m meth c P g ig mk a X hg hsize hdg hW hn hp'
  obtain ⟨rfl, rfl, r1, r2⟩ := hp'
  have al : Z.vm.Alike P.U.vm := hZ.alike.trans X.warmed.alike
  obtain ⟨D, cfV, kV, iV, fV, hD, gV, stV, knV, obV, asV, slV⟩ := id V
  obtain ⟨D', cfC, kC, iC, fC, hD', gC, stC, -, -, asC, slC⟩ := id C
  cases hD.symm.trans hD'
  obtain ⟨D2, kD, e1, e2, e3, e4, e5⟩ := id E
  cases hD.symm.trans e1
  obtain ⟨c2, k2, i1, i2, i3, -⟩ := Cond.instantiable_spec wi
  cases e2.symm.trans i1
  cases e3.symm.trans i2
  obtain ⟨kU, u1, u2⟩ := al.2.2 _ _ e3
  have hB : Blank ST x D P.U := ⟨hD, ⟨knV, fun q hq => by rw [hq] at obV; cases obV⟩, by rw [al.findClass]; exact e2, kU, u1, by rw [u2]; exact i3, by rw [u2]; exact e5 i3⟩
  have F1 : Found ST "value" "[B" fV P.U := ⟨SBG.found_only al ⟨cfV, kV, iV, gV⟩, stV⟩
  have F2 : Found ST "coder" "B" fC P.U := ⟨SBG.found_only al ⟨cfC, kC, iC, gC⟩, stC⟩
  have hA : Ch b A P.U := ⟨⟨K.1, State.isArrayOf_alike al K.2.1, K.2.2, by omega⟩, hty⟩
  have hS : StaticIs P.U ST "COMPACT_STRINGS" "Z" (.int z) := by
    obtain ⟨cfS, iS, kS, fS, st, cS, t1, t2, t3, t4, t5, t6, t7⟩ := S
    exact StaticIs.there (s := { Z with heap := P.U.heap }) ⟨cfS, iS, kS, fS, st, cS, t1, t2, t3, t4, t5, (fun q => by rw [q] at t6; cases t6), t7⟩ al rfl
  obtain ⟨v, B, X', ⟨⟨hv, E', V', q1, q2, q3, q4, q5, q6, q7, q8, q9, q10, q11⟩, hl, hc, hs⟩, st⟩ := New1.pays x D fV fC b A z (tab_of (moved hZ hw)) hfr hlo m meth c P g ig mk _ X hg hsize hdg hW hn ⟨r1, r2, rfl, hB, F1, F2, hA, hS, hz, l0, l2, hp⟩
  have al' : Z.vm.Alike B.U.vm := hZ.alike.trans X'.warmed.alike
  have hsz : E'.slots.size = D.slots.size := by
    obtain ⟨-, -, -, kB, w1, w2, w3⟩ := q1
    obtain ⟨kB', y1, y2⟩ := al'.2.2 _ _ e3
    rw [q2.2.1] at w1
    cases w1.symm.trans y1
    rw [w3, e5 i3, y2]
  refine ⟨v, B, X', ⟨_, ⟨hv, ?_, ⟨by omega, fun y cy hy hn' => q10 y cy (by simpa using hn') hy, fun y cy hy => ?_⟩, q11, ⟨E', _, q1.1, by rw [q2.2.1]; exact e2, by rw [q2.2.1]; exact e3, by rw [q2.1]; exact obV, fun _ => by rw [hsz]; exact e5 i3⟩,
    ⟨E', cfV, kV, iV, fV, q1.1, gV, stV, by rw [q2.1]; exact knV, by rw [q2.1]; exact obV, by rw [q2.2.1]; exact asV, q3⟩, ⟨E', cfC, kC, iC, fC, q1.1, gC, stC, by rw [q2.1]; exact knV, by rw [q2.1]; exact obV, by rw [q2.2.1]; exact asC, q4⟩,
    ⟨V', ⟨q5.1, State.isArrayOf_alike al'.symm q5.2.1, q5.2.2.1⟩, q6, by rw [← al'.findClass]; exact q7, q8, fun j hj => by have := q9 j hj; rwa [Nat.zero_add] at this⟩, fun O n d w F n1 n2 => ?_⟩, hl, hc, hs⟩, st⟩
  · intro y hy
    simp only [List.mem_cons, List.not_mem_nil, or_false] at hy
    rcases hy with rfl | rfl <;> rfl
  · by_cases q : y = x
    · subst q
      cases hD.symm.trans hy
      exact ⟨E', q1.1, q2.2.1, q2.1, hsz⟩
    · exact ⟨cy, q10 y cy q hy, rfl, rfl, rfl⟩
  · obtain ⟨D3, cf, k, i, f, g1, g2, g3, g4, g5, g6, g7⟩ := F
    cases hD.symm.trans g1
    simp only [RoadKit.slotOf, g2, gV, gC, Option.map_some, Option.getD_some] at n1 n2
    exact ⟨E', cf, k, i, f, q1.1, g2, g3, by rw [q2.1]; exact g4, by rw [q2.1]; exact g5, by rw [q2.2.1]; exact g6, by rw [q2.2.2 f.slot (by simp [n1, n2])]; exact g7⟩
end StrChars.Road
namespace StrChars.Road
open Jvm Sem ClassFile Op Lib Jvm.Stand Jvm.Free Jvm.Free.XT
/-- WHAT COMES BACK, the byte[] as a list of values -/
def QA (Z : State) (x : Addr) (zn : Int32) (cs : List Int32) (h : Heap) (v : Option Value) (h' : Heap) (L : List Loc) : Prop := v = none ∧ (∀ y ∈ L, y.base = x) ∧ RoadKit.Keep h h' [x] ∧ h'.size = h.size + 1 ∧ RoadKit.Exa Z h' x ST ∧ RoadKit.Fld Z h' x ST "value" "[B" (.ref h.size) ∧ RoadKit.Fld Z h' x ST "coder" "B" (.int 0) ∧
  (∃ kb, Z.vm.findClass "[B" = some kb ∧ RoadKit.Arv Z h' h.size kb .byte zn (cs.map fun c => .int (lo8 c)) (.int 0)) ∧
  ∀ (O n d : String) (w : Value), RoadKit.Fld Z h x O n d w → RoadKit.slotOf Z O n d ≠ RoadKit.slotOf Z ST "value" "[B" → RoadKit.slotOf Z O n d ≠ RoadKit.slotOf Z ST "coder" "B" → RoadKit.Fld Z h' x O n d w
/-- **new String(chars) AT A CALL, THE ARRAYS AS LISTS**: the char[] at b holds cs, not empty, no char above 255 -/
theorem backArv {p : Program} {l : Launch} {e : Env} {R : Room} {s : State} {args : Array Value} {below : List Frame} {len W : Nat} {Z : State} {a0 : Array Value} {h : Heap} (hZ : Z.Warmed39 s.vm) (hw : ∀ d ∈ words, d.before a0 Z = true) {kI : Nat} (wi : (Jvm.Cond.instantiable ST kI).before a0 Z = true)
    {x b : Addr} {k : ClassId} {zn z : Int32} {cs : List Int32} {dv v0 c0 : Value} (E : RoadKit.Exa Z h x ST) (V : RoadKit.Fld Z h x ST "value" "[B" v0) (C : RoadKit.Fld Z h x ST "coder" "B" c0) (K : RoadKit.Arv Z h b k .char zn (cs.map Value.int) dv) (S : RoadKit.Sta Z h ST "COMPACT_STRINGS" "Z" (.int z)) (hz : ¬ z = 0)
    (hlen : zn.toNatClampNeg = cs.length) (h0 : 0 < cs.length) (hbig : cs.length ≤ 536870912) (hall : ∀ c ∈ cs, ¬ 255 < c) (hfr : 4 ≤ R.frames) (hlo : W + 65 ≤ R.locals) :
    Back l R p e below s args New1.yN len W (fun P a => a = #[.ref x, .ref b] ∧ P.U.heap = h ∧ P.cells + 1 ≤ R.cells ∧ P.slots + cs.length ≤ R.slots)
      (fun P _ v B => ∃ L, QA Z x zn cs h v B.U.heap L ∧ B.locs = P.locs ++ L ∧ B.cells = P.cells + 1 ∧ B.slots = P.slots + cs.length) := by
  obtain ⟨A, K1, K2, K3, K4, K5, K6⟩ := K
  have e : A.slots.size = cs.length := K3.trans hlen
  have hat : ∀ (i : Nat) (hi : i < cs.length), A.slots[i]? = some (.int cs[i]) := fun i hi => by rw [K5 i (by omega)]; simp [List.getD_eq_getElem?_getD, hi]
  have hcv : ∀ (i : Nat) (hi : i < cs.length), cv A i = cs[i] := fun i hi => by unfold cv; rw [hat i hi]
  have hty : Typed .char A := fun i v hv => by
    have hi : i < A.slots.size := (Array.getElem?_eq_some_iff.mp hv).1
    have q := K5 i hi
    rw [hv] at q
    rw [Option.some.inj q]
    exact K6 i hi
  refine Back.mono (back hZ hw wi E V C K1 hty S hz (by omega) (by omega) (fun i hi => by rw [hcv i (by omega)]; exact hall _ (List.getElem_mem _)) hfr hlo) (fun P a hp => ⟨hp.1, hp.2.1, hp.2.2.1, by rw [e]; exact hp.2.2.2⟩) (fun P a v B hp hq => ?_)
  obtain ⟨L, ⟨q1, q2, q3, q4, q5, q6, q7, ⟨V', v1, v2, v3, v4, v5⟩, q9⟩, hl, hc, hs⟩ := hq
  refine ⟨L, ⟨q1, q2, q3, q4, q5, q6, q7, ⟨V'.cls, v3, V', v1, rfl, by rw [v4, e, hlen], K4, fun i hi => ?_, fun i hi => ?_⟩, q9⟩, hl, hc, by rw [hs, e]⟩
  · have hi' : i < cs.length := by omega
    rw [v5 i (by omega), hcv i hi']; simp [List.getD_eq_getElem?_getD, hi']
  · have hi' : i < cs.length := by omega
    simp only [List.getD_eq_getElem?_getD, List.getElem?_map, List.getElem?_eq_getElem hi', Option.map_some, Option.getD_some]
    exact fits_lo8 _
end StrChars.Road
namespace StrChars.Road
open Jvm Sem ClassFile Op Lib Jvm.Stand Jvm.Free Jvm.Free.XT
/-- WHAT COMES BACK, in the writer's own shape -/
def QV (Z : State) (x : Addr) (N : Int32) (bs : List Int32) (h : Heap) (n0 : Nat) (v : Option Value) (h' : Heap) (L : List Loc) : Prop := v = none ∧ RoadKit.Fr n0 L ∧ RoadKit.Keep h h' [x] ∧ RoadKit.Exa Z h' x ST ∧ RoadKit.Fld Z h' x ST "coder" "B" (.int 0) ∧
  ∃ (t : Addr) (kb : ClassId), n0 ≤ t ∧ h.size ≤ t ∧ ¬ t = x ∧ RoadKit.Fld Z h' x ST "value" "[B" (.ref t) ∧ RoadKit.Arv Z h' t kb .byte N (bs.map Value.int) (.int 0)
/-- **new String(chars) AT A CALL, FOR THE WRITER**: a char[] of n known ints, each 0 to 255 -/
theorem backV {p : Program} {l : Launch} {e : Env} {R : Room} {s : State} {args : Array Value} {below : List Frame} {len W : Nat} {Z : State} {a0 : Array Value} {h : Heap} (hZ : Z.Warmed39 s.vm) (hw : ∀ d ∈ words, d.before a0 Z = true) {kI : Nat} (wi : (Jvm.Cond.instantiable ST kI).before a0 Z = true)
    {x b : Addr} {kC : ClassId} {cs bs : List Int32} {d v0 c0 : Value} {z N : Int32} {n n0 : Nat} (hx0 : n0 ≤ x) (hh0 : n0 ≤ h.size) (E : RoadKit.Exa Z h x ST) (V : RoadKit.Fld Z h x ST "value" "[B" v0) (C : RoadKit.Fld Z h x ST "coder" "B" c0) (K : RoadKit.Arv Z h b kC .char N (cs.map Value.int) d) (S : RoadKit.Sta Z h ST "COMPACT_STRINGS" "Z" (.int z)) (hz : ¬ z = 0)
    (hn : cs.length = n) (hN : N = Int32.ofNat n) (l0 : 0 < n) (l2 : n ≤ 4000) (hp : ∀ c ∈ cs, ¬ c < 0 ∧ ¬ (255 : Int32) < c) (hb : bs = cs.map (fun c => c.toInt8.toInt32)) (hfr : 4 ≤ R.frames) (hlo : W + 65 ≤ R.locals) :
    Back l R p e below s args (⟨"java/lang/String", "<init>", "([C)V"⟩ : MethodName) len W (fun P a => a = #[.ref x, .ref b] ∧ P.U.heap = h ∧ P.cells + 1 ≤ R.cells ∧ P.slots + n ≤ R.slots)
      (fun P _ v B => ∃ L, QV Z x N bs h n0 v B.U.heap L ∧ B.locs = P.locs ++ L ∧ B.cells = P.cells + 1 ∧ B.slots = P.slots + n) := by
  subst hn hN hb
  refine Back.mono (backArv hZ hw wi E V C K S hz (n32 (by omega)) l0 (by omega) (fun c hc => (hp c hc).2) hfr hlo) (fun P a hp => hp) (fun P a v B hp hq => ?_)
  obtain ⟨L, ⟨q1, q2, q3, q4, q5, q6, q7, ⟨kb, v1, v2⟩, q9⟩, hl, hc, hs⟩ := hq
  exact ⟨L, ⟨q1, fun y hy => by rw [q2 y hy]; exact hx0, q3, q5, q7, h.size, kb, hh0, Nat.le_refl _, Nat.ne_of_gt E.lt, q6, by rw [List.map_map]; exact v2⟩, hl, hc, hs⟩
end StrChars.Road
namespace StrChars
open Jvm Sem ClassFile Op Lib Jvm.Stand Jvm.Free.XT Jvm.Free.ALB Jvm.Free.JM Jvm.Free
open Jvm.Lib.Cold (StaticIs)
def hi8 (x : Int32) : Int32 := lo8 (x >>> ((8 : Int32) &&& 31))
/-- what StringUTF16.getChar makes of two bytes -/
def pairCh (u v : Int32) : Int32 := (((u &&& 255) <<< ((0 : Int32) &&& 31)) ||| ((v &&& 255) <<< ((8 : Int32) &&& 31))).toUInt32.toUInt16.toUInt32.toInt32
theorem shr0 (c : Int32) : c >>> ((0 : Int32) &&& 31) = c := by
  have e : ((0 : Int32) &&& 31) = 0 := by decide
  rw [e]
  apply Int32.toBitVec_inj.mp
  rw [Int32.toBitVec_shiftRight]
  have e1 : ((0 : Int32).toBitVec.smod 32) = 0#32 := by decide
  rw [e1, BitVec.sshiftRight_eq']
  exact BitVec.sshiftRight_zero
theorem lo8_and (x : Int32) : (lo8 x &&& 255).toBitVec.toNat = x.toBitVec.toNat % 256 := by
  have h : (lo8 x).toBitVec = (x.toBitVec.signExtend 8).signExtend 32 := by rw [lo8, Int8.toBitVec_toInt32, Int32.toBitVec_toInt8]
  rw [Int32.toBitVec_and, BitVec.toNat_and, h]
  have e : ((x.toBitVec.signExtend 8).signExtend 32).toNat % 256 = x.toBitVec.toNat % 256 := by
    rw [BitVec.toNat_signExtend]
    have hlt := x.toBitVec.isLt
    simp only [BitVec.toNat_setWidth, BitVec.toNat_signExtend]
    split <;> split <;> omega
  rw [← e]
  exact Nat.and_two_pow_sub_one_eq_mod _ 8
theorem pair_says {c : Int32} (h0 : ¬ c < 0) (h1 : ¬ 65535 < c) : pairCh (lo8 c) (hi8 c) = c := by
  rw [Int32.lt_iff_toInt_lt] at h0 h1
  have e0 : (0 : Int32).toInt = 0 := rfl
  have e1 : (65535 : Int32).toInt = 65535 := rfl
  have hc : c.toInt = c.toBitVec.toNat := by
    have := c.toBitVec.isLt
    have e : c.toInt = c.toBitVec.toInt := rfl
    rw [e] at h0 h1
    rw [e]
    rw [BitVec.toInt_eq_toNat_cond] at h0 h1 ⊢
    split at h0 <;> split <;> omega
  have hn : c.toBitVec.toNat < 65536 := by omega
  have a1 := lo8_and c
  have a2 : (hi8 c &&& 255).toBitVec.toNat = c.toBitVec.toNat / 256 := by
    rw [hi8, lo8_and]
    have e : ((8 : Int32) &&& 31) = 8 := by decide
    rw [e, Int32.toBitVec_shiftRight]
    have e2 : ((8 : Int32).toBitVec.smod 32) = 8#32 := by decide
    rw [e2, BitVec.sshiftRight_eq', BitVec.toNat_sshiftRight_of_msb_false (by rw [BitVec.msb_eq_false_iff_two_mul_lt]; omega)]
    show c.toBitVec.toNat >>> 8 % 256 = _
    rw [Nat.shiftRight_eq_div_pow]
    omega
  unfold pairCh
  apply Int32.toBitVec_inj.mp
  apply BitVec.eq_of_toNat_eq
  have f0 : ((0 : Int32) &&& 31) = 0 := by decide
  have f8 : ((8 : Int32) &&& 31) = 8 := by decide
  rw [f0, f8]
  have g : (((lo8 c &&& 255) <<< (0 : Int32)) ||| ((hi8 c &&& 255) <<< (8 : Int32))).toBitVec.toNat = c.toBitVec.toNat := by
    rw [Int32.toBitVec_or, Int32.toBitVec_shiftLeft, Int32.toBitVec_shiftLeft]
    have s0 : ((0 : Int32).toBitVec.smod 32) = 0#32 := by decide
    have s8 : ((8 : Int32).toBitVec.smod 32) = 8#32 := by decide
    rw [s0, s8, BitVec.toNat_or]
    simp only [BitVec.shiftLeft_eq', BitVec.toNat_shiftLeft, a1, a2]
    show (c.toBitVec.toNat % 256) <<< 0 % 2 ^ 32 ||| (c.toBitVec.toNat / 256) <<< 8 % 2 ^ 32 = _
    rw [Nat.shiftLeft_zero, Nat.mod_eq_of_lt (show c.toBitVec.toNat % 256 < 2 ^ 32 by omega), Nat.mod_eq_of_lt (show (c.toBitVec.toNat / 256) <<< 8 < 2 ^ 32 by rw [Nat.shiftLeft_eq]; omega), Nat.or_comm, ← Nat.shiftLeft_add_eq_or_of_lt (by omega), Nat.shiftLeft_eq]
    omega
  show BitVec.toNat (((((lo8 c &&& 255) <<< (0 : Int32)) ||| ((hi8 c &&& 255) <<< (8 : Int32))).toBitVec.setWidth 16).setWidth 32) = _
  rw [BitVec.toNat_setWidth, BitVec.toNat_setWidth, g]
  omega
end StrChars
namespace StrChars
open Jvm Sem ClassFile Op Lib Jvm.Stand Jvm.Free.XT Jvm.Free.ALB Jvm.Free.JM Jvm.Free
open Jvm.Lib.Cold (StaticIs)
theorem shr1 {n : Nat} (h : 2 * n < 2 ^ 31) : Int32.ofNat (2 * n) >>> ((1 : Int32) &&& 31) = Int32.ofNat n := by
  have e : ((1 : Int32) &&& 31) = 1 := by decide
  rw [e]
  apply Int32.toBitVec_inj.mp
  rw [Int32.toBitVec_shiftRight]
  have e1 : ((1 : Int32).toBitVec.smod 32) = 1#32 := by decide
  have hm : (BitVec.ofNat 32 (2 * n)).toNat = 2 * n := by rw [BitVec.toNat_ofNat, Nat.mod_eq_of_lt (by omega)]
  rw [e1, BitVec.sshiftRight_eq']
  apply BitVec.eq_of_toNat_eq
  show ((BitVec.ofNat 32 (2 * n)).sshiftRight 1).toNat = (BitVec.ofNat 32 n).toNat
  rw [BitVec.toNat_sshiftRight_of_msb_false (by rw [BitVec.msb_eq_false_iff_two_mul_lt, hm]; omega), hm, BitVec.toNat_ofNat, Nat.shiftRight_eq_div_pow]
  omega
/-- the array's cell V codes the n chars f 0 .. f (n - 1) by the coder cd, as the JDK does: coder 1 just where some char is above 255 -/
def Cod (cd : Int32) (n : Nat) (f : Nat → Int32) (V : Cell) : Prop := (cd = 0 ∧ V.slots.size = n ∧ ∀ j, j < n → V.slots[j]? = some (.int (lo8 (f j))) ∧ ¬ 255 < f j) ∨ (cd = 1 ∧ V.slots.size = 2 * n ∧ (∀ j, j < n → V.slots[2 * j]? = some (.int (lo8 (f j))) ∧ V.slots[2 * j + 1]? = some (.int (hi8 (f j)))) ∧ ∃ j, j < n ∧ 255 < f j)
theorem Cod.cd {cd : Int32} {n : Nat} {f : Nat → Int32} {V : Cell} (h : Cod cd n f V) : cd = 0 ∨ cd = 1 := h.imp (fun q => q.1) fun q => q.1
theorem Cod.len {cd : Int32} {n : Nat} {f : Nat → Int32} {V : Cell} (h : Cod cd n f V) (hs : V.slots.size < 2 ^ 31) : Int32.ofNat V.slots.size >>> (cd &&& 31) = Int32.ofNat n := by
  rcases h with ⟨rfl, h, -⟩ | ⟨rfl, h, -⟩
  · rw [shr0, h]
  · rw [h, shr1 (by omega)]
/-- **x is a String of the n chars f 0 .. f (n - 1)**, Latin-1 or UTF-16; its array at t has the cell V -/
def Txt (x t : Addr) (V : Cell) (cd : Int32) (n : Nat) (f : Nat → Int32) (U : State) : Prop := Exact "java/lang/String" x U ∧ Has x "java/lang/String" "value" "[B" (.ref t) U ∧ Has x "java/lang/String" "coder" "B" (.int cd) U ∧ XT.Arr .byte t V U ∧ Cod cd n f V ∧ ∀ j, j < n → ¬ f j < 0 ∧ ¬ 65535 < f j
theorem Txt.mv {x t : Addr} {V : Cell} {cd : Int32} {n : Nat} {f : Nat → Int32} {U U' : State} (h : Txt x t V cd n f U) (hal : U.vm.Alike U'.vm) (hh : U'.heap = U.heap) : Txt x t V cd n f U' := ⟨h.1.mv hal hh, h.2.1.mv hal hh, h.2.2.1.mv hal hh, h.2.2.2.1.mv hal hh, h.2.2.2.2⟩
namespace Cdr
def yN : MethodName := ⟨"java/lang/String", "coder", "()B"⟩
abbrev yB : ByteArray := jdk_42_method_152_code
theorem d0 : decode yB 0 = .ok (.getstatic 38, 3) := by decide +kernel
theorem d3 : decode yB 3 = .ok (.ifCond (.eq) 10, 3) := by decide +kernel
theorem d6 : decode yB 6 = .ok (.aload_n 0, 1) := by decide +kernel
theorem d7 : decode yB 7 = .ok (.getfield 15, 3) := by decide +kernel
theorem d10 : decode yB 10 = .ok (.goto 4, 3) := by decide +kernel
theorem d14 : decode yB 14 = .ok (.ireturn, 1) := by decide +kernel
def site : List Cond := [.fieldLink "java/lang/String" 38 "java/lang/String" "COMPACT_STRINGS" "Z", .fieldLink "java/lang/String" 15 "java/lang/String" "coder" "B"]
def tab : Cond := tabOf yN yB 1 (some .byte) site
def P (x : Addr) (cd z : Int32) (args : Array Value) (s : State) : Prop := args = #[.ref x] ∧ Has x "java/lang/String" "coder" "B" (.int cd) s ∧ (cd = 0 ∨ cd = 1) ∧ StaticIs s "java/lang/String" "COMPACT_STRINGS" "Z" (.int z) ∧ ¬ z = 0
def E (cd : Int32) (r : Option Value) (s u : State) : Prop := XT.PureE (some (.int cd)) r s u
theorem law (l : Launch) (x : Addr) (cd z : Int32) : Law l yN 1 0 0 0 yB 1 (some .byte) site (P x cd z) (E cd) [] 0 0 := by
  refine Law.of_walk (plainFor_of_name (by decide +kernel)) (by decide +kernel) (by decide +kernel) (by decide) (fun _ _ h => by rw [h.1]; rfl) (fun _ U U' hal hh h => ⟨h.1, h.2.1.mv hal hh, h.2.2.1, h.2.2.2.1.there hal hh, h.2.2.2.2⟩) (fun r U U' V V' h1 hal h2 h => XT.PureE.mv r U U' V V' h1 hal h2 h) ?_
  intro p e s m args below meth c s₁ X0 hexec hbytes hml hret hlk hnm hown hh0 W hP
  obtain ⟨rfl, hx, hc, s1, hz⟩ := hP
  have c1 : Steps p.tables e below (s₁.setTop (entryFrame m #[.ref x] 1)) (s₁.setTop (mkF m 0 #[.val (.ref x)] [])) := entry rfl
  obtain ⟨T2, X2, q2, st2⟩ := X0.sget hexec hown (wk W (.fieldLink "java/lang/String" 38 "java/lang/String" "COMPACT_STRINGS" "Z")) s1 (fun _ _ h => by rw [hh0]; exact h) (g := (mkF m 0 #[.val (.ref x)] [])) rfl (hb hbytes d0)
  have hh2 := q2.trans hh0
  have c3 : Steps p.tables e below (s₁.setTop (entryFrame m #[.ref x] 1)) (T2.setTop (mkF m 7 #[.val (.ref x)] [.ref x])) := (c1.trans (st2 _ (Steps.refl _))).trans (by
    refine XS.ifNo X2.here hexec rfl (hb hbytes d3) rfl (i0_eq_f hz) ?_
    refine XS.aloadN X2.here hexec rfl (hb hbytes d6) rfl rfl ?_
    exact Steps.refl _)
  obtain ⟨T4, X4, q4, st4⟩ := X2.hget hexec hown (wk W (.fieldLink "java/lang/String" 15 "java/lang/String" "coder" "B")) (hx.mv X2.warmed.alike hh2) (g := (mkF m 7 #[.val (.ref x)] [.ref x])) rfl (rest := []) rfl (hb hbytes d7)
  have c5 : Steps p.tables e below (s₁.setTop (entryFrame m #[.ref x] 1)) (T4.setTop (mkF m 14 #[.val (.ref x)] [.int cd])) := (c3.trans (st4 _ (Steps.refl _))).trans (by
    refine XS.goto X4.here hexec rfl (pc0 := 10) rfl (hb hbytes d10) (by decide) rfl ?_
    exact Steps.refl _)
  exact ⟨T4, some (.int cd), _, _, _, X4, rfl, rfl, rfl, (fun h => by cases h), ⟨rfl, q4.trans hh2⟩, fun fs hl => c5.trans (X4.ireturnOut hexec hret (by rcases hc with rfl | rfl <;> rfl) (Or.inr (Or.inr (Or.inl rfl))) (hb hbytes d14) hl)⟩
end Cdr
namespace Len
def yN : MethodName := ⟨"java/lang/String", "length", "()I"⟩
abbrev yB : ByteArray := jdk_42_method_54_code
theorem d0 : decode yB 0 = .ok (.aload_n 0, 1) := by decide +kernel
theorem d1 : decode yB 1 = .ok (.getfield 9, 3) := by decide +kernel
theorem d4 : decode yB 4 = .ok (.arraylength, 1) := by decide +kernel
theorem d5 : decode yB 5 = .ok (.aload_n 0, 1) := by decide +kernel
theorem d6 : decode yB 6 = .ok (.invokevirtual 335, 3) := by decide +kernel
theorem d9 : decode yB 9 = .ok (.ishr, 1) := by decide +kernel
theorem d10 : decode yB 10 = .ok (.ireturn, 1) := by decide +kernel
def site : List Cond := [.fieldLink "java/lang/String" 9 "java/lang/String" "value" "[B", Cdr.tab] ++ virtW "java/lang/String" 335 "java/lang/String" Cdr.yN Cdr.yN
def tab : Cond := tabOf yN yB 1 (some .int) site
def P (x t : Addr) (V : Cell) (cd : Int32) (n : Nat) (f : Nat → Int32) (z : Int32) (args : Array Value) (s : State) : Prop := args = #[.ref x] ∧ Txt x t V cd n f s ∧ StaticIs s "java/lang/String" "COMPACT_STRINGS" "Z" (.int z) ∧ ¬ z = 0
def E (n : Nat) (r : Option Value) (s u : State) : Prop := XT.PureE (some (.int (Int32.ofNat n))) r s u
/-- length() of a String of n chars, in either coding -/
theorem law (l : Launch) (x t : Addr) (V : Cell) (cd : Int32) (n : Nat) (f : Nat → Int32) (z : Int32) : Law l yN 1 0 1 13 yB 1 (some .int) site (P x t V cd n f z) (E n) [] 0 0 := by
  refine Law.of_walk (plainFor_of_name (by decide +kernel)) (by decide +kernel) (by decide +kernel) (by decide) (fun _ _ h => by rw [h.1]; rfl) (fun _ U U' hal hh h => ⟨h.1, h.2.1.mv hal hh, h.2.2.1.there hal hh, h.2.2.2⟩) (fun r U U' V V' h1 hal h2 h => XT.PureE.mv r U U' V V' h1 hal h2 h) ?_
  intro p e s m args below meth c s₁ X0 hexec hbytes hml hret hlk hnm hown hh0 W hP
  obtain ⟨rfl, hx, s1, hz⟩ := hP
  have v31 := hx.2.2.2.1.2.2.2
  have c1 : Steps p.tables e below (s₁.setTop (entryFrame m #[.ref x] 1)) (s₁.setTop (mkF m 1 #[.val (.ref x)] [.ref x])) := Steps.trans (entry rfl) (by
    show Steps p.tables e below (s₁.setTop (mkF m 0 #[.val (.ref x)] [])) _
    refine XS.aloadN X0.here hexec rfl (hb hbytes d0) rfl rfl ?_
    exact Steps.refl _)
  obtain ⟨T2, X2, q2, st2⟩ := X0.hget hexec hown (wk W (.fieldLink "java/lang/String" 9 "java/lang/String" "value" "[B")) (hx.mv X0.warmed.alike hh0).2.1 (g := (mkF m 1 #[.val (.ref x)] [.ref x])) rfl (rest := []) rfl (hb hbytes d1)
  have hh2 := q2.trans hh0
  have hx2 := hx.mv X2.warmed.alike hh2
  have c3 : Steps p.tables e below (s₁.setTop (entryFrame m #[.ref x] 1)) (T2.setTop (mkF m 6 #[.val (.ref x)] [.ref x, .int (Int32.ofNat V.slots.size)])) := (c1.trans (st2 _ (Steps.refl _))).trans (by
    refine X2.alen hexec hx2.2.2.2.1 rfl rfl (hb hbytes d4) ?_
    refine XS.aloadN X2.here hexec rfl (hb hbytes d5) rfl rfl ?_
    exact Steps.refl _)
  obtain ⟨v4, T4, X4, E4, g4⟩ := X2.callV hexec (Cdr.law l x cd z) hown (wks W (virtW "java/lang/String" 335 "java/lang/String" Cdr.yN Cdr.yN)) rfl (by decide) (wk W Cdr.tab) (W := 1) (Nat.le_of_ble_eq_true rfl) (Nat.le_of_ble_eq_true rfl) (Nat.le_refl _) (Nat.le_refl _) (hx2.1.fc X2.warmed.alike) hx2.1.is (g := (mkF m 6 #[.val (.ref x)] [.ref x, .int (Int32.ofNat V.slots.size)])) rfl (by rw [hml]; rfl) c3 (argsL := []) (rest := [.int (Int32.ofNat V.slots.size)]) rfl rfl (by show 2 * 0 + (1 + 0) ≤ _; decide) (hb hbytes d6) (⟨rfl, hx2.2.2.1, hx.2.2.2.2.1.cd, s1.there X2.warmed.alike hh2, hz⟩)
  obtain ⟨rfl, q4⟩ := E4
  have c5 : Steps p.tables e below (s₁.setTop (entryFrame m #[.ref x] 1)) (T4.setTop (mkF m 10 #[.val (.ref x)] [.int (Int32.ofNat V.slots.size >>> (cd &&& 31))])) := Steps.trans g4 (by
    refine ishr X4.here hexec rfl (hb hbytes d9) rfl ?_
    exact Steps.refl _)
  rw [hx.2.2.2.2.1.len v31] at c5
  exact ⟨T4, some (.int (Int32.ofNat n)), _, _, _, X4, rfl, rfl, rfl, (fun h => by cases h), ⟨rfl, q4.trans hh2⟩, fun fs hl => c5.trans (X4.ireturnOut hexec hret rfl (Or.inl rfl) (hb hbytes d10) hl)⟩
theorem pays {l : Launch} {R : Room} {p : Program} {e : Env} {below : List Frame} {s : State} {sargs : Array Value} {len W : Nat} (x t : Addr) (V : Cell) (cd : Int32) (n : Nat) (f : Nat → Int32) (z : Int32) (htab : tab.before sargs s = true) (hfr : 2 ≤ R.frames) (hlo : W + 25 ≤ R.locals) :
    Back l R p e below s sargs yN len W (fun A₁ a₁ => A₁.cells + 0 ≤ R.cells ∧ A₁.slots + 0 ≤ R.slots ∧ P x t V cd n f z a₁ A₁.U) (fun A₁ _ v₁ B₁ => E n v₁ A₁.U B₁.U ∧ B₁.locs = A₁.locs ++ [] ∧ B₁.cells = A₁.cells + 0 ∧ B₁.slots = A₁.slots + 0) :=
  (law l x t V cd n f z).pays htab hfr (by omega)
end Len
end StrChars
namespace StrChars.Road
open Jvm Sem ClassFile Op Lib Jvm.Stand Jvm.Free Jvm.Free.XT
open Jvm.Lib.Cold (StaticIs)
theorem consq {a : Array Value} {s : State} {c : Jvm.Cond} {L : List Jvm.Cond} (h0 : c.before a s = true) (h : ∀ w ∈ L, w.before a s = true) : ∀ w ∈ c :: L, w.before a s = true := fun w hw => (List.mem_cons.mp hw).elim (fun e => e ▸ h0) (h w)
/-- the words of String.length(), either coding -/
abbrev wordsLen : List Jvm.Cond := [.code Len.yN Len.yB 1 (some .int), .initialized ST, .fieldLink ST 9 ST "value" "[B", .fieldLink ST 38 ST "COMPACT_STRINGS" "Z", .fieldLink ST 15 ST "coder" "B", .code Cdr.yN Cdr.yB 1 (some .byte), .methodLink ST 335 Cdr.yN, .declares Cdr.yN, .selects ST Cdr.yN Cdr.yN, .instanceMethod Cdr.yN]
theorem tabLen_of {a : Array Value} {s : State} (h : ∀ w ∈ wordsLen, w.before a s = true) : Len.tab.before a s = true := by
  have hc : Cdr.tab.before a s = true := unparts (wk h (.code Cdr.yN Cdr.yB 1 (some .byte))) (wks h (.initialized Cdr.yN.cls :: Cdr.site))
  have q := consq hc h
  exact unparts (wk q (.code Len.yN Len.yB 1 (some .int))) (wks q (.initialized Len.yN.cls :: Len.site))
theorem movedLen {Z s : State} {a0 args : Array Value} (hZ : Z.Warmed39 s.vm) (hw : ∀ d ∈ wordsLen, d.before a0 Z = true) : ∀ d ∈ wordsLen, d.before args s = true := fun d hd => by
  have q := hw d hd
  have t : ∀ d ∈ wordsLen, d = .arrayClass .byte ∨ (d.onTables && d.keepsFace) = true := by decide +kernel
  rcases t d hd with rfl | t
  · exact RoadKit.mvA hZ q
  · exact RoadKit.mv hZ q t
/-- the bytes of the chars cs, low before high -/
def wideBytes : List Int32 → List Value
  | [] => []
  | c :: cs => .int (lo8 c) :: .int (hi8 c) :: wideBytes cs
theorem wide_lo (d : Value) : ∀ (cs : List Int32) (j : Nat), j < cs.length → (wideBytes cs).getD (2 * j) d = .int (lo8 (cs.getD j 0))
  | [], j, h => absurd h (Nat.not_lt_zero j)
  | c :: cs, 0, _ => rfl
  | c :: cs, j + 1, h => by
    have q := wide_lo d cs j (by simpa using h)
    rw [show 2 * (j + 1) = 2 * j + 1 + 1 from by omega]
    simpa [wideBytes] using q
theorem wide_hi (d : Value) : ∀ (cs : List Int32) (j : Nat), j < cs.length → (wideBytes cs).getD (2 * j + 1) d = .int (hi8 (cs.getD j 0))
  | [], j, h => absurd h (Nat.not_lt_zero j)
  | c :: cs, 0, _ => rfl
  | c :: cs, j + 1, h => by
    have q := wide_hi d cs j (by simpa using h)
    rw [show 2 * (j + 1) + 1 = 2 * j + 1 + 1 + 1 from by omega]
    simpa [wideBytes] using q
theorem low_at (d : Value) (cs : List Int32) (j : Nat) (h : j < cs.length) : (cs.map fun c => Value.int (lo8 c)).getD j d = .int (lo8 (cs.getD j 0)) := by
  simp [List.getD_eq_getElem?_getD, h]
/-- an array of N2 bytes vs codes the chars cs by the coder cd -/
def CodA (cs : List Int32) (cd N2 : Int32) (vs : List Value) : Prop := (cd = 0 ∧ N2 = Int32.ofNat cs.length ∧ vs = (cs.map fun c => Value.int (lo8 c)) ∧ ∀ c ∈ cs, ¬ 255 < c) ∨ (cd = 1 ∧ N2 = Int32.ofNat (2 * cs.length) ∧ vs = wideBytes cs ∧ ∃ c ∈ cs, 255 < c)
theorem CodA.cod {cs : List Int32} {cd N2 : Int32} {vs : List Value} {V : Cell} (h : CodA cs cd N2 vs) (hn : 2 * cs.length < 2 ^ 31) (hs : V.slots.size = N2.toNatClampNeg) (hv : RoadKit.Has V vs (.int 0)) : Cod cd cs.length (fun j => cs.getD j 0) V := by
  rcases h with ⟨rfl, rfl, rfl, h⟩ | ⟨rfl, rfl, rfl, c, hc, hw⟩
  · rw [n32 (by omega)] at hs
    exact Or.inl ⟨rfl, hs, fun j hj => ⟨by rw [hv j (by omega), low_at _ _ _ hj], by
      have e : cs.getD j 0 = cs[j] := by simp [List.getD_eq_getElem?_getD, hj]
      show ¬ 255 < cs.getD j 0
      rw [e]; exact h _ (List.getElem_mem _)⟩⟩
  · rw [n32 (by omega)] at hs
    obtain ⟨j, hj, rfl⟩ := List.getElem_of_mem hc
    exact Or.inr ⟨rfl, hs, fun j hj => ⟨by rw [hv _ (by omega), wide_lo _ _ _ hj], by rw [hv _ (by omega), wide_hi _ _ _ hj]⟩, j, hj, by
      have e : cs.getD j 0 = cs[j] := by simp [List.getD_eq_getElem?_getD, hj]
      show 255 < cs.getD j 0
      rw [e]; exact hw⟩
/-- an object of exactly java/lang/String, its two fields found: as the laws ask it -/
theorem strObj {Z U : State} {a0 : Array Value} {kI : Nat} (wi : (Jvm.Cond.instantiable ST kI).before a0 Z = true) (al : Z.vm.Alike U.vm) {x : Addr} {v0 c0 : Value} (E : RoadKit.Exa Z U.heap x ST) (V : RoadKit.Fld Z U.heap x ST "value" "[B" v0) (C : RoadKit.Fld Z U.heap x ST "coder" "B" c0) :
    ∃ (D : Cell) (fV fC : Field), Blank ST x D U ∧ Found ST "value" "[B" fV U ∧ Found ST "coder" "B" fC U ∧ D.slots[fV.slot]? = some v0 ∧ D.slots[fC.slot]? = some c0 ∧ RoadKit.slotOf Z ST "value" "[B" = fV.slot ∧ RoadKit.slotOf Z ST "coder" "B" = fC.slot := by
  obtain ⟨D, cfV, kV, iV, fV, hD, gV, stV, knV, obV, asV, slV⟩ := V
  obtain ⟨D', cfC, kC, iC, fC, hD', gC, stC, -, -, asC, slC⟩ := C
  cases hD.symm.trans hD'
  obtain ⟨D2, kD, e1, e2, e3, e4, e5⟩ := E
  cases hD.symm.trans e1
  obtain ⟨c2, k2, i1, i2, i3, -⟩ := Cond.instantiable_spec wi
  cases e2.symm.trans i1
  cases e3.symm.trans i2
  obtain ⟨kU, u1, u2⟩ := al.2.2 _ _ e3
  exact ⟨D, fV, fC, ⟨hD, ⟨knV, fun q hq => by rw [hq] at obV; cases obV⟩, by rw [al.findClass]; exact e2, kU, u1, by rw [u2]; exact i3, by rw [u2]; exact e5 i3⟩, ⟨SBG.found_only al ⟨cfV, kV, iV, gV⟩, stV⟩, ⟨SBG.found_only al ⟨cfC, kC, iC, gC⟩, stC⟩, slV, slC, by simp [RoadKit.slotOf, gV], by simp [RoadKit.slotOf, gC]⟩
theorem sta_is {Z U : State} (al : Z.vm.Alike U.vm) {C n d : String} {v : Value} (S : RoadKit.Sta Z U.heap C n d v) : StaticIs U C n d v := by
  obtain ⟨cfS, iS, kS, fS, st, cS, t1, t2, t3, t4, t5, t6, t7⟩ := S
  exact StaticIs.there (s := { Z with heap := U.heap }) ⟨cfS, iS, kS, fS, st, cS, t1, t2, t3, t4, t5, (fun q => by rw [q] at t6; cases t6), t7⟩ al rfl
/-- **length() OF SUCH A STRING** -/
theorem lenW {p : Program} {l : Launch} {e : Env} {R : Room} {s : State} {args : Array Value} {below : List Frame} {len W : Nat} {Z : State} {a0 : Array Value} {h : Heap} (hZ : Z.Warmed39 s.vm) (hw : ∀ d ∈ wordsLen, d.before a0 Z = true) {kI : Nat} (wi : (Jvm.Cond.instantiable ST kI).before a0 Z = true)
    {x t : Addr} {kb : ClassId} {cs : List Int32} {cd N2 z : Int32} {vs : List Value} (E : RoadKit.Exa Z h x ST) (V : RoadKit.Fld Z h x ST "value" "[B" (.ref t)) (C : RoadKit.Fld Z h x ST "coder" "B" (.int cd)) (K : RoadKit.Arv Z h t kb .byte N2 vs (.int 0)) (hc : CodA cs cd N2 vs) (hb : ∀ c ∈ cs, ¬ c < 0 ∧ ¬ (65535 : Int32) < c)
    (S : RoadKit.Sta Z h ST "COMPACT_STRINGS" "Z" (.int z)) (hz : ¬ z = 0) (l2 : cs.length ≤ 4000) (hfr : 2 ≤ R.frames) (hlo : W + 25 ≤ R.locals) :
    Back l R p e below s args (⟨"java/lang/String", "length", "()I"⟩ : MethodName) len W (fun P a => a = #[.ref x] ∧ P.U.heap = h ∧ P.cells + 0 ≤ R.cells ∧ P.slots + 0 ≤ R.slots)
      (fun P _ v B => ∃ L, (v = some (.int (Int32.ofNat cs.length)) ∧ L = [] ∧ B.U.heap = h) ∧ B.locs = P.locs ++ L ∧ B.cells = P.cells + 0 ∧ B.slots = P.slots + 0) := by
  obtain ⟨A, K1, K2, K3, K4, K5, K6⟩ := K
  have hcod := hc.cod (by omega) K3 K5
  intro m meth c P g ig mk a X hg hsize hdg hW hn hp'
  obtain ⟨rfl, rfl, r1, r2⟩ := hp'
  have al : Z.vm.Alike P.U.vm := hZ.alike.trans X.warmed.alike
  obtain ⟨D, fV, fC, hB, F1, F2, g1, g2, -, -⟩ := strObj wi al E V C
  have hx : Txt x t A cd cs.length (fun j => cs.getD j 0) P.U := ⟨⟨_, hB.2.2.1, D, hB.1, rfl, by cases q : D.vm <;> first | rfl | exact absurd q (hB.2.1.2 _)⟩, Has.of hB F1 g1, Has.of hB F2 g2, ⟨K1.1, State.isArrayOf_alike al K1.2.1, K1.2.2, by rcases hcod with ⟨-, q, -⟩ | ⟨-, q, -⟩ <;> omega⟩, hcod, fun j hj => by
    have e : cs.getD j 0 = cs[j] := by simp [List.getD_eq_getElem?_getD, hj]
    show ¬ cs.getD j 0 < 0 ∧ ¬ 65535 < cs.getD j 0
    rw [e]; exact hb _ (List.getElem_mem _)⟩
  obtain ⟨v, B, X', ⟨⟨hv, hh⟩, hl, hk, hs⟩, st⟩ := Len.pays x t A cd cs.length (fun j => cs.getD j 0) z (tabLen_of (movedLen hZ hw)) hfr hlo m meth c P g ig mk _ X hg hsize hdg hW hn ⟨r1, r2, rfl, hx, sta_is al S, hz⟩
  exact ⟨v, B, X', ⟨[], ⟨hv, rfl, hh⟩, hl, hk, hs⟩, st⟩
end StrChars.Road
namespace StrChars
open Jvm Sem ClassFile Op Lib Jvm.Stand Jvm.Free.XT Jvm.Free.ALB Jvm.Free.JM Jvm.Free
open Jvm.Lib.Cold (StaticIs)
/-- what place i of a byte[]'s cell holds -/
def yv (A : Cell) (i : Nat) : Int32 := match A.slots[i]? with | some (.int x) => x | _ => 0
theorem yv_get {a : Addr} {A : Cell} {U : State} (h : XT.Arr .byte a A U) (ht : Typed .byte A) {i : Nat} (hi : i < A.slots.size) : A.slots[i]? = some (.int (yv A i)) := by
  have e := Array.getElem?_eq_getElem hi
  have f := ht i _ e
  unfold yv; rw [e]
  generalize A.slots[i] = v at f
  cases v <;> simp [fits] at f ⊢
/-- the two arrays are equal, place for place -/
def EqC (A B : Cell) : Prop := A.slots.size = B.slots.size ∧ ∀ i, i < A.slots.size → yv A i = yv B i
/-- a boolean that says whether p -/
def Says01 (q : Prop) (r : Option Value) (s u : State) : Prop := ∃ v : Int32, r = some (.int v) ∧ u.heap = s.heap ∧ ((v = 1 ∧ q) ∨ (v = 0 ∧ ¬ q))
theorem Says01.mv {q : Prop} : ∀ r (U U' V V' : State), U'.heap = U.heap → V.vm.Alike V'.vm → V'.heap = V.heap → Says01 q r U V → Says01 q r U' V' :=
  fun r U U' V V' h1 _ h2 ⟨v, a, b, c⟩ => ⟨v, a, by rw [h1, h2]; exact b, c⟩
namespace LEq
def yN : MethodName := ⟨"java/lang/StringLatin1", "equals", "([B[B)Z"⟩
abbrev yB : ByteArray := jdk_43_method_13_code
theorem d0 : decode yB 0 = .ok (.aload_n 0, 1) := by decide +kernel
theorem d1 : decode yB 1 = .ok (.arraylength, 1) := by decide +kernel
theorem d2 : decode yB 2 = .ok (.aload_n 1, 1) := by decide +kernel
theorem d3 : decode yB 3 = .ok (.arraylength, 1) := by decide +kernel
theorem d4 : decode yB 4 = .ok (.if_icmp (.ne) 30, 3) := by decide +kernel
theorem d7 : decode yB 7 = .ok (.iconst 0, 1) := by decide +kernel
theorem d8 : decode yB 8 = .ok (.istore_n 2, 1) := by decide +kernel
theorem d9 : decode yB 9 = .ok (.iload_n 2, 1) := by decide +kernel
theorem d10 : decode yB 10 = .ok (.aload_n 0, 1) := by decide +kernel
theorem d11 : decode yB 11 = .ok (.arraylength, 1) := by decide +kernel
theorem d12 : decode yB 12 = .ok (.if_icmp (.ge) 20, 3) := by decide +kernel
theorem d15 : decode yB 15 = .ok (.aload_n 0, 1) := by decide +kernel
theorem d16 : decode yB 16 = .ok (.iload_n 2, 1) := by decide +kernel
theorem d17 : decode yB 17 = .ok (.baload, 1) := by decide +kernel
theorem d18 : decode yB 18 = .ok (.aload_n 1, 1) := by decide +kernel
theorem d19 : decode yB 19 = .ok (.iload_n 2, 1) := by decide +kernel
theorem d20 : decode yB 20 = .ok (.baload, 1) := by decide +kernel
theorem d21 : decode yB 21 = .ok (.if_icmp (.eq) 5, 3) := by decide +kernel
theorem d24 : decode yB 24 = .ok (.iconst 0, 1) := by decide +kernel
theorem d25 : decode yB 25 = .ok (.ireturn, 1) := by decide +kernel
theorem d26 : decode yB 26 = .ok (.iinc 2 1, 3) := by decide +kernel
theorem d29 : decode yB 29 = .ok (.goto (-20), 3) := by decide +kernel
theorem d32 : decode yB 32 = .ok (.iconst 1, 1) := by decide +kernel
theorem d33 : decode yB 33 = .ok (.ireturn, 1) := by decide +kernel
theorem d34 : decode yB 34 = .ok (.iconst 0, 1) := by decide +kernel
theorem d35 : decode yB 35 = .ok (.ireturn, 1) := by decide +kernel
def site : List Cond := []
def tab : Cond := tabOf yN yB 3 (some .boolean) site
def P (a : Addr) (A : Cell) (b : Addr) (B : Cell) (args : Array Value) (s : State) : Prop := args = #[.ref a, .ref b] ∧ XT.Arr .byte a A s ∧ Typed .byte A ∧ XT.Arr .byte b B s ∧ Typed .byte B
/-- whether two byte[] are equal, place for place -/
theorem law (l : Launch) (a : Addr) (A : Cell) (b : Addr) (B : Cell) : Law l yN 2 2 0 0 yB 3 (some .boolean) site (P a A b B) (Says01 (EqC A B)) [] 0 0 := by
  refine Law.of_walk (plainFor_of_name (by decide +kernel)) (by decide +kernel) (by decide +kernel) (by decide) (fun _ _ h => by rw [h.1]; rfl) (fun _ U U' hal hh h => ⟨h.1, h.2.1.mv hal hh, h.2.2.1, h.2.2.2.1.mv hal hh, h.2.2.2.2⟩) (fun r U U' V V' h1 hal h2 h => Says01.mv r U U' V V' h1 hal h2 h) ?_
  intro p e s m args below meth c s₁ X0 hexec hbytes hml hret hlk hnm hown hh0 W hP
  obtain ⟨rfl, hA, tA, hB, tB⟩ := hP
  have a31 := hA.2.2.2
  have b31 := hB.2.2.2
  have hA0 := hA.mv X0.warmed.alike hh0
  have hB0 := hB.mv X0.warmed.alike hh0
  have c1 : Steps p.tables e below (s₁.setTop (entryFrame m #[.ref a, .ref b] 3)) (s₁.setTop (mkF m 0 #[.val (.ref a), .val (.ref b), .unset] [])) := entry rfl
  have c2 : Steps p.tables e below (s₁.setTop (entryFrame m #[.ref a, .ref b] 3)) (s₁.setTop (mkF m 4 #[.val (.ref a), .val (.ref b), .unset] [.int (Int32.ofNat B.slots.size), .int (Int32.ofNat A.slots.size)])) := c1.trans (by
    refine XS.aloadN X0.here hexec rfl (hb hbytes d0) rfl rfl ?_
    refine X0.alen hexec hA0 rfl rfl (hb hbytes d1) ?_
    refine XS.aloadN X0.here hexec rfl (hb hbytes d2) rfl rfl ?_
    refine X0.alen hexec hB0 rfl rfl (hb hbytes d3) ?_
    exact Steps.refl _)
  by_cases hs : A.slots.size = B.slots.size
  · have c3 : Steps p.tables e below (s₁.setTop (entryFrame m #[.ref a, .ref b] 3)) (s₁.setTop (mkF m 9 #[.val (.ref a), .val (.ref b), .val (.int 0)] [])) := c2.trans (by
      refine XS.icmpNo X0.here hexec rfl (hb hbytes d4) rfl (ii_ne_f (by rw [hs])) ?_
      refine iconstV X0.here hexec rfl 0 (hb hbytes d7) (by decide) ?_
      refine XS.istoreN X0.here hexec rfl (hb hbytes d8) rfl rfl ?_
      exact Steps.refl _)
    have loop : ∀ (r i : Nat), i + r = A.slots.size → (∀ j, j < i → yv A j = yv B j) → Steps p.tables e below (s₁.setTop (entryFrame m #[.ref a, .ref b] 3)) (s₁.setTop (mkF m 9 #[.val (.ref a), .val (.ref b), .val (.int (Int32.ofNat i))] [])) → ∃ (pc : Nat) (Ls : Array Slot) (v : Int32), (pc = 25 ∨ pc = 33) ∧ ((v = 1 ∧ EqC A B) ∨ (v = 0 ∧ ¬ EqC A B)) ∧ Steps p.tables e below (s₁.setTop (entryFrame m #[.ref a, .ref b] 3)) (s₁.setTop (mkF m pc Ls [.int v])) := by
      intro r
      induction r with
      | zero =>
        intro i hi he cl
        exact ⟨33, _, 1, Or.inr rfl, Or.inl ⟨rfl, hs, fun j hj => he j (by omega)⟩, cl.trans (by
          refine XS.iloadN X0.here hexec rfl (hb hbytes d9) rfl ?_
          refine XS.aloadN X0.here hexec rfl (hb hbytes d10) rfl rfl ?_
          refine X0.alen hexec hA0 rfl rfl (hb hbytes d11) ?_
          refine XS.icmpYes X0.here hexec rfl (pc0 := 12) rfl (hb hbytes d12) rfl (ii_ge_t (nlt32 (by omega) (by omega))) (by decide) rfl ?_
          refine iconstV X0.here hexec rfl 1 (hb hbytes d32) (by decide) ?_
          exact Steps.refl _)⟩
      | succ r ih =>
        intro i hi he cl
        have c4 : Steps p.tables e below (s₁.setTop (entryFrame m #[.ref a, .ref b] 3)) (s₁.setTop (mkF m 21 #[.val (.ref a), .val (.ref b), .val (.int (Int32.ofNat i))] [.int (yv B i), .int (yv A i)])) := cl.trans (by
          refine XS.iloadN X0.here hexec rfl (hb hbytes d9) rfl ?_
          refine XS.aloadN X0.here hexec rfl (hb hbytes d10) rfl rfl ?_
          refine X0.alen hexec hA0 rfl rfl (hb hbytes d11) ?_
          refine XS.icmpNo X0.here hexec rfl (hb hbytes d12) rfl (ii_ge_f (lt32 (by omega) (by omega))) ?_
          refine XS.aloadN X0.here hexec rfl (hb hbytes d15) rfl rfl ?_
          refine XS.iloadN X0.here hexec rfl (hb hbytes d16) rfl ?_
          refine X0.aget hexec hA0 rfl (yv_get hA tA (i := i) (by omega)) rfl rfl (hb hbytes d17) ?_
          refine XS.aloadN X0.here hexec rfl (hb hbytes d18) rfl rfl ?_
          refine XS.iloadN X0.here hexec rfl (hb hbytes d19) rfl ?_
          refine X0.aget hexec hB0 rfl (yv_get hB tB (i := i) (by omega)) rfl rfl (hb hbytes d20) ?_
          exact Steps.refl _)
        by_cases hv : yv A i = yv B i
        · have c5 : Steps p.tables e below (s₁.setTop (entryFrame m #[.ref a, .ref b] 3)) (s₁.setTop (mkF m 9 #[.val (.ref a), .val (.ref b), .val (.int (Int32.ofNat i + 1))] [])) := c4.trans (by
            refine XS.icmpYes X0.here hexec rfl (pc0 := 21) rfl (hb hbytes d21) rfl (ii_eq_t hv) (by decide) rfl ?_
            refine iincV X0.here hexec rfl 1 (hb hbytes d26) (by decide) rfl rfl ?_
            refine XS.goto X0.here hexec rfl (pc0 := 29) rfl (hb hbytes d29) (by decide) rfl ?_
            exact Steps.refl _)
          rw [succ32] at c5
          exact ih (i + 1) (by omega) (fun j hj => by
            by_cases e : j = i
            · rw [e]; exact hv
            · exact he j (by omega)) c5
        · exact ⟨25, _, 0, Or.inl rfl, Or.inr ⟨rfl, fun q => hv (q.2 i (by omega))⟩, c4.trans (by
            refine XS.icmpNo X0.here hexec rfl (hb hbytes d21) rfl (ii_eq_f hv) ?_
            refine iconstV X0.here hexec rfl 0 (hb hbytes d24) (by decide) ?_
            exact Steps.refl _)⟩
    obtain ⟨pc, Ls, v, hpc, hv, cz⟩ := loop A.slots.size 0 (by omega) (fun j hj => absurd hj (Nat.not_lt_zero j)) c3
    have nv : narrow .boolean (.int v) = .int v := by rcases hv with ⟨rfl, -⟩ | ⟨rfl, -⟩ <;> rfl
    rcases hpc with rfl | rfl
    · exact ⟨s₁, some (.int v), _, _, _, X0, rfl, rfl, rfl, (fun h => by cases h), ⟨v, rfl, hh0, hv⟩, fun fs hl => cz.trans (X0.ireturnOut hexec hret nv (Or.inr (Or.inl rfl)) (hb hbytes d25) hl)⟩
    · exact ⟨s₁, some (.int v), _, _, _, X0, rfl, rfl, rfl, (fun h => by cases h), ⟨v, rfl, hh0, hv⟩, fun fs hl => cz.trans (X0.ireturnOut hexec hret nv (Or.inr (Or.inl rfl)) (hb hbytes d33) hl)⟩
  · have c3 : Steps p.tables e below (s₁.setTop (entryFrame m #[.ref a, .ref b] 3)) (s₁.setTop (mkF m 35 #[.val (.ref a), .val (.ref b), .unset] [.int 0])) := c2.trans (by
      refine XS.icmpYes X0.here hexec rfl (pc0 := 4) rfl (hb hbytes d4) rfl (ii_ne_t (ne32 a31 b31 hs)) (by decide) rfl ?_
      refine iconstV X0.here hexec rfl 0 (hb hbytes d34) (by decide) ?_
      exact Steps.refl _)
    exact ⟨s₁, some (.int 0), _, _, _, X0, rfl, rfl, rfl, (fun h => by cases h), ⟨0, rfl, hh0, Or.inr ⟨rfl, fun q => hs q.1⟩⟩, fun fs hl => c3.trans (X0.ireturnOut hexec hret rfl (Or.inr (Or.inl rfl)) (hb hbytes d35) hl)⟩
end LEq
theorem Cod.ty {cd : Int32} {n : Nat} {f : Nat → Int32} {V : Cell} (h : Cod cd n f V) : Typed .byte V := fun i v hv => by
  have hi : i < V.slots.size := (Array.getElem?_eq_some_iff.mp hv).1
  rcases h with ⟨-, k1, k2⟩ | ⟨-, k1, k2, -⟩
  · rw [(k2 i (by omega)).1] at hv; cases hv; exact fits_lo8 _
  · rcases Nat.mod_two_eq_zero_or_one i with e | e
    · obtain ⟨j, rfl⟩ : ∃ j, i = 2 * j := ⟨i / 2, by omega⟩
      rw [(k2 j (by omega)).1] at hv; cases hv; exact fits_lo8 _
    · obtain ⟨j, rfl⟩ : ∃ j, i = 2 * j + 1 := ⟨i / 2, by omega⟩
      rw [(k2 j (by omega)).2] at hv; cases hv; exact fits_lo8 _
/-- the same text -/
def SameT (n : Nat) (f : Nat → Int32) (k : Nat) (g : Nat → Int32) : Prop := n = k ∧ ∀ j, j < n → f j = g j
theorem lo8_inj {x y : Int32} (h0 : ¬ x < 0) (h1 : ¬ 255 < x) (k0 : ¬ y < 0) (k1 : ¬ 255 < y) (h : lo8 x = lo8 y) : x = y := by
  rw [← lo8_mask h0 h1, ← lo8_mask k0 k1, h]
/-- arrays coded by one coder are equal just where the texts are -/
theorem Cod.eqv {cd : Int32} {n k : Nat} {f g : Nat → Int32} {V V' : Cell} (h : Cod cd n f V) (h' : Cod cd k g V') (hf : ∀ j, j < n → ¬ f j < 0 ∧ ¬ 65535 < f j) (hg : ∀ j, j < k → ¬ g j < 0 ∧ ¬ 65535 < g j) : EqC V V' ↔ SameT n f k g := by
  have yvv : ∀ {W : Cell} {i : Nat} {x : Int32}, W.slots[i]? = some (.int x) → yv W i = x := fun q => by unfold yv; rw [q]
  rcases h with ⟨rfl, k1, k2⟩ | ⟨rfl, k1, k2, -⟩
  · rcases h' with ⟨-, m1, m2⟩ | ⟨e, -⟩
    · constructor
      · rintro ⟨e1, e2⟩
        refine ⟨by omega, fun j hj => ?_⟩
        have q := e2 j (by omega)
        rw [yvv (k2 j hj).1, yvv (m2 j (by omega)).1] at q
        exact lo8_inj (hf j hj).1 (k2 j hj).2 (hg j (by omega)).1 (m2 j (by omega)).2 q
      · rintro ⟨rfl, e2⟩
        refine ⟨by omega, fun j hj => ?_⟩
        rw [yvv (k2 j (by omega)).1, yvv (m2 j (by omega)).1, e2 j (by omega)]
    · exact absurd e (by decide)
  · rcases h' with ⟨e, -⟩ | ⟨-, m1, m2, -⟩
    · exact absurd e (by decide)
    · constructor
      · rintro ⟨e1, e2⟩
        refine ⟨by omega, fun j hj => ?_⟩
        have q1 := e2 (2 * j) (by omega)
        have q2 := e2 (2 * j + 1) (by omega)
        rw [yvv (k2 j hj).1, yvv (m2 j (by omega)).1] at q1
        rw [yvv (k2 j hj).2, yvv (m2 j (by omega)).2] at q2
        rw [← pair_says (hf j hj).1 (hf j hj).2, ← pair_says (hg j (by omega)).1 (hg j (by omega)).2, q1, q2]
      · rintro ⟨rfl, e2⟩
        refine ⟨by omega, fun i hi => ?_⟩
        rcases Nat.mod_two_eq_zero_or_one i with e | e
        · obtain ⟨j, rfl⟩ : ∃ j, i = 2 * j := ⟨i / 2, by omega⟩
          rw [yvv (k2 j (by omega)).1, yvv (m2 j (by omega)).1, e2 j (by omega)]
        · obtain ⟨j, rfl⟩ : ∃ j, i = 2 * j + 1 := ⟨i / 2, by omega⟩
          rw [yvv (k2 j (by omega)).2, yvv (m2 j (by omega)).2, e2 j (by omega)]
/-- two codings differ: so do the texts -/
theorem Cod.dif {cd cd' : Int32} {n k : Nat} {f g : Nat → Int32} {V V' : Cell} (h : Cod cd n f V) (h' : Cod cd' k g V') (hne : ¬ cd = cd') : ¬ SameT n f k g := by
  rintro ⟨rfl, e⟩
  rcases h with ⟨rfl, -, k2⟩ | ⟨rfl, -, -, j, hj, hw⟩
  · rcases h' with ⟨rfl, -⟩ | ⟨-, -, -, j, hj, hw⟩
    · exact hne rfl
    · exact (k2 j hj).2 (by rw [e j hj]; exact hw)
  · rcases h' with ⟨-, -, m2⟩ | ⟨rfl, -⟩
    · exact (m2 j hj).2 (by rw [← e j hj]; exact hw)
    · exact hne rfl
/-- an object of exactly C is an instance of C -/
theorem cinst {p : Program} {l : Launch} {e : Env} {R : Room} {s : State} {m : MethodId} {args : Array Value} {below : List Frame} {meth : Method} {c : Code} {T : State} {locs : List Loc} {cells slots : Nat} (X : Stand p l e R s m args below meth c T locs cells slots) (hexec : p.tables.exec = Jvm.exec) {own C : String} {index : Nat} (hown : s.vm.findClass own = some m.cls) (hlink : (Cond.classLink own index C).before args s = true) {a : Addr} (hE : Exact C a T)
    {g : JFrame} (hg : g.method = m) {rest : List Value} (hstack : g.stack = .ref a :: rest) (hdg : decode c.code g.pc = .ok (.instanceof index, 3)) :
    ∃ T', Stand p l e R s m args below meth c T' locs cells slots ∧ T'.heap = T.heap ∧ ∀ target, Steps p.tables e below (T'.setTop { g with pc := g.pc + 3, stack := .int 1 :: rest }) target → Steps p.tables e below (T.setTop g) target := by
  obtain ⟨cB, h1, D, h2, h3, h4⟩ := hE
  have h1' : s.vm.findClass C = some cB := by rw [← X.warmed.alike.findClass]; exact h1
  obtain ⟨vm', X', st⟩ := X.instanceofYes hexec hown hlink h2 h4 h1' (by rw [h3]; exact Jvm.Free.SB.assignable_self _ _) hg hstack hdg
  exact ⟨_, X', rfl, st⟩
theorem cself {p : Program} {l : Launch} {e : Env} {R : Room} {s : State} {m : MethodId} {args : Array Value} {below : List Frame} {meth : Method} {c : Code} {T : State} {locs : List Loc} {cells slots : Nat} (X : Stand p l e R s m args below meth c T locs cells slots) (hexec : p.tables.exec = Jvm.exec) {own C : String} {index : Nat} (hown : s.vm.findClass own = some m.cls) (hlink : (Cond.classLink own index C).before args s = true) {a : Addr} (hE : Exact C a T)
    {g : JFrame} (hg : g.method = m) {rest : List Value} (hstack : g.stack = .ref a :: rest) (hdg : decode c.code g.pc = .ok (.checkcast index, 3)) :
    ∃ T', Stand p l e R s m args below meth c T' locs cells slots ∧ T'.heap = T.heap ∧ ∀ target, Steps p.tables e below (T'.setTop { g with pc := g.pc + 3, stack := .ref a :: rest }) target → Steps p.tables e below (T.setTop g) target := by
  obtain ⟨cB, h1, D, h2, h3, h4⟩ := hE
  have h1' : s.vm.findClass C = some cB := by rw [← X.warmed.alike.findClass]; exact h1
  obtain ⟨vm', X', st⟩ := X.checkcastYes hexec hown hlink h2 h4 h1' (by rw [h3]; exact Jvm.Free.SB.assignable_self _ _) hg hstack hdg
  exact ⟨_, X', rfl, fun t h => st t (by rw [← hstack] at h; exact h)⟩
namespace SEq
def yN : MethodName := ⟨"java/lang/String", "equals", "(Ljava/lang/Object;)Z"⟩
abbrev yB : ByteArray := jdk_42_method_66_code
theorem d0 : decode yB 0 = .ok (.aload_n 0, 1) := by decide +kernel
theorem d1 : decode yB 1 = .ok (.aload_n 1, 1) := by decide +kernel
theorem d2 : decode yB 2 = .ok (.if_acmp (.ne) 5, 3) := by decide +kernel
theorem d5 : decode yB 5 = .ok (.iconst 1, 1) := by decide +kernel
theorem d6 : decode yB 6 = .ok (.ireturn, 1) := by decide +kernel
theorem d7 : decode yB 7 = .ok (.aload_n 1, 1) := by decide +kernel
theorem d8 : decode yB 8 = .ok (.instanceof 10, 3) := by decide +kernel
theorem d11 : decode yB 11 = .ok (.ifCond (.eq) 43, 3) := by decide +kernel
theorem d14 : decode yB 14 = .ok (.aload_n 1, 1) := by decide +kernel
theorem d15 : decode yB 15 = .ok (.checkcast 10, 3) := by decide +kernel
theorem d18 : decode yB 18 = .ok (.astore_n 2, 1) := by decide +kernel
theorem d19 : decode yB 19 = .ok (.getstatic 38, 3) := by decide +kernel
theorem d22 : decode yB 22 = .ok (.ifCond (.eq) 14, 3) := by decide +kernel
theorem d25 : decode yB 25 = .ok (.aload_n 0, 1) := by decide +kernel
theorem d26 : decode yB 26 = .ok (.getfield 15, 3) := by decide +kernel
theorem d29 : decode yB 29 = .ok (.aload_n 2, 1) := by decide +kernel
theorem d30 : decode yB 30 = .ok (.getfield 15, 3) := by decide +kernel
theorem d33 : decode yB 33 = .ok (.if_icmp (.ne) 21, 3) := by decide +kernel
theorem d36 : decode yB 36 = .ok (.aload_n 0, 1) := by decide +kernel
theorem d37 : decode yB 37 = .ok (.getfield 9, 3) := by decide +kernel
theorem d40 : decode yB 40 = .ok (.aload_n 2, 1) := by decide +kernel
theorem d41 : decode yB 41 = .ok (.getfield 9, 3) := by decide +kernel
theorem d44 : decode yB 44 = .ok (.invokestatic 541, 3) := by decide +kernel
theorem d47 : decode yB 47 = .ok (.ifCond (.eq) 7, 3) := by decide +kernel
theorem d50 : decode yB 50 = .ok (.iconst 1, 1) := by decide +kernel
theorem d51 : decode yB 51 = .ok (.goto 4, 3) := by decide +kernel
theorem d54 : decode yB 54 = .ok (.iconst 0, 1) := by decide +kernel
theorem d55 : decode yB 55 = .ok (.ireturn, 1) := by decide +kernel
def site : List Cond := [.classLink "java/lang/String" 10 "java/lang/String", .fieldLink "java/lang/String" 38 "java/lang/String" "COMPACT_STRINGS" "Z", .fieldLink "java/lang/String" 15 "java/lang/String" "coder" "B", .fieldLink "java/lang/String" 9 "java/lang/String" "value" "[B", LEq.tab] ++ staticW "java/lang/String" 541 LEq.yN
def tab : Cond := tabOf yN yB 3 (some .boolean) site
def P (x t : Addr) (V : Cell) (cd : Int32) (n : Nat) (f : Nat → Int32) (y t' : Addr) (V' : Cell) (cd' : Int32) (k : Nat) (g : Nat → Int32) (z : Int32) (args : Array Value) (s : State) : Prop := args = #[.ref x, .ref y] ∧ Txt x t V cd n f s ∧ Txt y t' V' cd' k g s ∧ StaticIs s "java/lang/String" "COMPACT_STRINGS" "Z" (.int z) ∧ ¬ z = 0
/-- equals(Object) of two Strings: whether the texts are the same -/
theorem law (l : Launch) (x t : Addr) (V : Cell) (cd : Int32) (n : Nat) (f : Nat → Int32) (y t' : Addr) (V' : Cell) (cd' : Int32) (k : Nat) (g : Nat → Int32) (z : Int32) : Law l yN 2 1 1 14 yB 3 (some .boolean) site (P x t V cd n f y t' V' cd' k g z) (Says01 (SameT n f k g)) [] 0 0 := by
  refine Law.of_walk (plainFor_of_name (by decide +kernel)) (by decide +kernel) (by decide +kernel) (by decide) (fun _ _ h => by rw [h.1]; rfl) (fun _ U U' hal hh h => ⟨h.1, h.2.1.mv hal hh, h.2.2.1.mv hal hh, h.2.2.2.1.there hal hh, h.2.2.2.2⟩) (fun r U U' V V' h1 hal h2 h => Says01.mv r U U' V V' h1 hal h2 h) ?_
  intro p e s m args below meth c s₁ X0 hexec hbytes hml hret hlk hnm hown hh0 W hP
  obtain ⟨rfl, hx, hy, s1, hz⟩ := hP
  have c1 : Steps p.tables e below (s₁.setTop (entryFrame m #[.ref x, .ref y] 3)) (s₁.setTop (mkF m 2 #[.val (.ref x), .val (.ref y), .unset] [.ref y, .ref x])) := Steps.trans (entry rfl) (by
    show Steps p.tables e below (s₁.setTop (mkF m 0 #[.val (.ref x), .val (.ref y), .unset] [])) _
    refine XS.aloadN X0.here hexec rfl (hb hbytes d0) rfl rfl ?_
    refine XS.aloadN X0.here hexec rfl (hb hbytes d1) rfl rfl ?_
    exact Steps.refl _)
  by_cases hxy : x = y
  · have c2 : Steps p.tables e below (s₁.setTop (entryFrame m #[.ref x, .ref y] 3)) (s₁.setTop (mkF m 6 #[.val (.ref x), .val (.ref y), .unset] [.int 1])) := c1.trans (by
      refine acmpNo X0.here hexec rfl (hb hbytes d2) rfl rfl rfl (by simp [acmp, hxy]) ?_
      refine iconstV X0.here hexec rfl 1 (hb hbytes d5) (by decide) ?_
      exact Steps.refl _)
    subst hxy
    have ec : cd = cd' := by
      obtain ⟨D, fd, a1, a2, a3⟩ := hx.2.2.1
      obtain ⟨D', fd', b1, b2, b3⟩ := hy.2.2.1
      cases a1.symm.trans b1
      obtain ⟨q1, q2, q3, q4⟩ := a2.1
      obtain ⟨r1, r2, r3, r4⟩ := b2.1
      cases q4.symm.trans r4
      cases a3.symm.trans b3; rfl
    have et : t = t' := by
      obtain ⟨D, fd, a1, a2, a3⟩ := hx.2.1
      obtain ⟨D', fd', b1, b2, b3⟩ := hy.2.1
      cases a1.symm.trans b1
      obtain ⟨q1, q2, q3, q4⟩ := a2.1
      obtain ⟨r1, r2, r3, r4⟩ := b2.1
      cases q4.symm.trans r4
      cases a3.symm.trans b3; rfl
    subst ec et
    have ev : V = V' := by cases hx.2.2.2.1.1.symm.trans hy.2.2.2.1.1; rfl
    subst ev
    have hs : SameT n f k g := (Cod.eqv hx.2.2.2.2.1 hy.2.2.2.2.1 hx.2.2.2.2.2 hy.2.2.2.2.2).mp ⟨rfl, fun _ _ => rfl⟩
    exact ⟨s₁, some (.int 1), _, _, _, X0, rfl, rfl, rfl, (fun h => by cases h), ⟨1, rfl, hh0, Or.inl ⟨rfl, hs⟩⟩, fun fs hl => c2.trans (X0.ireturnOut hexec hret rfl (Or.inr (Or.inl rfl)) (hb hbytes d6) hl)⟩
  · have c2 : Steps p.tables e below (s₁.setTop (entryFrame m #[.ref x, .ref y] 3)) (s₁.setTop (mkF m 8 #[.val (.ref x), .val (.ref y), .unset] [.ref y])) := c1.trans (by
      refine acmpYes X0.here hexec rfl (pc0 := 2) rfl (hb hbytes d2) rfl rfl rfl (by simp [acmp, hxy]) (by decide) rfl ?_
      refine XS.aloadN X0.here hexec rfl (hb hbytes d7) rfl rfl ?_
      exact Steps.refl _)
    obtain ⟨T3, X3, q3, st3⟩ := cinst X0 hexec hown (wk W (.classLink "java/lang/String" 10 "java/lang/String")) (hy.mv X0.warmed.alike hh0).1 (g := (mkF m 8 #[.val (.ref x), .val (.ref y), .unset] [.ref y])) rfl (rest := []) rfl (hb hbytes d8)
    have hh3 := q3.trans hh0
    have c4 : Steps p.tables e below (s₁.setTop (entryFrame m #[.ref x, .ref y] 3)) (T3.setTop (mkF m 15 #[.val (.ref x), .val (.ref y), .unset] [.ref y])) := (c2.trans (st3 _ (Steps.refl _))).trans (by
      refine XS.ifNo X3.here hexec rfl (hb hbytes d11) rfl (i0_eq_f (by decide)) ?_
      refine XS.aloadN X3.here hexec rfl (hb hbytes d14) rfl rfl ?_
      exact Steps.refl _)
    obtain ⟨T5, X5, q5, st5⟩ := cself X3 hexec hown (wk W (.classLink "java/lang/String" 10 "java/lang/String")) (hy.mv X3.warmed.alike hh3).1 (g := (mkF m 15 #[.val (.ref x), .val (.ref y), .unset] [.ref y])) rfl (rest := []) rfl (hb hbytes d15)
    have hh5 := q5.trans hh3
    have c6 : Steps p.tables e below (s₁.setTop (entryFrame m #[.ref x, .ref y] 3)) (T5.setTop (mkF m 19 #[.val (.ref x), .val (.ref y), .val (.ref y)] [])) := (c4.trans (st5 _ (Steps.refl _))).trans (by
      refine XS.astoreN X5.here hexec rfl (hb hbytes d18) rfl rfl rfl ?_
      exact Steps.refl _)
    obtain ⟨T7, X7, q7, st7⟩ := X5.sget hexec hown (wk W (.fieldLink "java/lang/String" 38 "java/lang/String" "COMPACT_STRINGS" "Z")) s1 (fun _ _ h => by rw [hh5]; exact h) (g := (mkF m 19 #[.val (.ref x), .val (.ref y), .val (.ref y)] [])) rfl (hb hbytes d19)
    have hh7 := q7.trans hh5
    have c8 : Steps p.tables e below (s₁.setTop (entryFrame m #[.ref x, .ref y] 3)) (T7.setTop (mkF m 26 #[.val (.ref x), .val (.ref y), .val (.ref y)] [.ref x])) := (c6.trans (st7 _ (Steps.refl _))).trans (by
      refine XS.ifNo X7.here hexec rfl (hb hbytes d22) rfl (i0_eq_f hz) ?_
      refine XS.aloadN X7.here hexec rfl (hb hbytes d25) rfl rfl ?_
      exact Steps.refl _)
    obtain ⟨T9, X9, q9, st9⟩ := X7.hget hexec hown (wk W (.fieldLink "java/lang/String" 15 "java/lang/String" "coder" "B")) (hx.mv X7.warmed.alike hh7).2.2.1 (g := (mkF m 26 #[.val (.ref x), .val (.ref y), .val (.ref y)] [.ref x])) rfl (rest := []) rfl (hb hbytes d26)
    have hh9 := q9.trans hh7
    have c10 : Steps p.tables e below (s₁.setTop (entryFrame m #[.ref x, .ref y] 3)) (T9.setTop (mkF m 30 #[.val (.ref x), .val (.ref y), .val (.ref y)] [.ref y, .int cd])) := (c8.trans (st9 _ (Steps.refl _))).trans (by
      refine XS.aloadN X9.here hexec rfl (hb hbytes d29) rfl rfl ?_
      exact Steps.refl _)
    obtain ⟨T11, X11, q11, st11⟩ := X9.hget hexec hown (wk W (.fieldLink "java/lang/String" 15 "java/lang/String" "coder" "B")) (hy.mv X9.warmed.alike hh9).2.2.1 (g := (mkF m 30 #[.val (.ref x), .val (.ref y), .val (.ref y)] [.ref y, .int cd])) rfl (rest := [.int cd]) rfl (hb hbytes d30)
    have hh11 := q11.trans hh9
    have c12 : Steps p.tables e below (s₁.setTop (entryFrame m #[.ref x, .ref y] 3)) (T11.setTop (mkF m 33 #[.val (.ref x), .val (.ref y), .val (.ref y)] [.int cd', .int cd])) := c10.trans (st11 _ (Steps.refl _))
    by_cases hcd : cd = cd'
    · subst hcd
      have c13 : Steps p.tables e below (s₁.setTop (entryFrame m #[.ref x, .ref y] 3)) (T11.setTop (mkF m 37 #[.val (.ref x), .val (.ref y), .val (.ref y)] [.ref x])) := c12.trans (by
        refine XS.icmpNo X11.here hexec rfl (hb hbytes d33) rfl (ii_ne_f rfl) ?_
        refine XS.aloadN X11.here hexec rfl (hb hbytes d36) rfl rfl ?_
        exact Steps.refl _)
      obtain ⟨T14, X14, q14, st14⟩ := X11.hget hexec hown (wk W (.fieldLink "java/lang/String" 9 "java/lang/String" "value" "[B")) (hx.mv X11.warmed.alike hh11).2.1 (g := (mkF m 37 #[.val (.ref x), .val (.ref y), .val (.ref y)] [.ref x])) rfl (rest := []) rfl (hb hbytes d37)
      have hh14 := q14.trans hh11
      have c15 : Steps p.tables e below (s₁.setTop (entryFrame m #[.ref x, .ref y] 3)) (T14.setTop (mkF m 41 #[.val (.ref x), .val (.ref y), .val (.ref y)] [.ref y, .ref t])) := (c13.trans (st14 _ (Steps.refl _))).trans (by
        refine XS.aloadN X14.here hexec rfl (hb hbytes d40) rfl rfl ?_
        exact Steps.refl _)
      obtain ⟨T16, X16, q16, st16⟩ := X14.hget hexec hown (wk W (.fieldLink "java/lang/String" 9 "java/lang/String" "value" "[B")) (hy.mv X14.warmed.alike hh14).2.1 (g := (mkF m 41 #[.val (.ref x), .val (.ref y), .val (.ref y)] [.ref y, .ref t])) rfl (rest := [.ref t]) rfl (hb hbytes d41)
      have hh16 := q16.trans hh14
      have c17 : Steps p.tables e below (s₁.setTop (entryFrame m #[.ref x, .ref y] 3)) (T16.setTop (mkF m 44 #[.val (.ref x), .val (.ref y), .val (.ref y)] [.ref t', .ref t])) := c15.trans (st16 _ (Steps.refl _))
      obtain ⟨v18, T18, X18, E18, g18⟩ := X16.callS hexec (LEq.law l t V t' V') hown (wks W (staticW "java/lang/String" 541 LEq.yN)) (wk W LEq.tab) (W := 0) (Nat.le_of_ble_eq_true rfl) (Nat.le_of_ble_eq_true rfl) (Nat.le_refl _) (Nat.le_refl _) (g := (mkF m 44 #[.val (.ref x), .val (.ref y), .val (.ref y)] [.ref t', .ref t])) rfl (by rw [hml]; rfl) c17 (argsL := [.ref t, .ref t']) (rest := []) rfl rfl (by show 2 * 0 + 0 ≤ _; decide) (hb hbytes d44) (⟨rfl, hx.2.2.2.1.mv X16.warmed.alike hh16, hx.2.2.2.2.1.ty, hy.2.2.2.1.mv X16.warmed.alike hh16, hy.2.2.2.2.1.ty⟩)
      obtain ⟨v, rfl, q18, hv⟩ := E18
      have iff := Cod.eqv hx.2.2.2.2.1 hy.2.2.2.2.1 hx.2.2.2.2.2 hy.2.2.2.2.2
      rcases hv with ⟨rfl, he⟩ | ⟨rfl, he⟩
      · have c19 : Steps p.tables e below (s₁.setTop (entryFrame m #[.ref x, .ref y] 3)) (T18.setTop (mkF m 55 #[.val (.ref x), .val (.ref y), .val (.ref y)] [.int 1])) := Steps.trans g18 (by
          refine XS.ifNo X18.here hexec rfl (hb hbytes d47) rfl (i0_eq_f (by decide)) ?_
          refine iconstV X18.here hexec rfl 1 (hb hbytes d50) (by decide) ?_
          refine XS.goto X18.here hexec rfl (pc0 := 51) rfl (hb hbytes d51) (by decide) rfl ?_
          exact Steps.refl _)
        exact ⟨T18, some (.int 1), _, _, _, X18, rfl, rfl, rfl, (fun h => by cases h), ⟨1, rfl, q18.trans hh16, Or.inl ⟨rfl, iff.mp he⟩⟩, fun fs hl => c19.trans (X18.ireturnOut hexec hret rfl (Or.inr (Or.inl rfl)) (hb hbytes d55) hl)⟩
      · have c19 : Steps p.tables e below (s₁.setTop (entryFrame m #[.ref x, .ref y] 3)) (T18.setTop (mkF m 55 #[.val (.ref x), .val (.ref y), .val (.ref y)] [.int 0])) := Steps.trans g18 (by
          refine XS.ifYes X18.here hexec rfl (pc0 := 47) rfl (hb hbytes d47) rfl (i0_eq_t rfl) (by decide) rfl ?_
          refine iconstV X18.here hexec rfl 0 (hb hbytes d54) (by decide) ?_
          exact Steps.refl _)
        exact ⟨T18, some (.int 0), _, _, _, X18, rfl, rfl, rfl, (fun h => by cases h), ⟨0, rfl, q18.trans hh16, Or.inr ⟨rfl, fun q => he (iff.mpr q)⟩⟩, fun fs hl => c19.trans (X18.ireturnOut hexec hret rfl (Or.inr (Or.inl rfl)) (hb hbytes d55) hl)⟩
    · have c13 : Steps p.tables e below (s₁.setTop (entryFrame m #[.ref x, .ref y] 3)) (T11.setTop (mkF m 55 #[.val (.ref x), .val (.ref y), .val (.ref y)] [.int 0])) := c12.trans (by
        refine XS.icmpYes X11.here hexec rfl (pc0 := 33) rfl (hb hbytes d33) rfl (ii_ne_t hcd) (by decide) rfl ?_
        refine iconstV X11.here hexec rfl 0 (hb hbytes d54) (by decide) ?_
        exact Steps.refl _)
      exact ⟨T11, some (.int 0), _, _, _, X11, rfl, rfl, rfl, (fun h => by cases h), ⟨0, rfl, hh11, Or.inr ⟨rfl, Cod.dif hx.2.2.2.2.1 hy.2.2.2.2.1 hcd⟩⟩, fun fs hl => c13.trans (X11.ireturnOut hexec hret rfl (Or.inr (Or.inl rfl)) (hb hbytes d55) hl)⟩
theorem pays {l : Launch} {R : Room} {p : Program} {e : Env} {below : List Frame} {s : State} {sargs : Array Value} {len W : Nat} (x t : Addr) (V : Cell) (cd : Int32) (n : Nat) (f : Nat → Int32) (y t' : Addr) (V' : Cell) (cd' : Int32) (k : Nat) (g : Nat → Int32) (z : Int32) (htab : tab.before sargs s = true) (hfr : 2 ≤ R.frames) (hlo : W + 28 ≤ R.locals) :
    Back l R p e below s sargs yN len W (fun A₁ a₁ => A₁.cells + 0 ≤ R.cells ∧ A₁.slots + 0 ≤ R.slots ∧ P x t V cd n f y t' V' cd' k g z a₁ A₁.U) (fun A₁ _ v₁ B₁ => Says01 (SameT n f k g) v₁ A₁.U B₁.U ∧ B₁.locs = A₁.locs ++ [] ∧ B₁.cells = A₁.cells + 0 ∧ B₁.slots = A₁.slots + 0) :=
  (law l x t V cd n f y t' V' cd' k g z).pays htab hfr (by omega)
end SEq
end StrChars
namespace StrChars.Road
open Jvm Sem ClassFile Op Lib Jvm.Stand Jvm.Free Jvm.Free.XT
open Jvm.Lib.Cold (StaticIs)
/-- the words of String.equals(Object) -/
abbrev wordsEq : List Jvm.Cond := [.code SEq.yN SEq.yB 3 (some .boolean), .initialized ST, .classLink ST 10 ST, .fieldLink ST 38 ST "COMPACT_STRINGS" "Z", .fieldLink ST 15 ST "coder" "B", .fieldLink ST 9 ST "value" "[B", .methodLink ST 541 LEq.yN, .static LEq.yN, .code LEq.yN LEq.yB 3 (some .boolean), .initialized "java/lang/StringLatin1"]
theorem tabEq_of {a : Array Value} {s : State} (h : ∀ w ∈ wordsEq, w.before a s = true) : SEq.tab.before a s = true := by
  have hl : LEq.tab.before a s = true := unparts (wk h (.code LEq.yN LEq.yB 3 (some .boolean))) (wks h (.initialized LEq.yN.cls :: LEq.site))
  have q := consq hl h
  exact unparts (wk q (.code SEq.yN SEq.yB 3 (some .boolean))) (wks q (.initialized SEq.yN.cls :: SEq.site))
theorem movedEq {Z s : State} {a0 args : Array Value} (hZ : Z.Warmed39 s.vm) (hw : ∀ d ∈ wordsEq, d.before a0 Z = true) : ∀ d ∈ wordsEq, d.before args s = true := fun d hd => by
  have t : ∀ d ∈ wordsEq, (d.onTables && d.keepsFace) = true := by decide +kernel
  exact RoadKit.mv hZ (hw d hd) (t d hd)
/-- the road's facts of a String, as the laws ask it -/
theorem txt_of {Z U : State} {a0 : Array Value} {kI : Nat} (wi : (Jvm.Cond.instantiable ST kI).before a0 Z = true) (al : Z.vm.Alike U.vm) {x t : Addr} {kb : ClassId} {cs : List Int32} {cd N2 : Int32} {vs : List Value} (E : RoadKit.Exa Z U.heap x ST) (V : RoadKit.Fld Z U.heap x ST "value" "[B" (.ref t)) (C : RoadKit.Fld Z U.heap x ST "coder" "B" (.int cd)) (K : RoadKit.Arv Z U.heap t kb .byte N2 vs (.int 0)) (hc : CodA cs cd N2 vs) (hb : ∀ c ∈ cs, ¬ c < 0 ∧ ¬ (65535 : Int32) < c) (l2 : cs.length ≤ 4000) :
    ∃ A, Txt x t A cd cs.length (fun j => cs.getD j 0) U := by
  obtain ⟨A, K1, K2, K3, K4, K5, K6⟩ := K
  have hcod := hc.cod (by omega) K3 K5
  obtain ⟨D, fV, fC, hB, F1, F2, g1, g2, -, -⟩ := strObj wi al E V C
  exact ⟨A, ⟨_, hB.2.2.1, D, hB.1, rfl, by cases q : D.vm <;> first | rfl | exact absurd q (hB.2.1.2 _)⟩, Has.of hB F1 g1, Has.of hB F2 g2, ⟨K1.1, State.isArrayOf_alike al K1.2.1, K1.2.2, by rcases hcod with ⟨-, q, -⟩ | ⟨-, q, -⟩ <;> omega⟩, hcod, fun j hj => by
    have e : cs.getD j 0 = cs[j] := by simp [List.getD_eq_getElem?_getD, hj]
    show ¬ cs.getD j 0 < 0 ∧ ¬ 65535 < cs.getD j 0
    rw [e]; exact hb _ (List.getElem_mem _)⟩
theorem same_list (cs ds : List Int32) : SameT cs.length (fun j => cs.getD j 0) ds.length (fun j => ds.getD j 0) ↔ cs = ds := by
  constructor
  · rintro ⟨e, q⟩
    refine List.ext_getElem e fun j h1 h2 => ?_
    have := q j h1
    simpa [List.getD_eq_getElem?_getD, h1, h2] using this
  · rintro rfl
    exact ⟨rfl, fun _ _ => rfl⟩
/-- **equals(Object) OF TWO SUCH STRINGS**: 1 just where the chars are the same -/
theorem eqW {p : Program} {l : Launch} {e : Env} {R : Room} {s : State} {args : Array Value} {below : List Frame} {len W : Nat} {Z : State} {a0 : Array Value} {h : Heap} (hZ : Z.Warmed39 s.vm) (hw : ∀ d ∈ wordsEq, d.before a0 Z = true) {kI : Nat} (wi : (Jvm.Cond.instantiable ST kI).before a0 Z = true)
    {x t : Addr} {kb : ClassId} {cs : List Int32} {cd N2 : Int32} {vs : List Value} (E : RoadKit.Exa Z h x ST) (V : RoadKit.Fld Z h x ST "value" "[B" (.ref t)) (C : RoadKit.Fld Z h x ST "coder" "B" (.int cd)) (K : RoadKit.Arv Z h t kb .byte N2 vs (.int 0)) (hc : CodA cs cd N2 vs) (hb : ∀ c ∈ cs, ¬ c < 0 ∧ ¬ (65535 : Int32) < c) (l2 : cs.length ≤ 4000)
    {y t' : Addr} {kb' : ClassId} {ds : List Int32} {cd' N2' : Int32} {vs' : List Value} (E' : RoadKit.Exa Z h y ST) (V' : RoadKit.Fld Z h y ST "value" "[B" (.ref t')) (C' : RoadKit.Fld Z h y ST "coder" "B" (.int cd')) (K' : RoadKit.Arv Z h t' kb' .byte N2' vs' (.int 0)) (hc' : CodA ds cd' N2' vs') (hb' : ∀ c ∈ ds, ¬ c < 0 ∧ ¬ (65535 : Int32) < c) (l2' : ds.length ≤ 4000)
    {z : Int32} (S : RoadKit.Sta Z h ST "COMPACT_STRINGS" "Z" (.int z)) (hz : ¬ z = 0) (hfr : 2 ≤ R.frames) (hlo : W + 28 ≤ R.locals) :
    Back l R p e below s args (⟨"java/lang/String", "equals", "(Ljava/lang/Object;)Z"⟩ : MethodName) len W (fun P a => a = #[.ref x, .ref y] ∧ P.U.heap = h ∧ P.cells + 0 ≤ R.cells ∧ P.slots + 0 ≤ R.slots)
      (fun P _ v B => ∃ L, (((v = some (.int 1) ∧ cs = ds) ∨ (v = some (.int 0) ∧ ¬ cs = ds)) ∧ L = [] ∧ B.U.heap = h) ∧ B.locs = P.locs ++ L ∧ B.cells = P.cells + 0 ∧ B.slots = P.slots + 0) := by
  intro m meth c P g ig mk a X hg hsize hdg hW hn hp'
  obtain ⟨rfl, rfl, r1, r2⟩ := hp'
  have al : Z.vm.Alike P.U.vm := hZ.alike.trans X.warmed.alike
  obtain ⟨A, hx⟩ := txt_of wi al E V C K hc hb l2
  obtain ⟨A', hy⟩ := txt_of wi al E' V' C' K' hc' hb' l2'
  obtain ⟨v, B, X', ⟨⟨w, hv, hh, hq⟩, hl, hk, hs⟩, st⟩ := SEq.pays x t A cd cs.length (fun j => cs.getD j 0) y t' A' cd' ds.length (fun j => ds.getD j 0) z (tabEq_of (movedEq hZ hw)) hfr hlo m meth c P g ig mk _ X hg hsize hdg hW hn ⟨r1, r2, rfl, hx, hy, sta_is al S, hz⟩
  refine ⟨v, B, X', ⟨[], ⟨?_, rfl, hh⟩, hl, hk, hs⟩, st⟩
  rcases hq with ⟨rfl, q⟩ | ⟨rfl, q⟩
  · exact Or.inl ⟨hv, (same_list cs ds).mp q⟩
  · exact Or.inr ⟨hv, fun e => q ((same_list cs ds).mpr e)⟩
end StrChars.Road
namespace StrChars.Road
open Jvm Sem ClassFile Op Lib Jvm.Stand Jvm.Free Jvm.Free.XT
open Jvm.Lib.Cold (StaticIs)
/-- what backV says of its String, as the contracts of this text ask it: cs's low bytes, coder 0 -/
theorem codOf {cs : List Int32} {n : Nat} (hn : cs.length = n) (hb : ∀ c ∈ cs, ¬ 255 < c) : CodA cs 0 (Int32.ofNat n) ((cs.map lo8).map Value.int) := Or.inl ⟨rfl, by rw [hn], by simp [List.map_map, Function.comp_def], hb⟩
end StrChars.Road
end Jvm.Pilot.@@N@@
namespace Jvm.Pilot.@@N@@
open Jvm Jvm.ClassFile Sem Op Lib Jvm.Free Jvm.Stand Jvm.LawKit Jvm.RoadKit Bundle Jvm.Pilot.@@N@@.Jvm.D
theorem own_retJ {p : Program} {l : Launch} {e : Env} {R : Room} {s : State} {m : MethodId} {args : Array Value} {below : List Frame} {meth : Method} {c : Code} {T : State} {locs : List Loc} {cells slots : Nat} (X : Stand p l e R s m args below meth c T locs cells slots) (hx : p.tables.exec = Jvm.exec) {pc : Nat} {Ls : Array Slot} {z : Int64} {rest : List Value} (hret : meth.sig.returnType = some .long) (hd : decode c.code pc = .ok (.lreturn, 1)) {fs : List Frame}
    (hl : ∀ (f : JFrame) (acts : List Action), f.method = m → f.locked = none → f.entered = [] → (doReturn e (T.setTop f) acts (some (.long z))).1 = T.setFrames fs) : Steps p.tables e below (T.setTop (mkF m pc Ls (.long z :: rest))) (T.setFrames fs) := by
  have hm' : T.vm.method? m = some meth := X.method'
  have hn : narrow .long (.long z) = .long z := rfl
  show Steps p.tables e below (T.setTop { method := m, pc := pc, locals := Ls, stack := _ :: rest, locked := none }) _
  jvm_step X.here [X.here.top, hx, hd, hm', hret, hn]
  first | (intro acts; rw [hl _ acts rfl rfl rfl]) | rw [hl _ _ rfl rfl rfl]
  exact Steps.refl _
theorem own_backSH {p : Program} {l : Launch} {e : Env} {R : Room} {s : State} {args : Array Value} {below : List Frame} {Z : State} {a0 : Array Value} {h : Heap} {vm0 : Vm} {EL : List (String × Nat)} {y : MethodName} {bytes : ByteArray} {maxL : Nat} {ret : Option FieldType} {rm : Room} {len W : Nat} {as' : Array Value} {Q : Option Value → Heap → List Loc → Prop} (Ex : Vm → Prop)
    (hM : MetFree l y (head1 [Cond.code y bytes maxL ret] rm) (fun a U => a = as' ∧ Z.Warmed39 U.vm ∧ U.heap = h ∧ CHv Z EL U.vm h ∧ Ex U.vm) (fun _ _ _ _ _ => True) (fun _ U o U' => ∃ v L, o = .returned v ∧ Q v U'.heap L ∧ CHr Z EL U.vm U.heap U'.vm U'.heap ∧ ReturnedEndW U o U' L rm.cells rm.slots))
    (hZ : Z.Warmed39 vm0) (wc : (Cond.code y bytes maxL ret).before a0 Z = true) (wz : (Cond.initialized y.cls).before a0 Z = true) (hf : rm.frames + 1 ≤ R.frames) (hl : W + (maxL + 11) + rm.locals ≤ R.locals) (hEL : EW Z a0 EL) (H : CHv Z EL vm0 h) (hEx : ∀ vm, CHr Z EL vm0 h vm h → Ex vm) :
    BackS l R p e below (s.setVm vm0) args y len W (fun A a => a = as' ∧ A.U.heap = h ∧ A.cells + rm.cells ≤ R.cells ∧ A.slots + rm.slots ≤ R.slots)
      (fun A _ v B => ∃ L, Q v B.U.heap L ∧ B.locs = A.locs ++ L ∧ B.cells = A.cells + rm.cells ∧ B.slots = A.slots + rm.slots ∧ CHr Z EL vm0 h B.U.vm B.U.heap) :=
  BackS.of_freeW (bytes := bytes) (maxL := maxL) (ret := ret) (E := fun _ first o t L k n => k = rm.cells ∧ n = rm.slots ∧ (∃ v, o = .returned v ∧ Q v t.heap L) ∧ CHr Z EL first.vm first.heap t.vm t.heap) hM hf hl
    (fun m meth c A a Y hp => have hU : Z.Warmed39 A.U.vm := wtrans (s := s.setVm vm0) hZ Y.warmed
      ⟨by show (Cond.and _ .tt).before a A.U = true; rw [Cond.before_and, mv hU wc]; rfl, mv hU wc, mv hU wz, hp.2.2.1, hp.2.2.2⟩)
    (fun m meth c A a g mk Y hp => ⟨hp.1, wtrans (s := s.setVm vm0) hZ Y.warmed, hp.2.1, (CHv.at Y hZ hEL H).1, hEx A.U.vm (CHv.at Y hZ hEL H)⟩) (fun _ _ _ _ _ _ _ _ _ => trivial)
    (fun _ _ _ _ ⟨v, L, h1, h2, h3, h4⟩ => ⟨L, _, _, h4, rfl, rfl, ⟨v, h1, h2⟩, h3⟩)
    (fun m meth c A a g mk v t L k n Y hp _ _ ⟨e1, e2, ⟨v', e3, e4⟩, e5⟩ => by
      cases e3; subst e1 e2
      refine ⟨L, e4, rfl, rfl, rfl, (CHv.at Y hZ hEL H).trans ?_⟩
      rw [← hp.2.1]; exact e5)
def own_Str (Z : State) (h : Heap) (a : Addr) (cs : List Int32) : Prop := ∃ (t : Addr) (kb : ClassId) (N2 : Int32) (vs : List Value), Exa Z h a "java/lang/String" ∧ Fld Z h a "java/lang/String" "value" "[B" (.ref t) ∧ Fld Z h a "java/lang/String" "coder" "B" (.int 0) ∧ Arv Z h t kb .byte N2 vs (.int 0) ∧ StrChars.Road.CodA cs 0 N2 vs ∧ (∀ c ∈ cs, ¬ c < 0 ∧ ¬ (65535 : Int32) < c) ∧ cs.length ≤ 4000
theorem own_Str_ext {Z : State} {h h' : Heap} {a : Addr} {cs : List Int32} (S : own_Str Z h a cs) (E : Ext h h') : own_Str Z h' a cs := by
  obtain ⟨t, kb, N2, vs, e, v, c, k, r⟩ := S
  exact ⟨t, kb, N2, vs, e.ext E, v.ext E, c.ext E, k.ext E, r⟩
theorem own_Str_keep {Z : State} {h h' : Heap} {a : Addr} {cs : List Int32} (S : own_Str Z h a cs) (K : Keep h h' []) : own_Str Z h' a cs := by
  obtain ⟨t, kb, N2, vs, e, v, c, k, r⟩ := S
  exact ⟨t, kb, N2, vs, e.keep K, v.keep K nin0, c.keep K nin0, k.keep K nin0, r⟩
theorem own_Str_lt {Z : State} {h : Heap} {a : Addr} {cs : List Int32} (S : own_Str Z h a cs) : a < h.size := by
  obtain ⟨t, kb, N2, vs, e, -⟩ := S
  exact e.lt
theorem own_Str_of {Z : State} {h : Heap} {a t : Addr} {kb : ClassId} {cs : List Int32} {n : Nat} {N : Int32} (hN : N = Int32.ofNat n) (hn : cs.length = n) (hp : ∀ c ∈ cs, ¬ c < 0 ∧ ¬ (255 : Int32) < c) (h40 : n ≤ 4000) (e : Exa Z h a "java/lang/String") (v : Fld Z h a "java/lang/String" "value" "[B" (.ref t)) (c : Fld Z h a "java/lang/String" "coder" "B" (.int 0)) (k : Arv Z h t kb .byte N ((cs.map fun c => c.toInt8.toInt32).map Value.int) (.int 0)) : own_Str Z h a cs := by
  subst hN
  refine ⟨t, kb, _, _, e, v, c, k, StrChars.Road.codOf hn (fun c hc => (hp c hc).2), fun c hc => ⟨(hp c hc).1, fun q => (hp c hc).2 ?_⟩, by omega⟩
  rw [Int32.lt_iff_toInt_lt] at q ⊢
  have e1 : (65535 : Int32).toInt = 65535 := by decide
  have e2 : (255 : Int32).toInt = 255 := by decide
  omega

theorem own_EL {Z : State} {a0 : Array Value} (hw : ∀ d ∈ tables_1, d.before a0 Z = true) : EW Z a0 consts_1 :=
  EW.cons (hw _ (List.mem_of_getElem? (i := 50) rfl)) (by decide) (EW.cons (hw _ (List.mem_of_getElem? (i := 112) rfl)) (by decide) (EW.cons (hw _ (List.mem_of_getElem? (i := 91) rfl)) (by decide) (EW.cons (hw _ (List.mem_of_getElem? (i := 13) rfl)) (by decide) EW.nil)))
def own_len (p m : Int32) : Int32 := if (p &&& (3 : Int32)) < m then m else (p &&& (3 : Int32))
def own_c (v : Int32) : Int32 := if (v &&& (3 : Int32)) = 0 then 97 else if (v &&& (3 : Int32)) = 1 then 65 else if (v &&& (3 : Int32)) = 2 then 98 else 126
def own_sh (p1 : Int32) (k : Int32) : Int32 := ((p1.toUInt32 >>> (k &&& 31).toUInt32).toInt32)
def own_part (p m : Int32) : List Int32 := if own_len p m = 0 then [] else if own_len p m = 1 then [own_c (own_sh p 2)] else if own_len p m = 2 then [own_c (own_sh p 2), own_c (own_sh p 4)] else [own_c (own_sh p 2), own_c (own_sh p 4), own_c (own_sh p 6)]
def own_used (n : Int32) : Int32 := if n = 0 then 0 else if n = 1 then 12 else if n = 2 then 60 else 252
def own_same (p q m : Int32) : Int32 := if own_len p m = own_len q m then (if ((p ^^^ q) &&& own_used (own_len p m)) = 0 then 1 else 0) else 0
def own_b (x : Int32) : Prop := 0 ≤ x.toInt ∧ x.toInt ≤ 255
theorem own_cases {x : Int32} (h : own_b x) (P : Int32 → Prop) (H : ∀ m : Fin 256, P (Int32.ofNat m.1)) : P x := by
  obtain ⟨h1, h2⟩ := h
  have e : x = Int32.ofNat x.toInt.toNat := by
    apply Int32.toInt_inj.mp
    rw [Int32.toInt_ofNat_of_lt (by omega)]
    omega
  rw [e]
  exact H ⟨x.toInt.toNat, by omega⟩
def own_h (a b x : Int32) : Int32 := if x = 0 then 97 else if x = a then 65 else if x = b then 98 else 126
theorem own_c2 {p : Int32} (h : own_b p) : own_c (own_sh p 2) = own_h 4 8 (p &&& 12) := own_cases h (fun p => own_c (own_sh p 2) = own_h 4 8 (p &&& 12)) (by decide +kernel)
theorem own_c4 {p : Int32} (h : own_b p) : own_c (own_sh p 4) = own_h 16 32 (p &&& 48) := own_cases h (fun p => own_c (own_sh p 4) = own_h 16 32 (p &&& 48)) (by decide +kernel)
theorem own_c6 {p : Int32} (h : own_b p) : own_c (own_sh p 6) = own_h 64 128 (p &&& 192) := own_cases h (fun p => own_c (own_sh p 6) = own_h 64 128 (p &&& 192)) (by decide +kernel)
theorem own_m2 {p : Int32} (h : own_b p) : p &&& 12 = 0 ∨ p &&& 12 = 4 ∨ p &&& 12 = 8 ∨ p &&& 12 = 12 := own_cases h (fun p => p &&& 12 = 0 ∨ p &&& 12 = 4 ∨ p &&& 12 = 8 ∨ p &&& 12 = 12) (by decide +kernel)
theorem own_m4 {p : Int32} (h : own_b p) : p &&& 48 = 0 ∨ p &&& 48 = 16 ∨ p &&& 48 = 32 ∨ p &&& 48 = 48 := own_cases h (fun p => p &&& 48 = 0 ∨ p &&& 48 = 16 ∨ p &&& 48 = 32 ∨ p &&& 48 = 48) (by decide +kernel)
theorem own_m6 {p : Int32} (h : own_b p) : p &&& 192 = 0 ∨ p &&& 192 = 64 ∨ p &&& 192 = 128 ∨ p &&& 192 = 192 := own_cases h (fun p => p &&& 192 = 0 ∨ p &&& 192 = 64 ∨ p &&& 192 = 128 ∨ p &&& 192 = 192) (by decide +kernel)
theorem own_j2 {p q : Int32} (hp : own_b p) (hq : own_b q) : own_c (own_sh p 2) = own_c (own_sh q 2) ↔ p &&& 12 = q &&& 12 := by
  rw [own_c2 hp, own_c2 hq]
  refine ⟨fun h => ?_, fun h => by rw [h]⟩
  rcases own_m2 hp with e | e | e | e <;> rcases own_m2 hq with f | f | f | f <;> rw [e, f] at h ⊢ <;> exact absurd h (by decide)
theorem own_j4 {p q : Int32} (hp : own_b p) (hq : own_b q) : own_c (own_sh p 4) = own_c (own_sh q 4) ↔ p &&& 48 = q &&& 48 := by
  rw [own_c4 hp, own_c4 hq]
  refine ⟨fun h => ?_, fun h => by rw [h]⟩
  rcases own_m4 hp with e | e | e | e <;> rcases own_m4 hq with f | f | f | f <;> rw [e, f] at h ⊢ <;> exact absurd h (by decide)
theorem own_j6 {p q : Int32} (hp : own_b p) (hq : own_b q) : own_c (own_sh p 6) = own_c (own_sh q 6) ↔ p &&& 192 = q &&& 192 := by
  rw [own_c6 hp, own_c6 hq]
  refine ⟨fun h => ?_, fun h => by rw [h]⟩
  rcases own_m6 hp with e | e | e | e <;> rcases own_m6 hq with f | f | f | f <;> rw [e, f] at h ⊢ <;> exact absurd h (by decide)
theorem own_and_xor (k p q : Int32) : k &&& (p ^^^ q) = (k &&& p) ^^^ (k &&& q) := by
  apply Int32.toBitVec_inj.mp
  simp only [Int32.toBitVec_and, Int32.toBitVec_xor]
  ext i hi
  simp only [BitVec.getElem_and, BitVec.getElem_xor]
  cases k.toBitVec[i] <;> simp
theorem own_and_or (k p q : Int32) : k &&& (p ||| q) = (k &&& p) ||| (k &&& q) := by
  apply Int32.toBitVec_inj.mp
  simp only [Int32.toBitVec_and, Int32.toBitVec_or]
  ext i hi
  simp only [BitVec.getElem_and, BitVec.getElem_or]
  cases k.toBitVec[i] <;> simp
theorem own_x (p q k : Int32) : ((p ^^^ q) &&& k) = 0 ↔ p &&& k = q &&& k := by
  rw [Int32.and_comm, own_and_xor, Int32.xor_eq_zero_iff, Int32.and_comm k p, Int32.and_comm k q]
theorem own_or {p q a b c : Int32} (hc : c = a ||| b) (ha : c &&& a = a) (hb : c &&& b = b) : p &&& c = q &&& c ↔ (p &&& a = q &&& a ∧ p &&& b = q &&& b) := by
  constructor
  · intro h
    constructor
    · rw [← ha, ← Int32.and_assoc, ← Int32.and_assoc, h]
    · rw [← hb, ← Int32.and_assoc, ← Int32.and_assoc, h]
  · rintro ⟨h1, h2⟩
    rw [hc, own_and_or, own_and_or, h1, h2]
theorem own_len0 {p : Int32} (h : own_b p) : own_len p 0 = 0 ∨ own_len p 0 = 1 ∨ own_len p 0 = 2 ∨ own_len p 0 = 3 := own_cases h (fun p => own_len p 0 = 0 ∨ own_len p 0 = 1 ∨ own_len p 0 = 2 ∨ own_len p 0 = 3) (by decide +kernel)
theorem own_len1 {p : Int32} (h : own_b p) : own_len p 1 = 0 ∨ own_len p 1 = 1 ∨ own_len p 1 = 2 ∨ own_len p 1 = 3 := own_cases h (fun p => own_len p 1 = 0 ∨ own_len p 1 = 1 ∨ own_len p 1 = 2 ∨ own_len p 1 = 3) (by decide +kernel)
theorem own_len1' {p : Int32} (h : own_b p) : ¬ own_len p 1 = 0 := own_cases h (fun p => ¬ own_len p 1 = 0) (by decide +kernel)
theorem own_eq {p q m : Int32} (hp : own_b p) (hq : own_b q) (hm : ∀ x : Int32, own_b x → own_len x m = 0 ∨ own_len x m = 1 ∨ own_len x m = 2 ∨ own_len x m = 3) : (own_part p m = own_part q m ↔ own_same p q m = 1) := by
  have z : ∀ x : Int32, own_b x → (own_part x m).length = (own_len x m).toInt.toNat := fun x hx => by
    unfold own_part
    rcases hm x hx with e | e | e | e <;> rw [e] <;> rfl
  unfold own_same
  by_cases h : own_len p m = own_len q m
  · rw [if_pos h, show (if ((p ^^^ q) &&& own_used (own_len p m)) = 0 then (1 : Int32) else 0) = 1 ↔ ((p ^^^ q) &&& own_used (own_len p m)) = 0 from ⟨fun e => by
      by_cases k : ((p ^^^ q) &&& own_used (own_len p m)) = 0
      · exact k
      · rw [if_neg k] at e; exact absurd e (by decide), fun e => if_pos e⟩]
    unfold own_part own_used
    rw [own_x, ← h]
    rcases hm p hp with e | e | e | e <;> rw [e]
    · simp
    · show ([own_c (own_sh p 2)] = [own_c (own_sh q 2)]) ↔ _
      rw [List.cons.injEq, own_j2 hp hq]; simp
    · show ([own_c (own_sh p 2), own_c (own_sh p 4)] = [own_c (own_sh q 2), own_c (own_sh q 4)]) ↔ p &&& 60 = q &&& 60
      rw [own_or (c := 60) (a := 12) (b := 48) (by decide) (by decide) (by decide), List.cons.injEq, List.cons.injEq, own_j2 hp hq, own_j4 hp hq]; simp
    · show ([own_c (own_sh p 2), own_c (own_sh p 4), own_c (own_sh p 6)] = [own_c (own_sh q 2), own_c (own_sh q 4), own_c (own_sh q 6)]) ↔ p &&& 252 = q &&& 252
      rw [own_or (c := 252) (a := 60) (b := 192) (by decide) (by decide) (by decide), own_or (c := 60) (a := 12) (b := 48) (by decide) (by decide) (by decide), List.cons.injEq, List.cons.injEq, List.cons.injEq, own_j2 hp hq, own_j4 hp hq, own_j6 hp hq]
      simp [and_assoc]
  · rw [if_neg h]
    refine ⟨fun e => absurd ?_ h, fun e => absurd e (by decide)⟩
    have e1 := congrArg List.length e
    rw [z p hp, z q hq] at e1
    rcases hm p hp with a | a | a | a <;> rcases hm q hq with b | b | b | b <;> rw [a, b] at e1 ⊢ <;> exact absurd e1 (by decide)

def own_ok (c : Int32) : Prop := 32 ≤ c.toInt ∧ c.toInt ≤ 126
theorem own_c_ok (v : Int32) : own_ok (own_c v) := by
  unfold own_c own_ok
  split
  · decide
  · split
    · decide
    · split <;> decide
theorem own_ok_b {c : Int32} (h : own_ok c) : own_b c := ⟨by have := h.1; omega, by have := h.2; omega⟩
theorem own_b_n {c : Int32} (h : own_b c) : ¬ c < 0 ∧ ¬ (255 : Int32) < c := by
  obtain ⟨h1, h2⟩ := h
  rw [Int32.lt_iff_toInt_lt, Int32.lt_iff_toInt_lt, Int32.toInt_zero, show (255 : Int32).toInt = 255 by decide]
  omega
theorem own_i2c {x : Int32} (h : own_b x) : x.toUInt32.toUInt16.toUInt32.toInt32 = x := own_cases h (fun x => x.toUInt32.toUInt16.toUInt32.toInt32 = x) (by decide +kernel)
theorem own_lo {x : Int32} (h : own_b x) : (x.toInt8.toInt32 &&& (255 : Int32)) = x := own_cases h (fun x => (x.toInt8.toInt32 &&& (255 : Int32)) = x) (by decide +kernel)
theorem own_nar {x : Int32} (h : own_b x) : nar .char x = x := own_i2c h
theorem own_c_nar (v : Int32) : nar .char (own_c v) = own_c v := own_nar (own_ok_b (own_c_ok v))
theorem own_part_ok (p m : Int32) : ∀ c ∈ own_part p m, own_ok c := by
  unfold own_part
  intro c hc
  split at hc
  · simp at hc
  · split at hc
    · simp only [List.mem_cons, List.not_mem_nil, or_false] at hc; subst hc; exact own_c_ok _
    · split at hc
      · simp only [List.mem_cons, List.not_mem_nil, or_false] at hc; rcases hc with rfl | rfl <;> exact own_c_ok _
      · simp only [List.mem_cons, List.not_mem_nil, or_false] at hc; rcases hc with rfl | rfl | rfl <;> exact own_c_ok _
theorem own_part_len (p m : Int32) : (own_part p m).length ≤ 3 := by
  unfold own_part
  split
  · exact Nat.zero_le _
  · split
    · exact Nat.le_of_ble_eq_true rfl
    · split <;> exact Nat.le_of_ble_eq_true rfl
theorem own_n3 {n : Nat} (hn : n ≤ 3) : ¬ (Int32.ofNat n < 0) ∧ (Int32.ofNat n).toNatClampNeg = n ∧ (Int32.ofNat n).toInt = n := by
  have e : (Int32.ofNat n).toInt = (n : Int) := Int32.toInt_ofNat_of_lt (by omega)
  refine ⟨by rw [Int32.lt_iff_toInt_lt, e, Int32.toInt_zero]; omega, ?_, e⟩
  rw [Int32.toNatClampNeg, e]; rfl
theorem d2_0 : decode method_3_code 0 = .ok (.iload_n 0, 1) := by decide +kernel
theorem d2_1 : decode method_3_code 1 = .ok (.iconst 3, 1) := by decide +kernel
theorem d2_2 : decode method_3_code 2 = .ok (.iand, 1) := by decide +kernel
theorem d2_3 : decode method_3_code 3 = .ok (.istore_n 2, 1) := by decide +kernel
theorem d2_4 : decode method_3_code 4 = .ok (.iload_n 2, 1) := by decide +kernel
theorem d2_5 : decode method_3_code 5 = .ok (.iload_n 1, 1) := by decide +kernel
theorem d2_6 : decode method_3_code 6 = .ok (.if_icmp .ge 7, 3) := by decide +kernel
theorem d2_13 : decode method_3_code 13 = .ok (.iload_n 2, 1) := by decide +kernel
theorem d2_14 : decode method_3_code 14 = .ok (.ireturn, 1) := by decide +kernel
theorem pn_2 : plainName "com/example/nto1/nto1/IdentityEqualsPinLaw" = true := by first | (simp [plainName, overriddenIn]; done) | decide +kernel
theorem ef_2 (m : MethodId) (x0 : Int32) (x1 : Int32) : entryFrame m #[(.int x0), (.int x1)] 3 = mkF m 0 #[.val (.int x0), .val (.int x1), .unset] [] := by first | (simp [entryFrame, mkF, argsToLocals, Value.category]; done) | rfl
def Q2 (Z : State) (p1 : Int32) (p2 : Int32) (h0 : Heap) (n0 : Nat) (v : Option Value) (h : Heap) (L : List Loc) : Prop := v = some (.int (own_len p1 p2)) ∧ Fr n0 L ∧ h = h0
set_option maxRecDepth 65536 in
set_option maxHeartbeats 40000000 in
theorem rm2f (l : Launch) (Z : State) (a0 : Array Value) (hw : ∀ d ∈ tables_1, d.before a0 Z = true) (ws : List Jvm.Cond) (p1 : Int32) (p2 : Int32) (h0 : Heap) (n0 : Nat) (Z0 : n0 ≤ h0.size) (hc6 : ¬ ((p1 &&& (3 : Int32)) < p2)) :
    MetFree l (⟨"com/example/nto1/nto1/IdentityEqualsPinLaw", "len", "(II)I"⟩ : MethodName) (head1 (Jvm.Cond.code (⟨"com/example/nto1/nto1/IdentityEqualsPinLaw", "len", "(II)I"⟩ : MethodName) method_3_code 3 (some .int) :: ws) ({ frames := 0, cells := 0, slots := 0, locals := 0 } : Room)) (fun a U => a = #[(.int p1), (.int p2)] ∧ Z.Warmed39 U.vm ∧ U.heap = h0) (fun _ _ _ _ _ => True) (fun _ U o U' => ∃ v L, o = .returned v ∧ Q2 Z p1 p2 h0 n0 v U'.heap L ∧ FrameEnd U o U' L ({ frames := 0, cells := 0, slots := 0, locals := 0 } : Room).cells ({ frames := 0, cells := 0, slots := 0, locals := 0 } : Room).slots) := by
  refine MetFree.of_bodySF (plainFor_of_name pn_2) hisR ?_
  intro p e s m args below meth c s₁ Bd hml0 hP hK
  obtain ⟨rfl, hZ, hh⟩ := hP
  have hx := Bd.exec
  have hby := Bd.bytes
  have hml : c.maxLocals = 3 := hml0
  have hown : s.vm.findClass "com/example/nto1/nto1/IdentityEqualsPinLaw" = some m.cls := findClass_of_methodNamed Bd.named
  have hnm := (name_of_methodNamed Bd.named Bd.method).1
  have X0 : Stand p l e ({ frames := 0, cells := 0, slots := 0, locals := 0 } : Room) s m #[(.int p1), (.int p2)] below meth c s₁ [] 0 0 := Stand.of_body Bd
  have e0 : s₁.heap = h0 := by rw [← hh, Bd.state]; rfl
  have N0 := Fr.nil n0
  have pre0 : ∀ t, Steps p.tables e below (s₁.setTop (mkF m 0 #[.val (.int p1), .val (.int p2), .unset] [])) t → Steps p.tables e below (s₁.setTop (entryFrame m #[(.int p1), (.int p2)] 3)) t := fun t k => castTop (ef_2 m p1 p2) k

  obtain ⟨fs, hr, hrun, hended, hW, hsame⟩ := X0.leave (v := some (.int (p1 &&& (3 : Int32)))) (fun h => by rw [Bd.returns] at h; cases h)
  refine ⟨_, _, pre0 _ ?_, hrun, hended, _, _, rfl, ?_, ⟨_, rfl⟩, hW, hsame.mono (by decide) (by decide)⟩
  · show Steps p.tables e below (s₁.setTop (mkF m 0 #[.val (.int p1), .val (.int p2), .unset] [])) _
    refine XS.iloadN X0.here hx rfl (hb hby d2_0) rfl ?_
    show Steps p.tables e below (s₁.setTop (mkF m 1 #[.val (.int p1), .val (.int p2), .unset] [(.int p1)])) _
    refine XS.iconst X0.here hx rfl (hb hby d2_1) ?_
    show Steps p.tables e below (s₁.setTop (mkF m 2 #[.val (.int p1), .val (.int p2), .unset] [(.int (3 : Int32)), (.int p1)])) _
    refine XS.iand X0.here hx rfl (hb hby d2_2) rfl ?_
    show Steps p.tables e below (s₁.setTop (mkF m 3 #[.val (.int p1), .val (.int p2), .unset] [(.int (p1 &&& (3 : Int32)))])) _
    refine XS.istoreN X0.here hx rfl (hb hby d2_3) rfl (l' := #[.val (.int p1), .val (.int p2), .val (.int (p1 &&& (3 : Int32)))]) rfl ?_
    show Steps p.tables e below (s₁.setTop (mkF m 4 #[.val (.int p1), .val (.int p2), .val (.int (p1 &&& (3 : Int32)))] [])) _
    refine XS.iloadN X0.here hx rfl (hb hby d2_4) rfl ?_
    show Steps p.tables e below (s₁.setTop (mkF m 5 #[.val (.int p1), .val (.int p2), .val (.int (p1 &&& (3 : Int32)))] [(.int (p1 &&& (3 : Int32)))])) _
    refine XS.iloadN X0.here hx rfl (hb hby d2_5) rfl ?_
    show Steps p.tables e below (s₁.setTop (mkF m 6 #[.val (.int p1), .val (.int p2), .val (.int (p1 &&& (3 : Int32)))] [(.int p2), (.int (p1 &&& (3 : Int32)))])) _
    refine XS.icmpYes X0.here hx rfl (pc0 := 6) (pc' := 13) rfl (hb hby d2_6) rfl (flt hc6).2.1 (by decide) (by decide) ?_
    show Steps p.tables e below (s₁.setTop (mkF m 13 #[.val (.int p1), .val (.int p2), .val (.int (p1 &&& (3 : Int32)))] [])) _
    refine XS.iloadN X0.here hx rfl (hb hby d2_13) rfl ?_
    show Steps p.tables e below (s₁.setTop (mkF m 14 #[.val (.int p1), .val (.int p2), .val (.int (p1 &&& (3 : Int32)))] [(.int (p1 &&& (3 : Int32)))])) _
    exact retI X0 hx Bd.returns (hb hby d2_14) hr      -- retI stands in the head ('lawwalk <made dir>' prints it)
  · show Q2 Z p1 p2 h0 n0 _ s₁.heap _
    rw [e0]
    exact ⟨congrArg (fun z => some (Value.int z)) ((if_neg hc6).symm), N0, rfl⟩
theorem d2_9 : decode method_3_code 9 = .ok (.iload_n 1, 1) := by decide +kernel
theorem d2_10 : decode method_3_code 10 = .ok (.goto 4, 3) := by decide +kernel
set_option maxRecDepth 65536 in
set_option maxHeartbeats 40000000 in
theorem rm2t (l : Launch) (Z : State) (a0 : Array Value) (hw : ∀ d ∈ tables_1, d.before a0 Z = true) (ws : List Jvm.Cond) (p1 : Int32) (p2 : Int32) (h0 : Heap) (n0 : Nat) (Z0 : n0 ≤ h0.size) (hc6 : (p1 &&& (3 : Int32)) < p2) :
    MetFree l (⟨"com/example/nto1/nto1/IdentityEqualsPinLaw", "len", "(II)I"⟩ : MethodName) (head1 (Jvm.Cond.code (⟨"com/example/nto1/nto1/IdentityEqualsPinLaw", "len", "(II)I"⟩ : MethodName) method_3_code 3 (some .int) :: ws) ({ frames := 0, cells := 0, slots := 0, locals := 0 } : Room)) (fun a U => a = #[(.int p1), (.int p2)] ∧ Z.Warmed39 U.vm ∧ U.heap = h0) (fun _ _ _ _ _ => True) (fun _ U o U' => ∃ v L, o = .returned v ∧ Q2 Z p1 p2 h0 n0 v U'.heap L ∧ FrameEnd U o U' L ({ frames := 0, cells := 0, slots := 0, locals := 0 } : Room).cells ({ frames := 0, cells := 0, slots := 0, locals := 0 } : Room).slots) := by
  refine MetFree.of_bodySF (plainFor_of_name pn_2) hisR ?_
  intro p e s m args below meth c s₁ Bd hml0 hP hK
  obtain ⟨rfl, hZ, hh⟩ := hP
  have hx := Bd.exec
  have hby := Bd.bytes
  have hml : c.maxLocals = 3 := hml0
  have hown : s.vm.findClass "com/example/nto1/nto1/IdentityEqualsPinLaw" = some m.cls := findClass_of_methodNamed Bd.named
  have hnm := (name_of_methodNamed Bd.named Bd.method).1
  have X0 : Stand p l e ({ frames := 0, cells := 0, slots := 0, locals := 0 } : Room) s m #[(.int p1), (.int p2)] below meth c s₁ [] 0 0 := Stand.of_body Bd
  have e0 : s₁.heap = h0 := by rw [← hh, Bd.state]; rfl
  have N0 := Fr.nil n0
  have pre0 : ∀ t, Steps p.tables e below (s₁.setTop (mkF m 0 #[.val (.int p1), .val (.int p2), .unset] [])) t → Steps p.tables e below (s₁.setTop (entryFrame m #[(.int p1), (.int p2)] 3)) t := fun t k => castTop (ef_2 m p1 p2) k

  obtain ⟨fs, hr, hrun, hended, hW, hsame⟩ := X0.leave (v := some (.int p2)) (fun h => by rw [Bd.returns] at h; cases h)
  refine ⟨_, _, pre0 _ ?_, hrun, hended, _, _, rfl, ?_, ⟨_, rfl⟩, hW, hsame.mono (by decide) (by decide)⟩
  · show Steps p.tables e below (s₁.setTop (mkF m 0 #[.val (.int p1), .val (.int p2), .unset] [])) _
    refine XS.iloadN X0.here hx rfl (hb hby d2_0) rfl ?_
    show Steps p.tables e below (s₁.setTop (mkF m 1 #[.val (.int p1), .val (.int p2), .unset] [(.int p1)])) _
    refine XS.iconst X0.here hx rfl (hb hby d2_1) ?_
    show Steps p.tables e below (s₁.setTop (mkF m 2 #[.val (.int p1), .val (.int p2), .unset] [(.int (3 : Int32)), (.int p1)])) _
    refine XS.iand X0.here hx rfl (hb hby d2_2) rfl ?_
    show Steps p.tables e below (s₁.setTop (mkF m 3 #[.val (.int p1), .val (.int p2), .unset] [(.int (p1 &&& (3 : Int32)))])) _
    refine XS.istoreN X0.here hx rfl (hb hby d2_3) rfl (l' := #[.val (.int p1), .val (.int p2), .val (.int (p1 &&& (3 : Int32)))]) rfl ?_
    show Steps p.tables e below (s₁.setTop (mkF m 4 #[.val (.int p1), .val (.int p2), .val (.int (p1 &&& (3 : Int32)))] [])) _
    refine XS.iloadN X0.here hx rfl (hb hby d2_4) rfl ?_
    show Steps p.tables e below (s₁.setTop (mkF m 5 #[.val (.int p1), .val (.int p2), .val (.int (p1 &&& (3 : Int32)))] [(.int (p1 &&& (3 : Int32)))])) _
    refine XS.iloadN X0.here hx rfl (hb hby d2_5) rfl ?_
    show Steps p.tables e below (s₁.setTop (mkF m 6 #[.val (.int p1), .val (.int p2), .val (.int (p1 &&& (3 : Int32)))] [(.int p2), (.int (p1 &&& (3 : Int32)))])) _
    refine XS.icmpNo X0.here hx rfl (hb hby d2_6) rfl (tlt hc6).2.1 ?_
    show Steps p.tables e below (s₁.setTop (mkF m 9 #[.val (.int p1), .val (.int p2), .val (.int (p1 &&& (3 : Int32)))] [])) _
    refine XS.iloadN X0.here hx rfl (hb hby d2_9) rfl ?_
    show Steps p.tables e below (s₁.setTop (mkF m 10 #[.val (.int p1), .val (.int p2), .val (.int (p1 &&& (3 : Int32)))] [(.int p2)])) _
    refine XS.goto X0.here hx rfl (pc0 := 10) (pc' := 14) rfl (hb hby d2_10) (by decide) (by decide) ?_
    show Steps p.tables e below (s₁.setTop (mkF m 14 #[.val (.int p1), .val (.int p2), .val (.int (p1 &&& (3 : Int32)))] [(.int p2)])) _
    exact retI X0 hx Bd.returns (hb hby d2_14) hr      -- retI stands in the head ('lawwalk <made dir>' prints it)
  · show Q2 Z p1 p2 h0 n0 _ s₁.heap _
    rw [e0]
    exact ⟨congrArg (fun z => some (Value.int z)) ((if_pos hc6).symm), N0, rfl⟩
theorem rm2 (l : Launch) (Z : State) (a0 : Array Value) (hw : ∀ d ∈ tables_1, d.before a0 Z = true) (ws : List Jvm.Cond) (p1 p2 : Int32) (h0 : Heap) (n0 : Nat) (Z0 : n0 ≤ h0.size) : MetFree l (⟨"com/example/nto1/nto1/IdentityEqualsPinLaw", "len", "(II)I"⟩ : MethodName) (head1 (Jvm.Cond.code (⟨"com/example/nto1/nto1/IdentityEqualsPinLaw", "len", "(II)I"⟩ : MethodName) method_3_code 3 (some .int) :: ws) ({ frames := 0, cells := 0, slots := 0, locals := 0 } : Room)) (fun a U => a = #[(.int p1), (.int p2)] ∧ Z.Warmed39 U.vm ∧ U.heap = h0) (fun _ _ _ _ _ => True) (fun _ U o U' => ∃ v L, o = .returned v ∧ Q2 Z p1 p2 h0 n0 v U'.heap L ∧ FrameEnd U o U' L ({ frames := 0, cells := 0, slots := 0, locals := 0 } : Room).cells ({ frames := 0, cells := 0, slots := 0, locals := 0 } : Room).slots) := by
  by_cases h : (p1 &&& (3 : Int32)) < p2
  · exact rm2t l Z a0 hw ws p1 p2 h0 n0 Z0 h
  · exact rm2f l Z a0 hw ws p1 p2 h0 n0 Z0 h
theorem d3_0 : decode method_4_code 0 = .ok (.iload_n 0, 1) := by decide +kernel
theorem d3_1 : decode method_4_code 1 = .ok (.iconst 3, 1) := by decide +kernel
theorem d3_2 : decode method_4_code 2 = .ok (.iand, 1) := by decide +kernel
theorem d3_3 : decode method_4_code 3 = .ok (.istore_n 1, 1) := by decide +kernel
theorem d3_4 : decode method_4_code 4 = .ok (.iload_n 1, 1) := by decide +kernel
theorem d3_5 : decode method_4_code 5 = .ok (.ifCond .ne 6, 3) := by decide +kernel
theorem d3_8 : decode method_4_code 8 = .ok (.bipush 97, 2) := by decide +kernel
theorem d3_10 : decode method_4_code 10 = .ok (.ireturn, 1) := by decide +kernel
theorem pn_3 : plainName "com/example/nto1/nto1/IdentityEqualsPinLaw" = true := by first | (simp [plainName, overriddenIn]; done) | decide +kernel
theorem ef_3 (m : MethodId) (x0 : Int32) : entryFrame m #[(.int x0)] 2 = mkF m 0 #[.val (.int x0), .unset] [] := by first | (simp [entryFrame, mkF, argsToLocals, Value.category]; done) | rfl
def Q3 (Z : State) (p1 : Int32) (h0 : Heap) (n0 : Nat) (v : Option Value) (h : Heap) (L : List Loc) : Prop := v = some (.int (own_c p1)) ∧ Fr n0 L ∧ h = h0
set_option maxRecDepth 65536 in
set_option maxHeartbeats 40000000 in
theorem rm3f (l : Launch) (Z : State) (a0 : Array Value) (hw : ∀ d ∈ tables_1, d.before a0 Z = true) (ws : List Jvm.Cond) (p1 : Int32) (h0 : Heap) (n0 : Nat) (Z0 : n0 ≤ h0.size) (hc5 : (p1 &&& (3 : Int32)) = (0 : Int32)) :
    MetFree l (⟨"com/example/nto1/nto1/IdentityEqualsPinLaw", "ch", "(I)C"⟩ : MethodName) (head1 (Jvm.Cond.code (⟨"com/example/nto1/nto1/IdentityEqualsPinLaw", "ch", "(I)C"⟩ : MethodName) method_4_code 2 (some .char) :: ws) ({ frames := 0, cells := 0, slots := 0, locals := 0 } : Room)) (fun a U => a = #[(.int p1)] ∧ Z.Warmed39 U.vm ∧ U.heap = h0) (fun _ _ _ _ _ => True) (fun _ U o U' => ∃ v L, o = .returned v ∧ Q3 Z p1 h0 n0 v U'.heap L ∧ FrameEnd U o U' L ({ frames := 0, cells := 0, slots := 0, locals := 0 } : Room).cells ({ frames := 0, cells := 0, slots := 0, locals := 0 } : Room).slots) := by
  refine MetFree.of_bodySF (plainFor_of_name pn_3) hisR ?_
  intro p e s m args below meth c s₁ Bd hml0 hP hK
  obtain ⟨rfl, hZ, hh⟩ := hP
  have hx := Bd.exec
  have hby := Bd.bytes
  have hml : c.maxLocals = 2 := hml0
  have hown : s.vm.findClass "com/example/nto1/nto1/IdentityEqualsPinLaw" = some m.cls := findClass_of_methodNamed Bd.named
  have hnm := (name_of_methodNamed Bd.named Bd.method).1
  have X0 : Stand p l e ({ frames := 0, cells := 0, slots := 0, locals := 0 } : Room) s m #[(.int p1)] below meth c s₁ [] 0 0 := Stand.of_body Bd
  have e0 : s₁.heap = h0 := by rw [← hh, Bd.state]; rfl
  have N0 := Fr.nil n0
  have pre0 : ∀ t, Steps p.tables e below (s₁.setTop (mkF m 0 #[.val (.int p1), .unset] [])) t → Steps p.tables e below (s₁.setTop (entryFrame m #[(.int p1)] 2)) t := fun t k => castTop (ef_3 m p1) k

  obtain ⟨fs, hr, hrun, hended, hW, hsame⟩ := X0.leave (v := some (.int (97 : Int32))) (fun h => by rw [Bd.returns] at h; cases h)
  refine ⟨_, _, pre0 _ ?_, hrun, hended, _, _, rfl, ?_, ⟨_, rfl⟩, hW, hsame.mono (by decide) (by decide)⟩
  · show Steps p.tables e below (s₁.setTop (mkF m 0 #[.val (.int p1), .unset] [])) _
    refine XS.iloadN X0.here hx rfl (hb hby d3_0) rfl ?_
    show Steps p.tables e below (s₁.setTop (mkF m 1 #[.val (.int p1), .unset] [(.int p1)])) _
    refine XS.iconst X0.here hx rfl (hb hby d3_1) ?_
    show Steps p.tables e below (s₁.setTop (mkF m 2 #[.val (.int p1), .unset] [(.int (3 : Int32)), (.int p1)])) _
    refine XS.iand X0.here hx rfl (hb hby d3_2) rfl ?_
    show Steps p.tables e below (s₁.setTop (mkF m 3 #[.val (.int p1), .unset] [(.int (p1 &&& (3 : Int32)))])) _
    refine XS.istoreN X0.here hx rfl (hb hby d3_3) rfl (l' := #[.val (.int p1), .val (.int (p1 &&& (3 : Int32)))]) rfl ?_
    show Steps p.tables e below (s₁.setTop (mkF m 4 #[.val (.int p1), .val (.int (p1 &&& (3 : Int32)))] [])) _
    refine XS.iloadN X0.here hx rfl (hb hby d3_4) rfl ?_
    show Steps p.tables e below (s₁.setTop (mkF m 5 #[.val (.int p1), .val (.int (p1 &&& (3 : Int32)))] [(.int (p1 &&& (3 : Int32)))])) _
    refine XS.ifNo X0.here hx rfl (hb hby d3_5) rfl ((if0 _ _).trans (teq hc5).2) ?_
    show Steps p.tables e below (s₁.setTop (mkF m 8 #[.val (.int p1), .val (.int (p1 &&& (3 : Int32)))] [])) _
    refine XS.bipush X0.here hx rfl (hb hby d3_8) ?_
    show Steps p.tables e below (s₁.setTop (mkF m 10 #[.val (.int p1), .val (.int (p1 &&& (3 : Int32)))] [(.int (97 : Int32))])) _
    exact retN X0 hx (t := .char) Bd.returns (by simp) (hb hby d3_10) hr
  · show Q3 Z p1 h0 n0 _ s₁.heap _
    rw [e0]
    exact ⟨congrArg (fun z => some (Value.int z)) ((if_pos hc5).symm), N0, rfl⟩
theorem d3_11 : decode method_4_code 11 = .ok (.iload_n 1, 1) := by decide +kernel
theorem d3_12 : decode method_4_code 12 = .ok (.iconst 1, 1) := by decide +kernel
theorem d3_13 : decode method_4_code 13 = .ok (.if_icmp .ne 6, 3) := by decide +kernel
theorem d3_16 : decode method_4_code 16 = .ok (.bipush 65, 2) := by decide +kernel
theorem d3_18 : decode method_4_code 18 = .ok (.ireturn, 1) := by decide +kernel
set_option maxRecDepth 65536 in
set_option maxHeartbeats 40000000 in
theorem rm3tf (l : Launch) (Z : State) (a0 : Array Value) (hw : ∀ d ∈ tables_1, d.before a0 Z = true) (ws : List Jvm.Cond) (p1 : Int32) (h0 : Heap) (n0 : Nat) (Z0 : n0 ≤ h0.size) (hc5 : ¬ ((p1 &&& (3 : Int32)) = (0 : Int32))) (hc13 : (p1 &&& (3 : Int32)) = (1 : Int32)) :
    MetFree l (⟨"com/example/nto1/nto1/IdentityEqualsPinLaw", "ch", "(I)C"⟩ : MethodName) (head1 (Jvm.Cond.code (⟨"com/example/nto1/nto1/IdentityEqualsPinLaw", "ch", "(I)C"⟩ : MethodName) method_4_code 2 (some .char) :: ws) ({ frames := 0, cells := 0, slots := 0, locals := 0 } : Room)) (fun a U => a = #[(.int p1)] ∧ Z.Warmed39 U.vm ∧ U.heap = h0) (fun _ _ _ _ _ => True) (fun _ U o U' => ∃ v L, o = .returned v ∧ Q3 Z p1 h0 n0 v U'.heap L ∧ FrameEnd U o U' L ({ frames := 0, cells := 0, slots := 0, locals := 0 } : Room).cells ({ frames := 0, cells := 0, slots := 0, locals := 0 } : Room).slots) := by
  refine MetFree.of_bodySF (plainFor_of_name pn_3) hisR ?_
  intro p e s m args below meth c s₁ Bd hml0 hP hK
  obtain ⟨rfl, hZ, hh⟩ := hP
  have hx := Bd.exec
  have hby := Bd.bytes
  have hml : c.maxLocals = 2 := hml0
  have hown : s.vm.findClass "com/example/nto1/nto1/IdentityEqualsPinLaw" = some m.cls := findClass_of_methodNamed Bd.named
  have hnm := (name_of_methodNamed Bd.named Bd.method).1
  have X0 : Stand p l e ({ frames := 0, cells := 0, slots := 0, locals := 0 } : Room) s m #[(.int p1)] below meth c s₁ [] 0 0 := Stand.of_body Bd
  have e0 : s₁.heap = h0 := by rw [← hh, Bd.state]; rfl
  have N0 := Fr.nil n0
  have pre0 : ∀ t, Steps p.tables e below (s₁.setTop (mkF m 0 #[.val (.int p1), .unset] [])) t → Steps p.tables e below (s₁.setTop (entryFrame m #[(.int p1)] 2)) t := fun t k => castTop (ef_3 m p1) k

  obtain ⟨fs, hr, hrun, hended, hW, hsame⟩ := X0.leave (v := some (.int (65 : Int32))) (fun h => by rw [Bd.returns] at h; cases h)
  refine ⟨_, _, pre0 _ ?_, hrun, hended, _, _, rfl, ?_, ⟨_, rfl⟩, hW, hsame.mono (by decide) (by decide)⟩
  · show Steps p.tables e below (s₁.setTop (mkF m 0 #[.val (.int p1), .unset] [])) _
    refine XS.iloadN X0.here hx rfl (hb hby d3_0) rfl ?_
    show Steps p.tables e below (s₁.setTop (mkF m 1 #[.val (.int p1), .unset] [(.int p1)])) _
    refine XS.iconst X0.here hx rfl (hb hby d3_1) ?_
    show Steps p.tables e below (s₁.setTop (mkF m 2 #[.val (.int p1), .unset] [(.int (3 : Int32)), (.int p1)])) _
    refine XS.iand X0.here hx rfl (hb hby d3_2) rfl ?_
    show Steps p.tables e below (s₁.setTop (mkF m 3 #[.val (.int p1), .unset] [(.int (p1 &&& (3 : Int32)))])) _
    refine XS.istoreN X0.here hx rfl (hb hby d3_3) rfl (l' := #[.val (.int p1), .val (.int (p1 &&& (3 : Int32)))]) rfl ?_
    show Steps p.tables e below (s₁.setTop (mkF m 4 #[.val (.int p1), .val (.int (p1 &&& (3 : Int32)))] [])) _
    refine XS.iloadN X0.here hx rfl (hb hby d3_4) rfl ?_
    show Steps p.tables e below (s₁.setTop (mkF m 5 #[.val (.int p1), .val (.int (p1 &&& (3 : Int32)))] [(.int (p1 &&& (3 : Int32)))])) _
    refine XS.ifYes X0.here hx rfl (pc0 := 5) (pc' := 11) rfl (hb hby d3_5) rfl ((if0 _ _).trans (feq hc5).2) (by decide) (by decide) ?_
    show Steps p.tables e below (s₁.setTop (mkF m 11 #[.val (.int p1), .val (.int (p1 &&& (3 : Int32)))] [])) _
    refine XS.iloadN X0.here hx rfl (hb hby d3_11) rfl ?_
    show Steps p.tables e below (s₁.setTop (mkF m 12 #[.val (.int p1), .val (.int (p1 &&& (3 : Int32)))] [(.int (p1 &&& (3 : Int32)))])) _
    refine XS.iconst X0.here hx rfl (hb hby d3_12) ?_
    show Steps p.tables e below (s₁.setTop (mkF m 13 #[.val (.int p1), .val (.int (p1 &&& (3 : Int32)))] [(.int (1 : Int32)), (.int (p1 &&& (3 : Int32)))])) _
    refine XS.icmpNo X0.here hx rfl (hb hby d3_13) rfl (teq hc13).2 ?_
    show Steps p.tables e below (s₁.setTop (mkF m 16 #[.val (.int p1), .val (.int (p1 &&& (3 : Int32)))] [])) _
    refine XS.bipush X0.here hx rfl (hb hby d3_16) ?_
    show Steps p.tables e below (s₁.setTop (mkF m 18 #[.val (.int p1), .val (.int (p1 &&& (3 : Int32)))] [(.int (65 : Int32))])) _
    exact retN X0 hx (t := .char) Bd.returns (by simp) (hb hby d3_18) hr
  · show Q3 Z p1 h0 n0 _ s₁.heap _
    rw [e0]
    exact ⟨congrArg (fun z => some (Value.int z)) (((if_neg hc5).trans (if_pos hc13)).symm), N0, rfl⟩
theorem d3_19 : decode method_4_code 19 = .ok (.iload_n 1, 1) := by decide +kernel
theorem d3_20 : decode method_4_code 20 = .ok (.iconst 2, 1) := by decide +kernel
theorem d3_21 : decode method_4_code 21 = .ok (.if_icmp .ne 6, 3) := by decide +kernel
theorem d3_24 : decode method_4_code 24 = .ok (.bipush 98, 2) := by decide +kernel
theorem d3_26 : decode method_4_code 26 = .ok (.ireturn, 1) := by decide +kernel
set_option maxRecDepth 65536 in
set_option maxHeartbeats 40000000 in
theorem rm3ttf (l : Launch) (Z : State) (a0 : Array Value) (hw : ∀ d ∈ tables_1, d.before a0 Z = true) (ws : List Jvm.Cond) (p1 : Int32) (h0 : Heap) (n0 : Nat) (Z0 : n0 ≤ h0.size) (hc5 : ¬ ((p1 &&& (3 : Int32)) = (0 : Int32))) (hc13 : ¬ ((p1 &&& (3 : Int32)) = (1 : Int32))) (hc21 : (p1 &&& (3 : Int32)) = (2 : Int32)) :
    MetFree l (⟨"com/example/nto1/nto1/IdentityEqualsPinLaw", "ch", "(I)C"⟩ : MethodName) (head1 (Jvm.Cond.code (⟨"com/example/nto1/nto1/IdentityEqualsPinLaw", "ch", "(I)C"⟩ : MethodName) method_4_code 2 (some .char) :: ws) ({ frames := 0, cells := 0, slots := 0, locals := 0 } : Room)) (fun a U => a = #[(.int p1)] ∧ Z.Warmed39 U.vm ∧ U.heap = h0) (fun _ _ _ _ _ => True) (fun _ U o U' => ∃ v L, o = .returned v ∧ Q3 Z p1 h0 n0 v U'.heap L ∧ FrameEnd U o U' L ({ frames := 0, cells := 0, slots := 0, locals := 0 } : Room).cells ({ frames := 0, cells := 0, slots := 0, locals := 0 } : Room).slots) := by
  refine MetFree.of_bodySF (plainFor_of_name pn_3) hisR ?_
  intro p e s m args below meth c s₁ Bd hml0 hP hK
  obtain ⟨rfl, hZ, hh⟩ := hP
  have hx := Bd.exec
  have hby := Bd.bytes
  have hml : c.maxLocals = 2 := hml0
  have hown : s.vm.findClass "com/example/nto1/nto1/IdentityEqualsPinLaw" = some m.cls := findClass_of_methodNamed Bd.named
  have hnm := (name_of_methodNamed Bd.named Bd.method).1
  have X0 : Stand p l e ({ frames := 0, cells := 0, slots := 0, locals := 0 } : Room) s m #[(.int p1)] below meth c s₁ [] 0 0 := Stand.of_body Bd
  have e0 : s₁.heap = h0 := by rw [← hh, Bd.state]; rfl
  have N0 := Fr.nil n0
  have pre0 : ∀ t, Steps p.tables e below (s₁.setTop (mkF m 0 #[.val (.int p1), .unset] [])) t → Steps p.tables e below (s₁.setTop (entryFrame m #[(.int p1)] 2)) t := fun t k => castTop (ef_3 m p1) k

  obtain ⟨fs, hr, hrun, hended, hW, hsame⟩ := X0.leave (v := some (.int (98 : Int32))) (fun h => by rw [Bd.returns] at h; cases h)
  refine ⟨_, _, pre0 _ ?_, hrun, hended, _, _, rfl, ?_, ⟨_, rfl⟩, hW, hsame.mono (by decide) (by decide)⟩
  · show Steps p.tables e below (s₁.setTop (mkF m 0 #[.val (.int p1), .unset] [])) _
    refine XS.iloadN X0.here hx rfl (hb hby d3_0) rfl ?_
    show Steps p.tables e below (s₁.setTop (mkF m 1 #[.val (.int p1), .unset] [(.int p1)])) _
    refine XS.iconst X0.here hx rfl (hb hby d3_1) ?_
    show Steps p.tables e below (s₁.setTop (mkF m 2 #[.val (.int p1), .unset] [(.int (3 : Int32)), (.int p1)])) _
    refine XS.iand X0.here hx rfl (hb hby d3_2) rfl ?_
    show Steps p.tables e below (s₁.setTop (mkF m 3 #[.val (.int p1), .unset] [(.int (p1 &&& (3 : Int32)))])) _
    refine XS.istoreN X0.here hx rfl (hb hby d3_3) rfl (l' := #[.val (.int p1), .val (.int (p1 &&& (3 : Int32)))]) rfl ?_
    show Steps p.tables e below (s₁.setTop (mkF m 4 #[.val (.int p1), .val (.int (p1 &&& (3 : Int32)))] [])) _
    refine XS.iloadN X0.here hx rfl (hb hby d3_4) rfl ?_
    show Steps p.tables e below (s₁.setTop (mkF m 5 #[.val (.int p1), .val (.int (p1 &&& (3 : Int32)))] [(.int (p1 &&& (3 : Int32)))])) _
    refine XS.ifYes X0.here hx rfl (pc0 := 5) (pc' := 11) rfl (hb hby d3_5) rfl ((if0 _ _).trans (feq hc5).2) (by decide) (by decide) ?_
    show Steps p.tables e below (s₁.setTop (mkF m 11 #[.val (.int p1), .val (.int (p1 &&& (3 : Int32)))] [])) _
    refine XS.iloadN X0.here hx rfl (hb hby d3_11) rfl ?_
    show Steps p.tables e below (s₁.setTop (mkF m 12 #[.val (.int p1), .val (.int (p1 &&& (3 : Int32)))] [(.int (p1 &&& (3 : Int32)))])) _
    refine XS.iconst X0.here hx rfl (hb hby d3_12) ?_
    show Steps p.tables e below (s₁.setTop (mkF m 13 #[.val (.int p1), .val (.int (p1 &&& (3 : Int32)))] [(.int (1 : Int32)), (.int (p1 &&& (3 : Int32)))])) _
    refine XS.icmpYes X0.here hx rfl (pc0 := 13) (pc' := 19) rfl (hb hby d3_13) rfl (feq hc13).2 (by decide) (by decide) ?_
    show Steps p.tables e below (s₁.setTop (mkF m 19 #[.val (.int p1), .val (.int (p1 &&& (3 : Int32)))] [])) _
    refine XS.iloadN X0.here hx rfl (hb hby d3_19) rfl ?_
    show Steps p.tables e below (s₁.setTop (mkF m 20 #[.val (.int p1), .val (.int (p1 &&& (3 : Int32)))] [(.int (p1 &&& (3 : Int32)))])) _
    refine XS.iconst X0.here hx rfl (hb hby d3_20) ?_
    show Steps p.tables e below (s₁.setTop (mkF m 21 #[.val (.int p1), .val (.int (p1 &&& (3 : Int32)))] [(.int (2 : Int32)), (.int (p1 &&& (3 : Int32)))])) _
    refine XS.icmpNo X0.here hx rfl (hb hby d3_21) rfl (teq hc21).2 ?_
    show Steps p.tables e below (s₁.setTop (mkF m 24 #[.val (.int p1), .val (.int (p1 &&& (3 : Int32)))] [])) _
    refine XS.bipush X0.here hx rfl (hb hby d3_24) ?_
    show Steps p.tables e below (s₁.setTop (mkF m 26 #[.val (.int p1), .val (.int (p1 &&& (3 : Int32)))] [(.int (98 : Int32))])) _
    exact retN X0 hx (t := .char) Bd.returns (by simp) (hb hby d3_26) hr
  · show Q3 Z p1 h0 n0 _ s₁.heap _
    rw [e0]
    exact ⟨congrArg (fun z => some (Value.int z)) (((if_neg hc5).trans ((if_neg hc13).trans (if_pos hc21))).symm), N0, rfl⟩
theorem d3_27 : decode method_4_code 27 = .ok (.bipush 126, 2) := by decide +kernel
theorem d3_29 : decode method_4_code 29 = .ok (.ireturn, 1) := by decide +kernel
set_option maxRecDepth 65536 in
set_option maxHeartbeats 40000000 in
theorem rm3ttt (l : Launch) (Z : State) (a0 : Array Value) (hw : ∀ d ∈ tables_1, d.before a0 Z = true) (ws : List Jvm.Cond) (p1 : Int32) (h0 : Heap) (n0 : Nat) (Z0 : n0 ≤ h0.size) (hc5 : ¬ ((p1 &&& (3 : Int32)) = (0 : Int32))) (hc13 : ¬ ((p1 &&& (3 : Int32)) = (1 : Int32))) (hc21 : ¬ ((p1 &&& (3 : Int32)) = (2 : Int32))) :
    MetFree l (⟨"com/example/nto1/nto1/IdentityEqualsPinLaw", "ch", "(I)C"⟩ : MethodName) (head1 (Jvm.Cond.code (⟨"com/example/nto1/nto1/IdentityEqualsPinLaw", "ch", "(I)C"⟩ : MethodName) method_4_code 2 (some .char) :: ws) ({ frames := 0, cells := 0, slots := 0, locals := 0 } : Room)) (fun a U => a = #[(.int p1)] ∧ Z.Warmed39 U.vm ∧ U.heap = h0) (fun _ _ _ _ _ => True) (fun _ U o U' => ∃ v L, o = .returned v ∧ Q3 Z p1 h0 n0 v U'.heap L ∧ FrameEnd U o U' L ({ frames := 0, cells := 0, slots := 0, locals := 0 } : Room).cells ({ frames := 0, cells := 0, slots := 0, locals := 0 } : Room).slots) := by
  refine MetFree.of_bodySF (plainFor_of_name pn_3) hisR ?_
  intro p e s m args below meth c s₁ Bd hml0 hP hK
  obtain ⟨rfl, hZ, hh⟩ := hP
  have hx := Bd.exec
  have hby := Bd.bytes
  have hml : c.maxLocals = 2 := hml0
  have hown : s.vm.findClass "com/example/nto1/nto1/IdentityEqualsPinLaw" = some m.cls := findClass_of_methodNamed Bd.named
  have hnm := (name_of_methodNamed Bd.named Bd.method).1
  have X0 : Stand p l e ({ frames := 0, cells := 0, slots := 0, locals := 0 } : Room) s m #[(.int p1)] below meth c s₁ [] 0 0 := Stand.of_body Bd
  have e0 : s₁.heap = h0 := by rw [← hh, Bd.state]; rfl
  have N0 := Fr.nil n0
  have pre0 : ∀ t, Steps p.tables e below (s₁.setTop (mkF m 0 #[.val (.int p1), .unset] [])) t → Steps p.tables e below (s₁.setTop (entryFrame m #[(.int p1)] 2)) t := fun t k => castTop (ef_3 m p1) k

  obtain ⟨fs, hr, hrun, hended, hW, hsame⟩ := X0.leave (v := some (.int (126 : Int32))) (fun h => by rw [Bd.returns] at h; cases h)
  refine ⟨_, _, pre0 _ ?_, hrun, hended, _, _, rfl, ?_, ⟨_, rfl⟩, hW, hsame.mono (by decide) (by decide)⟩
  · show Steps p.tables e below (s₁.setTop (mkF m 0 #[.val (.int p1), .unset] [])) _
    refine XS.iloadN X0.here hx rfl (hb hby d3_0) rfl ?_
    show Steps p.tables e below (s₁.setTop (mkF m 1 #[.val (.int p1), .unset] [(.int p1)])) _
    refine XS.iconst X0.here hx rfl (hb hby d3_1) ?_
    show Steps p.tables e below (s₁.setTop (mkF m 2 #[.val (.int p1), .unset] [(.int (3 : Int32)), (.int p1)])) _
    refine XS.iand X0.here hx rfl (hb hby d3_2) rfl ?_
    show Steps p.tables e below (s₁.setTop (mkF m 3 #[.val (.int p1), .unset] [(.int (p1 &&& (3 : Int32)))])) _
    refine XS.istoreN X0.here hx rfl (hb hby d3_3) rfl (l' := #[.val (.int p1), .val (.int (p1 &&& (3 : Int32)))]) rfl ?_
    show Steps p.tables e below (s₁.setTop (mkF m 4 #[.val (.int p1), .val (.int (p1 &&& (3 : Int32)))] [])) _
    refine XS.iloadN X0.here hx rfl (hb hby d3_4) rfl ?_
    show Steps p.tables e below (s₁.setTop (mkF m 5 #[.val (.int p1), .val (.int (p1 &&& (3 : Int32)))] [(.int (p1 &&& (3 : Int32)))])) _
    refine XS.ifYes X0.here hx rfl (pc0 := 5) (pc' := 11) rfl (hb hby d3_5) rfl ((if0 _ _).trans (feq hc5).2) (by decide) (by decide) ?_
    show Steps p.tables e below (s₁.setTop (mkF m 11 #[.val (.int p1), .val (.int (p1 &&& (3 : Int32)))] [])) _
    refine XS.iloadN X0.here hx rfl (hb hby d3_11) rfl ?_
    show Steps p.tables e below (s₁.setTop (mkF m 12 #[.val (.int p1), .val (.int (p1 &&& (3 : Int32)))] [(.int (p1 &&& (3 : Int32)))])) _
    refine XS.iconst X0.here hx rfl (hb hby d3_12) ?_
    show Steps p.tables e below (s₁.setTop (mkF m 13 #[.val (.int p1), .val (.int (p1 &&& (3 : Int32)))] [(.int (1 : Int32)), (.int (p1 &&& (3 : Int32)))])) _
    refine XS.icmpYes X0.here hx rfl (pc0 := 13) (pc' := 19) rfl (hb hby d3_13) rfl (feq hc13).2 (by decide) (by decide) ?_
    show Steps p.tables e below (s₁.setTop (mkF m 19 #[.val (.int p1), .val (.int (p1 &&& (3 : Int32)))] [])) _
    refine XS.iloadN X0.here hx rfl (hb hby d3_19) rfl ?_
    show Steps p.tables e below (s₁.setTop (mkF m 20 #[.val (.int p1), .val (.int (p1 &&& (3 : Int32)))] [(.int (p1 &&& (3 : Int32)))])) _
    refine XS.iconst X0.here hx rfl (hb hby d3_20) ?_
    show Steps p.tables e below (s₁.setTop (mkF m 21 #[.val (.int p1), .val (.int (p1 &&& (3 : Int32)))] [(.int (2 : Int32)), (.int (p1 &&& (3 : Int32)))])) _
    refine XS.icmpYes X0.here hx rfl (pc0 := 21) (pc' := 27) rfl (hb hby d3_21) rfl (feq hc21).2 (by decide) (by decide) ?_
    show Steps p.tables e below (s₁.setTop (mkF m 27 #[.val (.int p1), .val (.int (p1 &&& (3 : Int32)))] [])) _
    refine XS.bipush X0.here hx rfl (hb hby d3_27) ?_
    show Steps p.tables e below (s₁.setTop (mkF m 29 #[.val (.int p1), .val (.int (p1 &&& (3 : Int32)))] [(.int (126 : Int32))])) _
    exact retN X0 hx (t := .char) Bd.returns (by simp) (hb hby d3_29) hr
  · show Q3 Z p1 h0 n0 _ s₁.heap _
    rw [e0]
    exact ⟨congrArg (fun z => some (Value.int z)) (((if_neg hc5).trans ((if_neg hc13).trans (if_neg hc21))).symm), N0, rfl⟩
theorem rm3 (l : Launch) (Z : State) (a0 : Array Value) (hw : ∀ d ∈ tables_1, d.before a0 Z = true) (ws : List Jvm.Cond) (p1 : Int32) (h0 : Heap) (n0 : Nat) (Z0 : n0 ≤ h0.size) : MetFree l (⟨"com/example/nto1/nto1/IdentityEqualsPinLaw", "ch", "(I)C"⟩ : MethodName) (head1 (Jvm.Cond.code (⟨"com/example/nto1/nto1/IdentityEqualsPinLaw", "ch", "(I)C"⟩ : MethodName) method_4_code 2 (some .char) :: ws) ({ frames := 0, cells := 0, slots := 0, locals := 0 } : Room)) (fun a U => a = #[(.int p1)] ∧ Z.Warmed39 U.vm ∧ U.heap = h0) (fun _ _ _ _ _ => True) (fun _ U o U' => ∃ v L, o = .returned v ∧ Q3 Z p1 h0 n0 v U'.heap L ∧ FrameEnd U o U' L ({ frames := 0, cells := 0, slots := 0, locals := 0 } : Room).cells ({ frames := 0, cells := 0, slots := 0, locals := 0 } : Room).slots) := by
  by_cases h1 : (p1 &&& (3 : Int32)) = (0 : Int32)
  · exact rm3f l Z a0 hw ws p1 h0 n0 Z0 h1
  · by_cases h2 : (p1 &&& (3 : Int32)) = (1 : Int32)
    · exact rm3tf l Z a0 hw ws p1 h0 n0 Z0 h1 h2
    · by_cases h3 : (p1 &&& (3 : Int32)) = (2 : Int32)
      · exact rm3ttf l Z a0 hw ws p1 h0 n0 Z0 h1 h2 h3
      · exact rm3ttt l Z a0 hw ws p1 h0 n0 Z0 h1 h2 h3
theorem d22_0 : decode jdk_41_method_11_code 0 = .ok (.iload_n 0, 1) := by decide +kernel
theorem d22_1 : decode jdk_41_method_11_code 1 = .ok (.ifCond .lt 8, 3) := by decide +kernel
theorem d22_4 : decode jdk_41_method_11_code 4 = .ok (.iload_n 0, 1) := by decide +kernel
theorem d22_5 : decode jdk_41_method_11_code 5 = .ok (.iload_n 1, 1) := by decide +kernel
theorem d22_6 : decode jdk_41_method_11_code 6 = .ok (.if_icmp .lt 10, 3) := by decide +kernel
theorem d22_16 : decode jdk_41_method_11_code 16 = .ok (.iload_n 0, 1) := by decide +kernel
theorem d22_17 : decode jdk_41_method_11_code 17 = .ok (.ireturn, 1) := by decide +kernel
theorem pn_22 : plainName "jdk/internal/util/Preconditions" = true := by first | (simp [plainName, overriddenIn]; done) | decide +kernel
theorem ef_22n (m : MethodId) (x0 : Int32) (x1 : Int32) : entryFrame m #[(.int x0), (.int x1), .null] 3 = mkF m 0 #[.val (.int x0), .val (.int x1), .val .null] [] := by first | (simp [entryFrame, mkF, argsToLocals, Value.category]; done) | rfl
def Q22n (Z : State) (p1 : Int32) (p2 : Int32) (h0 : Heap) (n0 : Nat) (v : Option Value) (h : Heap) (L : List Loc) : Prop := v = some (.int p1) ∧ Fr n0 L ∧ h = h0
set_option maxRecDepth 65536 in
set_option maxHeartbeats 40000000 in
theorem rm22n (l : Launch) (Z : State) (a0 : Array Value) (hw : ∀ d ∈ tables_1, d.before a0 Z = true) (ws : List Jvm.Cond) (p1 : Int32) (p2 : Int32) (h0 : Heap) (n0 : Nat) (Z0 : n0 ≤ h0.size) (hc1 : ¬ (p1 < (0 : Int32))) (hc6 : p1 < p2) :
    MetFree l (⟨"jdk/internal/util/Preconditions", "checkIndex", "(IILjava/util/function/BiFunction;)I"⟩ : MethodName) (head1 (Jvm.Cond.code (⟨"jdk/internal/util/Preconditions", "checkIndex", "(IILjava/util/function/BiFunction;)I"⟩ : MethodName) jdk_41_method_11_code 3 (some .int) :: ws) ({ frames := 0, cells := 0, slots := 0, locals := 0 } : Room)) (fun a U => a = #[(.int p1), (.int p2), .null] ∧ Z.Warmed39 U.vm ∧ U.heap = h0) (fun _ _ _ _ _ => True) (fun _ U o U' => ∃ v L, o = .returned v ∧ Q22n Z p1 p2 h0 n0 v U'.heap L ∧ FrameEnd U o U' L ({ frames := 0, cells := 0, slots := 0, locals := 0 } : Room).cells ({ frames := 0, cells := 0, slots := 0, locals := 0 } : Room).slots) := by
  refine MetFree.of_bodySF (plainFor_of_name pn_22) hisR ?_
  intro p e s m args below meth c s₁ Bd hml0 hP hK
  obtain ⟨rfl, hZ, hh⟩ := hP
  have hx := Bd.exec
  have hby := Bd.bytes
  have hml : c.maxLocals = 3 := hml0
  have hown : s.vm.findClass "jdk/internal/util/Preconditions" = some m.cls := findClass_of_methodNamed Bd.named
  have hnm := (name_of_methodNamed Bd.named Bd.method).1
  have X0 : Stand p l e ({ frames := 0, cells := 0, slots := 0, locals := 0 } : Room) s m #[(.int p1), (.int p2), .null] below meth c s₁ [] 0 0 := Stand.of_body Bd
  have e0 : s₁.heap = h0 := by rw [← hh, Bd.state]; rfl
  have N0 := Fr.nil n0
  have pre0 : ∀ t, Steps p.tables e below (s₁.setTop (mkF m 0 #[.val (.int p1), .val (.int p2), .val .null] [])) t → Steps p.tables e below (s₁.setTop (entryFrame m #[(.int p1), (.int p2), .null] 3)) t := fun t k => castTop (ef_22n m p1 p2) k

  obtain ⟨fs, hr, hrun, hended, hW, hsame⟩ := X0.leave (v := some (.int p1)) (fun h => by rw [Bd.returns] at h; cases h)
  refine ⟨_, _, pre0 _ ?_, hrun, hended, _, _, rfl, ?_, ⟨_, rfl⟩, hW, hsame.mono (by decide) (by decide)⟩
  · show Steps p.tables e below (s₁.setTop (mkF m 0 #[.val (.int p1), .val (.int p2), .val .null] [])) _
    refine XS.iloadN X0.here hx rfl (hb hby d22_0) rfl ?_
    show Steps p.tables e below (s₁.setTop (mkF m 1 #[.val (.int p1), .val (.int p2), .val .null] [(.int p1)])) _
    refine XS.ifNo X0.here hx rfl (hb hby d22_1) rfl ((if0 _ _).trans (flt hc1).1) ?_
    show Steps p.tables e below (s₁.setTop (mkF m 4 #[.val (.int p1), .val (.int p2), .val .null] [])) _
    refine XS.iloadN X0.here hx rfl (hb hby d22_4) rfl ?_
    show Steps p.tables e below (s₁.setTop (mkF m 5 #[.val (.int p1), .val (.int p2), .val .null] [(.int p1)])) _
    refine XS.iloadN X0.here hx rfl (hb hby d22_5) rfl ?_
    show Steps p.tables e below (s₁.setTop (mkF m 6 #[.val (.int p1), .val (.int p2), .val .null] [(.int p2), (.int p1)])) _
    refine XS.icmpYes X0.here hx rfl (pc0 := 6) (pc' := 16) rfl (hb hby d22_6) rfl (tlt hc6).1 (by decide) (by decide) ?_
    show Steps p.tables e below (s₁.setTop (mkF m 16 #[.val (.int p1), .val (.int p2), .val .null] [])) _
    refine XS.iloadN X0.here hx rfl (hb hby d22_16) rfl ?_
    show Steps p.tables e below (s₁.setTop (mkF m 17 #[.val (.int p1), .val (.int p2), .val .null] [(.int p1)])) _
    exact retI X0 hx Bd.returns (hb hby d22_17) hr      -- retI stands in the head ('lawwalk <made dir>' prints it)
  · show Q22n Z p1 p2 h0 n0 _ s₁.heap _
    rw [e0]
    exact ⟨rfl, N0, rfl⟩
theorem d12_0 : decode jdk_31_method_11_code 0 = .ok (.aload_n 0, 1) := by decide +kernel
theorem d12_1 : decode jdk_31_method_11_code 1 = .ok (.ifnonnull 12, 3) := by decide +kernel
theorem d12_13 : decode jdk_31_method_11_code 13 = .ok (.aload_n 0, 1) := by decide +kernel
theorem d12_14 : decode jdk_31_method_11_code 14 = .ok (.areturn, 1) := by decide +kernel
theorem pn_12 : plainName "java/util/Objects" = true := by first | (simp [plainName, overriddenIn]; done) | decide +kernel
theorem ef_12 (m : MethodId) (x0 : Addr) (x1 : Addr) : entryFrame m #[(.ref x0), (.ref x1)] 2 = mkF m 0 #[.val (.ref x0), .val (.ref x1)] [] := by first | (simp [entryFrame, mkF, argsToLocals, Value.category]; done) | rfl
def Q12 (Z : State) (a1 : Addr) (a2 : Addr) (h0 : Heap) (n0 : Nat) (v : Option Value) (h : Heap) (L : List Loc) : Prop := v = some (.ref a1) ∧ Fr n0 L ∧ h = h0
set_option maxRecDepth 65536 in
set_option maxHeartbeats 40000000 in
theorem rm12 (l : Launch) (Z : State) (a0 : Array Value) (hw : ∀ d ∈ tables_1, d.before a0 Z = true) (ws : List Jvm.Cond) (a1 : Addr) (a2 : Addr) (h0 : Heap) (n0 : Nat) (Z0 : n0 ≤ h0.size) :
    MetFree l (⟨"java/util/Objects", "requireNonNull", "(Ljava/lang/Object;Ljava/lang/String;)Ljava/lang/Object;"⟩ : MethodName) (head1 (Jvm.Cond.code (⟨"java/util/Objects", "requireNonNull", "(Ljava/lang/Object;Ljava/lang/String;)Ljava/lang/Object;"⟩ : MethodName) jdk_31_method_11_code 2 (some (.object "java/lang/Object")) :: ws) ({ frames := 0, cells := 0, slots := 0, locals := 0 } : Room)) (fun a U => a = #[(.ref a1), (.ref a2)] ∧ Z.Warmed39 U.vm ∧ U.heap = h0) (fun _ _ _ _ _ => True) (fun _ U o U' => ∃ v L, o = .returned v ∧ Q12 Z a1 a2 h0 n0 v U'.heap L ∧ FrameEnd U o U' L ({ frames := 0, cells := 0, slots := 0, locals := 0 } : Room).cells ({ frames := 0, cells := 0, slots := 0, locals := 0 } : Room).slots) := by
  refine MetFree.of_bodySF (plainFor_of_name pn_12) hisR ?_
  intro p e s m args below meth c s₁ Bd hml0 hP hK
  obtain ⟨rfl, hZ, hh⟩ := hP
  have hx := Bd.exec
  have hby := Bd.bytes
  have hml : c.maxLocals = 2 := hml0
  have hown : s.vm.findClass "java/util/Objects" = some m.cls := findClass_of_methodNamed Bd.named
  have hnm := (name_of_methodNamed Bd.named Bd.method).1
  have X0 : Stand p l e ({ frames := 0, cells := 0, slots := 0, locals := 0 } : Room) s m #[(.ref a1), (.ref a2)] below meth c s₁ [] 0 0 := Stand.of_body Bd
  have e0 : s₁.heap = h0 := by rw [← hh, Bd.state]; rfl
  have N0 := Fr.nil n0
  have pre0 : ∀ t, Steps p.tables e below (s₁.setTop (mkF m 0 #[.val (.ref a1), .val (.ref a2)] [])) t → Steps p.tables e below (s₁.setTop (entryFrame m #[(.ref a1), (.ref a2)] 2)) t := fun t k => castTop (ef_12 m a1 a2) k

  obtain ⟨fs, hr, hrun, hended, hW, hsame⟩ := X0.leave (v := some (.ref a1)) (fun h => by rw [Bd.returns] at h; cases h)
  refine ⟨_, _, pre0 _ ?_, hrun, hended, _, _, rfl, ?_, ⟨_, rfl⟩, hW, hsame.mono (by decide) (by decide)⟩
  · show Steps p.tables e below (s₁.setTop (mkF m 0 #[.val (.ref a1), .val (.ref a2)] [])) _
    refine XS.aloadN X0.here hx rfl (hb hby d12_0) rfl rfl ?_
    show Steps p.tables e below (s₁.setTop (mkF m 1 #[.val (.ref a1), .val (.ref a2)] [(.ref a1)])) _
    refine XS.ifnonnullYes X0.here hx rfl (pc0 := 1) (pc' := 13) rfl (hb hby d12_1) rfl (by decide) (by decide) ?_
    show Steps p.tables e below (s₁.setTop (mkF m 13 #[.val (.ref a1), .val (.ref a2)] [])) _
    refine XS.aloadN X0.here hx rfl (hb hby d12_13) rfl rfl ?_
    show Steps p.tables e below (s₁.setTop (mkF m 14 #[.val (.ref a1), .val (.ref a2)] [(.ref a1)])) _
    jvm_step X0.here [X0.here.top, hx, (hb hby d12_14), X0.method', Bd.returns, Value.isRef, FieldType.isReference]
    first | (intro acts; rw [hr _ acts rfl rfl rfl]) | rw [hr _ _ rfl rfl rfl]
    exact Steps.refl _
  · show Q12 Z a1 a2 h0 n0 _ s₁.heap _
    rw [e0]
    exact ⟨rfl, N0, rfl⟩
theorem d18_0 : decode jdk_42_method_154_code 0 = .ok (.getstatic 38, 3) := by decide +kernel
theorem d18_3 : decode jdk_42_method_154_code 3 = .ok (.ifCond .eq 14, 3) := by decide +kernel
theorem d18_6 : decode jdk_42_method_154_code 6 = .ok (.aload_n 0, 1) := by decide +kernel
theorem d18_7 : decode jdk_42_method_154_code 7 = .ok (.getfield 15, 3) := by decide +kernel
theorem d18_10 : decode jdk_42_method_154_code 10 = .ok (.ifCond .ne 7, 3) := by decide +kernel
theorem d18_13 : decode jdk_42_method_154_code 13 = .ok (.iconst 1, 1) := by decide +kernel
theorem d18_14 : decode jdk_42_method_154_code 14 = .ok (.goto 4, 3) := by decide +kernel
theorem d18_18 : decode jdk_42_method_154_code 18 = .ok (.ireturn, 1) := by decide +kernel
theorem pn_18 : plainName "java/lang/String" = true := by first | (simp [plainName, overriddenIn]; done) | decide +kernel
theorem ef_18 (m : MethodId) (x0 : Addr) : entryFrame m #[(.ref x0)] 1 = mkF m 0 #[.val (.ref x0)] [] := by first | (simp [entryFrame, mkF, argsToLocals, Value.category]; done) | rfl
def Q18 (Z : State) (a1 : Addr) (w2 : Int32) (w4 : Int32) (h0 : Heap) (n0 : Nat) (v : Option Value) (h : Heap) (L : List Loc) : Prop := v = some (.int (1 : Int32)) ∧ Fr n0 L ∧ h = h0
set_option maxRecDepth 65536 in
set_option maxHeartbeats 40000000 in
theorem rm18 (l : Launch) (Z : State) (a0 : Array Value) (hw : ∀ d ∈ tables_1, d.before a0 Z = true) (ws : List Jvm.Cond) (a1 : Addr) (w2 : Int32) (w4 : Int32) (h0 : Heap) (n0 : Nat) (Z0 : n0 ≤ h0.size) (S_COMPACT_STRINGS : Sta Z h0 "java/lang/String" "COMPACT_STRINGS" "Z" (.int w2)) (F_coder_a1 : Fld Z h0 a1 "java/lang/String" "coder" "B" (.int w4)) (hc3 : ¬ (w2 = (0 : Int32))) (hc10 : w4 = (0 : Int32)) :
    MetFree l (⟨"java/lang/String", "isLatin1", "()Z"⟩ : MethodName) (head1 (Jvm.Cond.code (⟨"java/lang/String", "isLatin1", "()Z"⟩ : MethodName) jdk_42_method_154_code 1 (some .boolean) :: ws) ({ frames := 0, cells := 0, slots := 0, locals := 0 } : Room)) (fun a U => a = #[(.ref a1)] ∧ Z.Warmed39 U.vm ∧ U.heap = h0) (fun _ _ _ _ _ => True) (fun _ U o U' => ∃ v L, o = .returned v ∧ Q18 Z a1 w2 w4 h0 n0 v U'.heap L ∧ FrameEnd U o U' L ({ frames := 0, cells := 0, slots := 0, locals := 0 } : Room).cells ({ frames := 0, cells := 0, slots := 0, locals := 0 } : Room).slots) := by
  refine MetFree.of_bodySF (plainFor_of_name pn_18) hisR ?_
  intro p e s m args below meth c s₁ Bd hml0 hP hK
  obtain ⟨rfl, hZ, hh⟩ := hP
  have hx := Bd.exec
  have hby := Bd.bytes
  have hml : c.maxLocals = 1 := hml0
  have hown : s.vm.findClass "java/lang/String" = some m.cls := findClass_of_methodNamed Bd.named
  have hnm := (name_of_methodNamed Bd.named Bd.method).1
  have X0 : Stand p l e ({ frames := 0, cells := 0, slots := 0, locals := 0 } : Room) s m #[(.ref a1)] below meth c s₁ [] 0 0 := Stand.of_body Bd
  have e0 : s₁.heap = h0 := by rw [← hh, Bd.state]; rfl
  have N0 := Fr.nil n0
  have pre0 : ∀ t, Steps p.tables e below (s₁.setTop (mkF m 0 #[.val (.ref a1)] [])) t → Steps p.tables e below (s₁.setTop (entryFrame m #[(.ref a1)] 1)) t := fun t k => castTop (ef_18 m a1) k
  obtain ⟨T3, X3, e3, st3⟩ := getS2 X0 hx hZ hown (host := "") (Or.inl (hw _ (List.mem_of_getElem? (i := 33) rfl))) Via.refl e0 S_COMPACT_STRINGS (g := (mkF m 0 #[.val (.ref a1)] [])) rfl (hb hby d18_0)
  obtain ⟨T5, X5, e5, st5⟩ := getF X3 hx hZ hown (host := "") (Or.inl (hw _ (List.mem_of_getElem? (i := 44) rfl))) Via.refl e3 F_coder_a1 (g := (mkF m 7 #[.val (.ref a1)] [(.ref a1)])) rfl rfl (hb hby d18_7)
  obtain ⟨fs, hr, hrun, hended, hW, hsame⟩ := X5.leave (v := some (.int (1 : Int32))) (fun h => by rw [Bd.returns] at h; cases h)
  refine ⟨_, _, pre0 _ ?_, hrun, hended, _, _, rfl, ?_, ⟨_, rfl⟩, hW, hsame.mono (by decide) (by decide)⟩
  · show Steps p.tables e below (s₁.setTop (mkF m 0 #[.val (.ref a1)] [])) _
    refine st3 _ ?_
    show Steps p.tables e below (T3.setTop (mkF m 3 #[.val (.ref a1)] [(.int w2)])) _
    refine XS.ifNo X3.here hx rfl (hb hby d18_3) rfl ((if0 _ _).trans (feq hc3).1) ?_
    show Steps p.tables e below (T3.setTop (mkF m 6 #[.val (.ref a1)] [])) _
    refine XS.aloadN X3.here hx rfl (hb hby d18_6) rfl rfl ?_
    show Steps p.tables e below (T3.setTop (mkF m 7 #[.val (.ref a1)] [(.ref a1)])) _
    refine st5 _ ?_
    show Steps p.tables e below (T5.setTop (mkF m 10 #[.val (.ref a1)] [(.int w4)])) _
    refine XS.ifNo X5.here hx rfl (hb hby d18_10) rfl ((if0 _ _).trans (teq hc10).2) ?_
    show Steps p.tables e below (T5.setTop (mkF m 13 #[.val (.ref a1)] [])) _
    refine XS.iconst X5.here hx rfl (hb hby d18_13) ?_
    show Steps p.tables e below (T5.setTop (mkF m 14 #[.val (.ref a1)] [(.int (1 : Int32))])) _
    refine XS.goto X5.here hx rfl (pc0 := 14) (pc' := 18) rfl (hb hby d18_14) (by decide) (by decide) ?_
    show Steps p.tables e below (T5.setTop (mkF m 18 #[.val (.ref a1)] [(.int (1 : Int32))])) _
    exact retN X5 hx (t := .boolean) Bd.returns (by simp) (hb hby d18_18) hr
  · show Q18 Z a1 w2 w4 h0 n0 _ T5.heap _
    rw [e5]
    exact ⟨rfl, N0, rfl⟩
theorem ef_22 (m : MethodId) (x0 : Int32) (x1 : Int32) (x2 : Addr) : entryFrame m #[(.int x0), (.int x1), (.ref x2)] 3 = mkF m 0 #[.val (.int x0), .val (.int x1), .val (.ref x2)] [] := by first | (simp [entryFrame, mkF, argsToLocals, Value.category]; done) | rfl
def Q22 (Z : State) (p1 : Int32) (p2 : Int32) (a3 : Addr) (h0 : Heap) (n0 : Nat) (v : Option Value) (h : Heap) (L : List Loc) : Prop := v = some (.int p1) ∧ Fr n0 L ∧ h = h0
set_option maxRecDepth 65536 in
set_option maxHeartbeats 40000000 in
theorem rm22 (l : Launch) (Z : State) (a0 : Array Value) (hw : ∀ d ∈ tables_1, d.before a0 Z = true) (ws : List Jvm.Cond) (p1 : Int32) (p2 : Int32) (a3 : Addr) (h0 : Heap) (n0 : Nat) (Z0 : n0 ≤ h0.size) (hc1 : ¬ (p1 < (0 : Int32))) (hc6 : p1 < p2) :
    MetFree l (⟨"jdk/internal/util/Preconditions", "checkIndex", "(IILjava/util/function/BiFunction;)I"⟩ : MethodName) (head1 (Jvm.Cond.code (⟨"jdk/internal/util/Preconditions", "checkIndex", "(IILjava/util/function/BiFunction;)I"⟩ : MethodName) jdk_41_method_11_code 3 (some .int) :: ws) ({ frames := 0, cells := 0, slots := 0, locals := 0 } : Room)) (fun a U => a = #[(.int p1), (.int p2), (.ref a3)] ∧ Z.Warmed39 U.vm ∧ U.heap = h0) (fun _ _ _ _ _ => True) (fun _ U o U' => ∃ v L, o = .returned v ∧ Q22 Z p1 p2 a3 h0 n0 v U'.heap L ∧ FrameEnd U o U' L ({ frames := 0, cells := 0, slots := 0, locals := 0 } : Room).cells ({ frames := 0, cells := 0, slots := 0, locals := 0 } : Room).slots) := by
  refine MetFree.of_bodySF (plainFor_of_name pn_22) hisR ?_
  intro p e s m args below meth c s₁ Bd hml0 hP hK
  obtain ⟨rfl, hZ, hh⟩ := hP
  have hx := Bd.exec
  have hby := Bd.bytes
  have hml : c.maxLocals = 3 := hml0
  have hown : s.vm.findClass "jdk/internal/util/Preconditions" = some m.cls := findClass_of_methodNamed Bd.named
  have hnm := (name_of_methodNamed Bd.named Bd.method).1
  have X0 : Stand p l e ({ frames := 0, cells := 0, slots := 0, locals := 0 } : Room) s m #[(.int p1), (.int p2), (.ref a3)] below meth c s₁ [] 0 0 := Stand.of_body Bd
  have e0 : s₁.heap = h0 := by rw [← hh, Bd.state]; rfl
  have N0 := Fr.nil n0
  have pre0 : ∀ t, Steps p.tables e below (s₁.setTop (mkF m 0 #[.val (.int p1), .val (.int p2), .val (.ref a3)] [])) t → Steps p.tables e below (s₁.setTop (entryFrame m #[(.int p1), (.int p2), (.ref a3)] 3)) t := fun t k => castTop (ef_22 m p1 p2 a3) k

  obtain ⟨fs, hr, hrun, hended, hW, hsame⟩ := X0.leave (v := some (.int p1)) (fun h => by rw [Bd.returns] at h; cases h)
  refine ⟨_, _, pre0 _ ?_, hrun, hended, _, _, rfl, ?_, ⟨_, rfl⟩, hW, hsame.mono (by decide) (by decide)⟩
  · show Steps p.tables e below (s₁.setTop (mkF m 0 #[.val (.int p1), .val (.int p2), .val (.ref a3)] [])) _
    refine XS.iloadN X0.here hx rfl (hb hby d22_0) rfl ?_
    show Steps p.tables e below (s₁.setTop (mkF m 1 #[.val (.int p1), .val (.int p2), .val (.ref a3)] [(.int p1)])) _
    refine XS.ifNo X0.here hx rfl (hb hby d22_1) rfl ((if0 _ _).trans (flt hc1).1) ?_
    show Steps p.tables e below (s₁.setTop (mkF m 4 #[.val (.int p1), .val (.int p2), .val (.ref a3)] [])) _
    refine XS.iloadN X0.here hx rfl (hb hby d22_4) rfl ?_
    show Steps p.tables e below (s₁.setTop (mkF m 5 #[.val (.int p1), .val (.int p2), .val (.ref a3)] [(.int p1)])) _
    refine XS.iloadN X0.here hx rfl (hb hby d22_5) rfl ?_
    show Steps p.tables e below (s₁.setTop (mkF m 6 #[.val (.int p1), .val (.int p2), .val (.ref a3)] [(.int p2), (.int p1)])) _
    refine XS.icmpYes X0.here hx rfl (pc0 := 6) (pc' := 16) rfl (hb hby d22_6) rfl (tlt hc6).1 (by decide) (by decide) ?_
    show Steps p.tables e below (s₁.setTop (mkF m 16 #[.val (.int p1), .val (.int p2), .val (.ref a3)] [])) _
    refine XS.iloadN X0.here hx rfl (hb hby d22_16) rfl ?_
    show Steps p.tables e below (s₁.setTop (mkF m 17 #[.val (.int p1), .val (.int p2), .val (.ref a3)] [(.int p1)])) _
    exact retI X0 hx Bd.returns (hb hby d22_17) hr      -- retI stands in the head ('lawwalk <made dir>' prints it)
  · show Q22 Z p1 p2 a3 h0 n0 _ s₁.heap _
    rw [e0]
    exact ⟨rfl, N0, rfl⟩
theorem d23_0 : decode jdk_89_method_18_code 0 = .ok (.iload_n 0, 1) := by decide +kernel
theorem d23_1 : decode jdk_89_method_18_code 1 = .ok (.ldc 73, 2) := by decide +kernel
theorem d23_3 : decode jdk_89_method_18_code 3 = .ok (.if_icmp .lt 7, 3) := by decide +kernel
theorem d23_10 : decode jdk_89_method_18_code 10 = .ok (.iconst 1, 1) := by decide +kernel
theorem d23_11 : decode jdk_89_method_18_code 11 = .ok (.ireturn, 1) := by decide +kernel
theorem pn_23 : plainName "java/lang/Character" = true := by first | (simp [plainName, overriddenIn]; done) | decide +kernel
theorem ef_23 (m : MethodId) (x0 : Int32) : entryFrame m #[(.int x0)] 1 = mkF m 0 #[.val (.int x0)] [] := by first | (simp [entryFrame, mkF, argsToLocals, Value.category]; done) | rfl
def Q23 (Z : State) (p1 : Int32) (h0 : Heap) (n0 : Nat) (v : Option Value) (h : Heap) (L : List Loc) : Prop := v = some (.int (1 : Int32)) ∧ Fr n0 L ∧ h = h0
set_option maxRecDepth 65536 in
set_option maxHeartbeats 40000000 in
theorem rm23 (l : Launch) (Z : State) (a0 : Array Value) (hw : ∀ d ∈ tables_1, d.before a0 Z = true) (ws : List Jvm.Cond) (p1 : Int32) (h0 : Heap) (n0 : Nat) (Z0 : n0 ≤ h0.size) (hc3 : p1 < (65536 : Int32)) :
    MetFree l (⟨"java/lang/Character", "charCount", "(I)I"⟩ : MethodName) (head1 (Jvm.Cond.code (⟨"java/lang/Character", "charCount", "(I)I"⟩ : MethodName) jdk_89_method_18_code 1 (some .int) :: ws) ({ frames := 0, cells := 0, slots := 0, locals := 0 } : Room)) (fun a U => a = #[(.int p1)] ∧ Z.Warmed39 U.vm ∧ U.heap = h0) (fun _ _ _ _ _ => True) (fun _ U o U' => ∃ v L, o = .returned v ∧ Q23 Z p1 h0 n0 v U'.heap L ∧ FrameEnd U o U' L ({ frames := 0, cells := 0, slots := 0, locals := 0 } : Room).cells ({ frames := 0, cells := 0, slots := 0, locals := 0 } : Room).slots) := by
  refine MetFree.of_bodySF (plainFor_of_name pn_23) hisR ?_
  intro p e s m args below meth c s₁ Bd hml0 hP hK
  obtain ⟨rfl, hZ, hh⟩ := hP
  have hx := Bd.exec
  have hby := Bd.bytes
  have hml : c.maxLocals = 1 := hml0
  have hown : s.vm.findClass "java/lang/Character" = some m.cls := findClass_of_methodNamed Bd.named
  have hnm := (name_of_methodNamed Bd.named Bd.method).1
  have X0 : Stand p l e ({ frames := 0, cells := 0, slots := 0, locals := 0 } : Room) s m #[(.int p1)] below meth c s₁ [] 0 0 := Stand.of_body Bd
  have e0 : s₁.heap = h0 := by rw [← hh, Bd.state]; rfl
  have N0 := Fr.nil n0
  have pre0 : ∀ t, Steps p.tables e below (s₁.setTop (mkF m 0 #[.val (.int p1)] [])) t → Steps p.tables e below (s₁.setTop (entryFrame m #[(.int p1)] 1)) t := fun t k => castTop (ef_23 m p1) k

  obtain ⟨fs, hr, hrun, hended, hW, hsame⟩ := X0.leave (v := some (.int (1 : Int32))) (fun h => by rw [Bd.returns] at h; cases h)
  refine ⟨_, _, pre0 _ ?_, hrun, hended, _, _, rfl, ?_, ⟨_, rfl⟩, hW, hsame.mono (by decide) (by decide)⟩
  · show Steps p.tables e below (s₁.setTop (mkF m 0 #[.val (.int p1)] [])) _
    refine XS.iloadN X0.here hx rfl (hb hby d23_0) rfl ?_
    show Steps p.tables e below (s₁.setTop (mkF m 1 #[.val (.int p1)] [(.int p1)])) _
    refine X0.ldcInt hx hown (mvT hZ (hw _ (List.mem_of_getElem? (i := 109) rfl))) (g := (mkF m 1 #[.val (.int p1)] [(.int p1)])) rfl (hb hby d23_1) _ ?_
    show Steps p.tables e below (s₁.setTop (mkF m 3 #[.val (.int p1)] [(.int (65536 : Int32)), (.int p1)])) _
    refine XS.icmpYes X0.here hx rfl (pc0 := 3) (pc' := 10) rfl (hb hby d23_3) rfl (tlt hc3).1 (by decide) (by decide) ?_
    show Steps p.tables e below (s₁.setTop (mkF m 10 #[.val (.int p1)] [])) _
    refine XS.iconst X0.here hx rfl (hb hby d23_10) ?_
    show Steps p.tables e below (s₁.setTop (mkF m 11 #[.val (.int p1)] [(.int (1 : Int32))])) _
    exact retI X0 hx Bd.returns (hb hby d23_11) hr      -- retI stands in the head ('lawwalk <made dir>' prints it)
  · show Q23 Z p1 h0 n0 _ s₁.heap _
    rw [e0]
    exact ⟨rfl, N0, rfl⟩
theorem d17_0 : decode jdk_41_method_12_code 0 = .ok (.iload_n 0, 1) := by decide +kernel
theorem d17_1 : decode jdk_41_method_12_code 1 = .ok (.ifCond .lt 13, 3) := by decide +kernel
theorem d17_4 : decode jdk_41_method_12_code 4 = .ok (.iload_n 0, 1) := by decide +kernel
theorem d17_5 : decode jdk_41_method_12_code 5 = .ok (.iload_n 1, 1) := by decide +kernel
theorem d17_6 : decode jdk_41_method_12_code 6 = .ok (.if_icmp .gt 8, 3) := by decide +kernel
theorem d17_9 : decode jdk_41_method_12_code 9 = .ok (.iload_n 1, 1) := by decide +kernel
theorem d17_10 : decode jdk_41_method_12_code 10 = .ok (.iload_n 2, 1) := by decide +kernel
theorem d17_11 : decode jdk_41_method_12_code 11 = .ok (.if_icmp .le 11, 3) := by decide +kernel
theorem d17_22 : decode jdk_41_method_12_code 22 = .ok (.iload_n 0, 1) := by decide +kernel
theorem d17_23 : decode jdk_41_method_12_code 23 = .ok (.ireturn, 1) := by decide +kernel
theorem pn_17 : plainName "jdk/internal/util/Preconditions" = true := by first | (simp [plainName, overriddenIn]; done) | decide +kernel
theorem ef_17 (m : MethodId) (x0 : Int32) (x1 : Int32) (x2 : Int32) : entryFrame m #[(.int x0), (.int x1), (.int x2), .null] 4 = mkF m 0 #[.val (.int x0), .val (.int x1), .val (.int x2), .val .null] [] := by first | (simp [entryFrame, mkF, argsToLocals, Value.category]; done) | rfl
def Q17 (Z : State) (p1 : Int32) (p2 : Int32) (p3 : Int32) (h0 : Heap) (n0 : Nat) (v : Option Value) (h : Heap) (L : List Loc) : Prop := v = some (.int p1) ∧ Fr n0 L ∧ h = h0
set_option maxRecDepth 65536 in
set_option maxHeartbeats 40000000 in
theorem rm17 (l : Launch) (Z : State) (a0 : Array Value) (hw : ∀ d ∈ tables_1, d.before a0 Z = true) (ws : List Jvm.Cond) (p1 : Int32) (p2 : Int32) (p3 : Int32) (h0 : Heap) (n0 : Nat) (Z0 : n0 ≤ h0.size) (hc1 : ¬ (p1 < (0 : Int32))) (hc6 : ¬ (p2 < p1)) (hc11 : ¬ (p3 < p2)) :
    MetFree l (⟨"jdk/internal/util/Preconditions", "checkFromToIndex", "(IIILjava/util/function/BiFunction;)I"⟩ : MethodName) (head1 (Jvm.Cond.code (⟨"jdk/internal/util/Preconditions", "checkFromToIndex", "(IIILjava/util/function/BiFunction;)I"⟩ : MethodName) jdk_41_method_12_code 4 (some .int) :: ws) ({ frames := 0, cells := 0, slots := 0, locals := 0 } : Room)) (fun a U => a = #[(.int p1), (.int p2), (.int p3), .null] ∧ Z.Warmed39 U.vm ∧ U.heap = h0) (fun _ _ _ _ _ => True) (fun _ U o U' => ∃ v L, o = .returned v ∧ Q17 Z p1 p2 p3 h0 n0 v U'.heap L ∧ FrameEnd U o U' L ({ frames := 0, cells := 0, slots := 0, locals := 0 } : Room).cells ({ frames := 0, cells := 0, slots := 0, locals := 0 } : Room).slots) := by
  refine MetFree.of_bodySF (plainFor_of_name pn_17) hisR ?_
  intro p e s m args below meth c s₁ Bd hml0 hP hK
  obtain ⟨rfl, hZ, hh⟩ := hP
  have hx := Bd.exec
  have hby := Bd.bytes
  have hml : c.maxLocals = 4 := hml0
  have hown : s.vm.findClass "jdk/internal/util/Preconditions" = some m.cls := findClass_of_methodNamed Bd.named
  have hnm := (name_of_methodNamed Bd.named Bd.method).1
  have X0 : Stand p l e ({ frames := 0, cells := 0, slots := 0, locals := 0 } : Room) s m #[(.int p1), (.int p2), (.int p3), .null] below meth c s₁ [] 0 0 := Stand.of_body Bd
  have e0 : s₁.heap = h0 := by rw [← hh, Bd.state]; rfl
  have N0 := Fr.nil n0
  have pre0 : ∀ t, Steps p.tables e below (s₁.setTop (mkF m 0 #[.val (.int p1), .val (.int p2), .val (.int p3), .val .null] [])) t → Steps p.tables e below (s₁.setTop (entryFrame m #[(.int p1), (.int p2), (.int p3), .null] 4)) t := fun t k => castTop (ef_17 m p1 p2 p3) k

  obtain ⟨fs, hr, hrun, hended, hW, hsame⟩ := X0.leave (v := some (.int p1)) (fun h => by rw [Bd.returns] at h; cases h)
  refine ⟨_, _, pre0 _ ?_, hrun, hended, _, _, rfl, ?_, ⟨_, rfl⟩, hW, hsame.mono (by decide) (by decide)⟩
  · show Steps p.tables e below (s₁.setTop (mkF m 0 #[.val (.int p1), .val (.int p2), .val (.int p3), .val .null] [])) _
    refine XS.iloadN X0.here hx rfl (hb hby d17_0) rfl ?_
    show Steps p.tables e below (s₁.setTop (mkF m 1 #[.val (.int p1), .val (.int p2), .val (.int p3), .val .null] [(.int p1)])) _
    refine XS.ifNo X0.here hx rfl (hb hby d17_1) rfl ((if0 _ _).trans (flt hc1).1) ?_
    show Steps p.tables e below (s₁.setTop (mkF m 4 #[.val (.int p1), .val (.int p2), .val (.int p3), .val .null] [])) _
    refine XS.iloadN X0.here hx rfl (hb hby d17_4) rfl ?_
    show Steps p.tables e below (s₁.setTop (mkF m 5 #[.val (.int p1), .val (.int p2), .val (.int p3), .val .null] [(.int p1)])) _
    refine XS.iloadN X0.here hx rfl (hb hby d17_5) rfl ?_
    show Steps p.tables e below (s₁.setTop (mkF m 6 #[.val (.int p1), .val (.int p2), .val (.int p3), .val .null] [(.int p2), (.int p1)])) _
    refine XS.icmpNo X0.here hx rfl (hb hby d17_6) rfl (flt hc6).2.2.1 ?_
    show Steps p.tables e below (s₁.setTop (mkF m 9 #[.val (.int p1), .val (.int p2), .val (.int p3), .val .null] [])) _
    refine XS.iloadN X0.here hx rfl (hb hby d17_9) rfl ?_
    show Steps p.tables e below (s₁.setTop (mkF m 10 #[.val (.int p1), .val (.int p2), .val (.int p3), .val .null] [(.int p2)])) _
    refine XS.iloadN X0.here hx rfl (hb hby d17_10) rfl ?_
    show Steps p.tables e below (s₁.setTop (mkF m 11 #[.val (.int p1), .val (.int p2), .val (.int p3), .val .null] [(.int p3), (.int p2)])) _
    refine XS.icmpYes X0.here hx rfl (pc0 := 11) (pc' := 22) rfl (hb hby d17_11) rfl (flt hc11).2.2.2 (by decide) (by decide) ?_
    show Steps p.tables e below (s₁.setTop (mkF m 22 #[.val (.int p1), .val (.int p2), .val (.int p3), .val .null] [])) _
    refine XS.iloadN X0.here hx rfl (hb hby d17_22) rfl ?_
    show Steps p.tables e below (s₁.setTop (mkF m 23 #[.val (.int p1), .val (.int p2), .val (.int p3), .val .null] [(.int p1)])) _
    exact retI X0 hx Bd.returns (hb hby d17_23) hr      -- retI stands in the head ('lawwalk <made dir>' prints it)
  · show Q17 Z p1 p2 p3 h0 n0 _ s₁.heap _
    rw [e0]
    exact ⟨rfl, N0, rfl⟩
theorem d16_0 : decode jdk_31_method_18_code 0 = .ok (.iload_n 0, 1) := by decide +kernel
theorem d16_1 : decode jdk_31_method_18_code 1 = .ok (.iload_n 1, 1) := by decide +kernel
theorem d16_2 : decode jdk_31_method_18_code 2 = .ok (.iload_n 2, 1) := by decide +kernel
theorem d16_3 : decode jdk_31_method_18_code 3 = .ok (.aconst_null, 1) := by decide +kernel
theorem d16_4 : decode jdk_31_method_18_code 4 = .ok (.invokestatic 111, 3) := by decide +kernel
theorem d16_7 : decode jdk_31_method_18_code 7 = .ok (.ireturn, 1) := by decide +kernel
theorem pn_16 : plainName "java/util/Objects" = true := by first | (simp [plainName, overriddenIn]; done) | decide +kernel
theorem pd_16_15 : parseMethodDescriptor "(IIILjava/util/function/BiFunction;)I" = some ⟨[.int, .int, .int, (.object "java/util/function/BiFunction")], some .int⟩ := by decide +kernel
theorem ef_16 (m : MethodId) (x0 : Int32) (x1 : Int32) (x2 : Int32) : entryFrame m #[(.int x0), (.int x1), (.int x2)] 3 = mkF m 0 #[.val (.int x0), .val (.int x1), .val (.int x2)] [] := by first | (simp [entryFrame, mkF, argsToLocals, Value.category]; done) | rfl
def Q16 (Z : State) (p1 : Int32) (p2 : Int32) (p3 : Int32) (h0 : Heap) (n0 : Nat) (v : Option Value) (h : Heap) (L : List Loc) : Prop := v = some (.int p1) ∧ Fr n0 L ∧ h = h0
set_option maxRecDepth 65536 in
set_option maxHeartbeats 40000000 in
theorem rm16 (l : Launch) (Z : State) (a0 : Array Value) (hw : ∀ d ∈ tables_1, d.before a0 Z = true) (ws : List Jvm.Cond) (p1 : Int32) (p2 : Int32) (p3 : Int32) (h0 : Heap) (n0 : Nat) (Z0 : n0 ≤ h0.size) (g1 : ¬ (p1 < (0 : Int32))) (g2 : ¬ (p2 < p1)) (g3 : ¬ (p3 < p2)) :
    MetFree l (⟨"java/util/Objects", "checkFromToIndex", "(III)I"⟩ : MethodName) (head1 (Jvm.Cond.code (⟨"java/util/Objects", "checkFromToIndex", "(III)I"⟩ : MethodName) jdk_31_method_18_code 3 (some .int) :: ws) ({ frames := 1, cells := 0, slots := 0, locals := 15 } : Room)) (fun a U => a = #[(.int p1), (.int p2), (.int p3)] ∧ Z.Warmed39 U.vm ∧ U.heap = h0) (fun _ _ _ _ _ => True) (fun _ U o U' => ∃ v L, o = .returned v ∧ Q16 Z p1 p2 p3 h0 n0 v U'.heap L ∧ FrameEnd U o U' L ({ frames := 1, cells := 0, slots := 0, locals := 15 } : Room).cells ({ frames := 1, cells := 0, slots := 0, locals := 15 } : Room).slots) := by
  refine MetFree.of_bodySF (plainFor_of_name pn_16) hisR ?_
  intro p e s m args below meth c s₁ Bd hml0 hP hK
  obtain ⟨rfl, hZ, hh⟩ := hP
  have hx := Bd.exec
  have hby := Bd.bytes
  have hml : c.maxLocals = 3 := hml0
  have hown : s.vm.findClass "java/util/Objects" = some m.cls := findClass_of_methodNamed Bd.named
  have hnm := (name_of_methodNamed Bd.named Bd.method).1
  have X0 : Stand p l e ({ frames := 1, cells := 0, slots := 0, locals := 15 } : Room) s m #[(.int p1), (.int p2), (.int p3)] below meth c s₁ [] 0 0 := Stand.of_body Bd
  have e0 : s₁.heap = h0 := by rw [← hh, Bd.state]; rfl
  have N0 := Fr.nil n0
  have pre0 : ∀ t, Steps p.tables e below (s₁.setTop (mkF m 0 #[.val (.int p1), .val (.int p2), .val (.int p3)] [])) t → Steps p.tables e below (s₁.setTop (entryFrame m #[(.int p1), (.int p2), (.int p3)] 3)) t := fun t k => castTop (ef_16 m p1 p2 p3) k
  obtain ⟨_, _, ⟨T4, L4, k4, n4⟩, -, X4, ⟨Lc4, hQ4, l4, y4, z4⟩, st4⟩ := Jvm.LawKit.callS X0 hx (y := (⟨"jdk/internal/util/Preconditions", "checkFromToIndex", "(IIILjava/util/function/BiFunction;)I"⟩ : MethodName)) hown (mvT hZ (hw _ (List.mem_of_getElem? (i := 77) rfl))) (mvT hZ (hw _ (List.mem_of_getElem? (i := 78) rfl))) (mvT hZ (hw _ (List.mem_of_getElem? (i := 79) rfl))) (mvT hZ (hw _ (List.mem_of_getElem? (i := 80) rfl))) (by decide) (backOf (W := 0) (rm17 l Z a0 hw [] p1 p2 p3 h0 n0 Z0 g1 g2 g3) hZ (hw _ (List.mem_of_getElem? (i := 80) rfl)) (hw _ (List.mem_of_getElem? (i := 79) rfl)) (by decide) (by decide)) (g := (mkF m 4 #[.val (.int p1), .val (.int p2), .val (.int p3)] [.null, (.int p3), (.int p2), (.int p1)])) rfl (by rw [hml]; rfl) (argsL := [(.int p1), (.int p2), (.int p3), .null]) (rest := []) (lenOf pd_16_15 rfl) rfl (by show 2 * 0 + _ ≤ _; exact Nat.le_of_eq rfl) (hb hby d16_4) (fun _ _ => ⟨rfl, e0, (by decide : 0 + 0 ≤ _), (by decide : 0 + 0 ≤ _)⟩)
  dsimp only [Pt.U, Pt.locs, Pt.cells, Pt.slots] at X4 l4 y4 z4 st4 hQ4
  subst l4 y4 z4
  obtain ⟨rfl, N4q, E4q⟩ := hQ4
  have K4q : Keep h0 T4.heap [] := by rw [E4q]; exact Keep.refl _ _
  have Z4 : n0 ≤ T4.heap.size := Nat.le_trans Z0 K4q.1
  have N4 := Fr.app N0 N4q
  obtain ⟨fs, hr, hrun, hended, hW, hsame⟩ := X4.leave (v := some (.int p1)) (fun h => by rw [Bd.returns] at h; cases h)
  refine ⟨_, _, pre0 _ ?_, hrun, hended, _, _, rfl, ?_, ⟨_, rfl⟩, hW, hsame.mono (by decide) (by decide)⟩
  · show Steps p.tables e below (s₁.setTop (mkF m 0 #[.val (.int p1), .val (.int p2), .val (.int p3)] [])) _
    refine XS.iloadN X0.here hx rfl (hb hby d16_0) rfl ?_
    show Steps p.tables e below (s₁.setTop (mkF m 1 #[.val (.int p1), .val (.int p2), .val (.int p3)] [(.int p1)])) _
    refine XS.iloadN X0.here hx rfl (hb hby d16_1) rfl ?_
    show Steps p.tables e below (s₁.setTop (mkF m 2 #[.val (.int p1), .val (.int p2), .val (.int p3)] [(.int p2), (.int p1)])) _
    refine XS.iloadN X0.here hx rfl (hb hby d16_2) rfl ?_
    show Steps p.tables e below (s₁.setTop (mkF m 3 #[.val (.int p1), .val (.int p2), .val (.int p3)] [(.int p3), (.int p2), (.int p1)])) _
    refine XS.aconstNull X0.here hx rfl (hb hby d16_3) ?_
    show Steps p.tables e below (s₁.setTop (mkF m 4 #[.val (.int p1), .val (.int p2), .val (.int p3)] [.null, (.int p3), (.int p2), (.int p1)])) _
    refine st4 _ ?_
    show Steps p.tables e below (T4.setTop (mkF m 7 #[.val (.int p1), .val (.int p2), .val (.int p3)] [(.int p1)])) _
    exact retI X4 hx Bd.returns (hb hby d16_7) hr      -- retI stands in the head ('lawwalk <made dir>' prints it)
  · show Q16 Z p1 p2 p3 h0 n0 _ T4.heap _
    exact ⟨rfl, N4, E4q⟩
theorem d21_0 : decode jdk_42_method_155_code 0 = .ok (.iload_n 0, 1) := by decide +kernel
theorem d21_1 : decode jdk_42_method_155_code 1 = .ok (.iload_n 1, 1) := by decide +kernel
theorem d21_2 : decode jdk_42_method_155_code 2 = .ok (.getstatic 1053, 3) := by decide +kernel
theorem d21_5 : decode jdk_42_method_155_code 5 = .ok (.invokestatic 1059, 3) := by decide +kernel
theorem d21_8 : decode jdk_42_method_155_code 8 = .ok (.pop, 1) := by decide +kernel
theorem d21_9 : decode jdk_42_method_155_code 9 = .ok (.return_, 1) := by decide +kernel
theorem pn_21 : plainName "java/lang/String" = true := by first | (simp [plainName, overriddenIn]; done) | decide +kernel
theorem pd_21_20 : parseMethodDescriptor "(IILjava/util/function/BiFunction;)I" = some ⟨[.int, .int, (.object "java/util/function/BiFunction")], some .int⟩ := by decide +kernel
theorem ef_21 (m : MethodId) (x0 : Int32) (x1 : Int32) : entryFrame m #[(.int x0), (.int x1)] 2 = mkF m 0 #[.val (.int x0), .val (.int x1)] [] := by first | (simp [entryFrame, mkF, argsToLocals, Value.category]; done) | rfl
def Q21 (Z : State) (p1 : Int32) (p2 : Int32) (h0 : Heap) (n0 : Nat) (v : Option Value) (h : Heap) (L : List Loc) : Prop := v = none ∧ Fr n0 L ∧ h = h0
set_option maxRecDepth 65536 in
set_option maxHeartbeats 40000000 in
theorem rm21r (l : Launch) (Z : State) (a0 : Array Value) (hw : ∀ d ∈ tables_1, d.before a0 Z = true) (ws : List Jvm.Cond) (p1 : Int32) (p2 : Int32) (w3 : Addr) (h0 : Heap) (n0 : Nat) (Z0 : n0 ≤ h0.size) (S_SIOOBE_FORMATTER : Sta Z h0 "jdk/internal/util/Preconditions" "SIOOBE_FORMATTER" "Ljava/util/function/BiFunction;" (.ref w3)) (g1 : ¬ (p1 < (0 : Int32))) (g2 : p1 < p2) :
    MetFree l (⟨"java/lang/String", "checkIndex", "(II)V"⟩ : MethodName) (head1 (Jvm.Cond.code (⟨"java/lang/String", "checkIndex", "(II)V"⟩ : MethodName) jdk_42_method_155_code 2 none :: ws) ({ frames := 1, cells := 0, slots := 0, locals := 14 } : Room)) (fun a U => a = #[(.int p1), (.int p2)] ∧ Z.Warmed39 U.vm ∧ U.heap = h0) (fun _ _ _ _ _ => True) (fun _ U o U' => ∃ v L, o = .returned v ∧ Q21 Z p1 p2 h0 n0 v U'.heap L ∧ FrameEnd U o U' L ({ frames := 1, cells := 0, slots := 0, locals := 14 } : Room).cells ({ frames := 1, cells := 0, slots := 0, locals := 14 } : Room).slots) := by
  refine MetFree.of_bodySF (plainFor_of_name pn_21) hisR ?_
  intro p e s m args below meth c s₁ Bd hml0 hP hK
  obtain ⟨rfl, hZ, hh⟩ := hP
  have hx := Bd.exec
  have hby := Bd.bytes
  have hml : c.maxLocals = 2 := hml0
  have hown : s.vm.findClass "java/lang/String" = some m.cls := findClass_of_methodNamed Bd.named
  have hnm := (name_of_methodNamed Bd.named Bd.method).1
  have X0 : Stand p l e ({ frames := 1, cells := 0, slots := 0, locals := 14 } : Room) s m #[(.int p1), (.int p2)] below meth c s₁ [] 0 0 := Stand.of_body Bd
  have e0 : s₁.heap = h0 := by rw [← hh, Bd.state]; rfl
  have N0 := Fr.nil n0
  have pre0 : ∀ t, Steps p.tables e below (s₁.setTop (mkF m 0 #[.val (.int p1), .val (.int p2)] [])) t → Steps p.tables e below (s₁.setTop (entryFrame m #[(.int p1), (.int p2)] 2)) t := fun t k => castTop (ef_21 m p1 p2) k
  obtain ⟨T4, X4, e4, st4⟩ := getS2 X0 hx hZ hown (host := "") (Or.inl (hw _ (List.mem_of_getElem? (i := 100) rfl))) Via.refl e0 S_SIOOBE_FORMATTER (g := (mkF m 2 #[.val (.int p1), .val (.int p2)] [(.int p2), (.int p1)])) rfl (hb hby d21_2)
  obtain ⟨_, _, ⟨T5, L5, k5, n5⟩, -, X5, ⟨Lc5, hQ5, l5, y5, z5⟩, st5⟩ := Jvm.LawKit.callS X4 hx (y := (⟨"jdk/internal/util/Preconditions", "checkIndex", "(IILjava/util/function/BiFunction;)I"⟩ : MethodName)) hown (mvT hZ (hw _ (List.mem_of_getElem? (i := 101) rfl))) (mvT hZ (hw _ (List.mem_of_getElem? (i := 102) rfl))) (mvT hZ (hw _ (List.mem_of_getElem? (i := 79) rfl))) (mvT hZ (hw _ (List.mem_of_getElem? (i := 103) rfl))) (by decide) (backOf (W := 0) (rm22 l Z a0 hw [] p1 p2 w3 h0 n0 Z0 g1 g2) hZ (hw _ (List.mem_of_getElem? (i := 103) rfl)) (hw _ (List.mem_of_getElem? (i := 79) rfl)) (by decide) (by decide)) (g := (mkF m 5 #[.val (.int p1), .val (.int p2)] [(.ref w3), (.int p2), (.int p1)])) rfl (by rw [hml]; rfl) (argsL := [(.int p1), (.int p2), (.ref w3)]) (rest := []) (lenOf pd_21_20 rfl) rfl (by show 2 * 0 + _ ≤ _; exact Nat.le_of_eq rfl) (hb hby d21_5) (fun _ _ => ⟨rfl, e4, (by decide : 0 + 0 ≤ _), (by decide : 0 + 0 ≤ _)⟩)
  dsimp only [Pt.U, Pt.locs, Pt.cells, Pt.slots] at X5 l5 y5 z5 st5 hQ5
  subst l5 y5 z5
  obtain ⟨rfl, N5q, E5q⟩ := hQ5
  have K5q : Keep h0 T5.heap [] := by rw [E5q]; exact Keep.refl _ _
  have Z5 : n0 ≤ T5.heap.size := Nat.le_trans Z0 K5q.1
  have N5 := Fr.app N0 N5q
  obtain ⟨fs, hr, hrun, hended, hW, hsame⟩ := X5.leave (v := none) (fun _ => rfl)
  refine ⟨_, _, pre0 _ ?_, hrun, hended, _, _, rfl, ?_, ⟨_, rfl⟩, hW, hsame.mono (by decide) (by decide)⟩
  · show Steps p.tables e below (s₁.setTop (mkF m 0 #[.val (.int p1), .val (.int p2)] [])) _
    refine XS.iloadN X0.here hx rfl (hb hby d21_0) rfl ?_
    show Steps p.tables e below (s₁.setTop (mkF m 1 #[.val (.int p1), .val (.int p2)] [(.int p1)])) _
    refine XS.iloadN X0.here hx rfl (hb hby d21_1) rfl ?_
    show Steps p.tables e below (s₁.setTop (mkF m 2 #[.val (.int p1), .val (.int p2)] [(.int p2), (.int p1)])) _
    refine st4 _ ?_
    show Steps p.tables e below (T4.setTop (mkF m 5 #[.val (.int p1), .val (.int p2)] [(.ref w3), (.int p2), (.int p1)])) _
    refine st5 _ ?_
    show Steps p.tables e below (T5.setTop (mkF m 8 #[.val (.int p1), .val (.int p2)] [(.int p1)])) _
    refine XS.pop X5.here hx rfl (hb hby d21_8) rfl rfl ?_
    show Steps p.tables e below (T5.setTop (mkF m 9 #[.val (.int p1), .val (.int p2)] [])) _
    exact X5.returnOut hx Bd.returns (hb hby d21_9) hr
  · show Q21 Z p1 p2 h0 n0 _ T5.heap _
    exact ⟨rfl, N5, E5q⟩
set_option maxRecDepth 65536 in
set_option maxHeartbeats 40000000 in
theorem rm21n (l : Launch) (Z : State) (a0 : Array Value) (hw : ∀ d ∈ tables_1, d.before a0 Z = true) (ws : List Jvm.Cond) (p1 : Int32) (p2 : Int32) (h0 : Heap) (n0 : Nat) (Z0 : n0 ≤ h0.size) (S_SIOOBE_FORMATTER : Sta Z h0 "jdk/internal/util/Preconditions" "SIOOBE_FORMATTER" "Ljava/util/function/BiFunction;" .null) (g1 : ¬ (p1 < (0 : Int32))) (g2 : p1 < p2) :
    MetFree l (⟨"java/lang/String", "checkIndex", "(II)V"⟩ : MethodName) (head1 (Jvm.Cond.code (⟨"java/lang/String", "checkIndex", "(II)V"⟩ : MethodName) jdk_42_method_155_code 2 none :: ws) ({ frames := 1, cells := 0, slots := 0, locals := 14 } : Room)) (fun a U => a = #[(.int p1), (.int p2)] ∧ Z.Warmed39 U.vm ∧ U.heap = h0) (fun _ _ _ _ _ => True) (fun _ U o U' => ∃ v L, o = .returned v ∧ Q21 Z p1 p2 h0 n0 v U'.heap L ∧ FrameEnd U o U' L ({ frames := 1, cells := 0, slots := 0, locals := 14 } : Room).cells ({ frames := 1, cells := 0, slots := 0, locals := 14 } : Room).slots) := by
  refine MetFree.of_bodySF (plainFor_of_name pn_21) hisR ?_
  intro p e s m args below meth c s₁ Bd hml0 hP hK
  obtain ⟨rfl, hZ, hh⟩ := hP
  have hx := Bd.exec
  have hby := Bd.bytes
  have hml : c.maxLocals = 2 := hml0
  have hown : s.vm.findClass "java/lang/String" = some m.cls := findClass_of_methodNamed Bd.named
  have hnm := (name_of_methodNamed Bd.named Bd.method).1
  have X0 : Stand p l e ({ frames := 1, cells := 0, slots := 0, locals := 14 } : Room) s m #[(.int p1), (.int p2)] below meth c s₁ [] 0 0 := Stand.of_body Bd
  have e0 : s₁.heap = h0 := by rw [← hh, Bd.state]; rfl
  have N0 := Fr.nil n0
  have pre0 : ∀ t, Steps p.tables e below (s₁.setTop (mkF m 0 #[.val (.int p1), .val (.int p2)] [])) t → Steps p.tables e below (s₁.setTop (entryFrame m #[(.int p1), (.int p2)] 2)) t := fun t k => castTop (ef_21 m p1 p2) k
  obtain ⟨T4, X4, e4, st4⟩ := getS2 X0 hx hZ hown (host := "") (Or.inl (hw _ (List.mem_of_getElem? (i := 100) rfl))) Via.refl e0 S_SIOOBE_FORMATTER (g := (mkF m 2 #[.val (.int p1), .val (.int p2)] [(.int p2), (.int p1)])) rfl (hb hby d21_2)
  obtain ⟨_, _, ⟨T5, L5, k5, n5⟩, -, X5, ⟨Lc5, hQ5, l5, y5, z5⟩, st5⟩ := Jvm.LawKit.callS X4 hx (y := (⟨"jdk/internal/util/Preconditions", "checkIndex", "(IILjava/util/function/BiFunction;)I"⟩ : MethodName)) hown (mvT hZ (hw _ (List.mem_of_getElem? (i := 101) rfl))) (mvT hZ (hw _ (List.mem_of_getElem? (i := 102) rfl))) (mvT hZ (hw _ (List.mem_of_getElem? (i := 79) rfl))) (mvT hZ (hw _ (List.mem_of_getElem? (i := 103) rfl))) (by decide) (backOf (W := 0) (rm22n l Z a0 hw [] p1 p2 h0 n0 Z0 g1 g2) hZ (hw _ (List.mem_of_getElem? (i := 103) rfl)) (hw _ (List.mem_of_getElem? (i := 79) rfl)) (by decide) (by decide)) (g := (mkF m 5 #[.val (.int p1), .val (.int p2)] [.null, (.int p2), (.int p1)])) rfl (by rw [hml]; rfl) (argsL := [(.int p1), (.int p2), .null]) (rest := []) (lenOf pd_21_20 rfl) rfl (by show 2 * 0 + _ ≤ _; exact Nat.le_of_eq rfl) (hb hby d21_5) (fun _ _ => ⟨rfl, e4, (by decide : 0 + 0 ≤ _), (by decide : 0 + 0 ≤ _)⟩)
  dsimp only [Pt.U, Pt.locs, Pt.cells, Pt.slots] at X5 l5 y5 z5 st5 hQ5
  subst l5 y5 z5
  obtain ⟨rfl, N5q, E5q⟩ := hQ5
  have K5q : Keep h0 T5.heap [] := by rw [E5q]; exact Keep.refl _ _
  have Z5 : n0 ≤ T5.heap.size := Nat.le_trans Z0 K5q.1
  have N5 := Fr.app N0 N5q
  obtain ⟨fs, hr, hrun, hended, hW, hsame⟩ := X5.leave (v := none) (fun _ => rfl)
  refine ⟨_, _, pre0 _ ?_, hrun, hended, _, _, rfl, ?_, ⟨_, rfl⟩, hW, hsame.mono (by decide) (by decide)⟩
  · show Steps p.tables e below (s₁.setTop (mkF m 0 #[.val (.int p1), .val (.int p2)] [])) _
    refine XS.iloadN X0.here hx rfl (hb hby d21_0) rfl ?_
    show Steps p.tables e below (s₁.setTop (mkF m 1 #[.val (.int p1), .val (.int p2)] [(.int p1)])) _
    refine XS.iloadN X0.here hx rfl (hb hby d21_1) rfl ?_
    show Steps p.tables e below (s₁.setTop (mkF m 2 #[.val (.int p1), .val (.int p2)] [(.int p2), (.int p1)])) _
    refine st4 _ ?_
    show Steps p.tables e below (T4.setTop (mkF m 5 #[.val (.int p1), .val (.int p2)] [.null, (.int p2), (.int p1)])) _
    refine st5 _ ?_
    show Steps p.tables e below (T5.setTop (mkF m 8 #[.val (.int p1), .val (.int p2)] [(.int p1)])) _
    refine XS.pop X5.here hx rfl (hb hby d21_8) rfl rfl ?_
    show Steps p.tables e below (T5.setTop (mkF m 9 #[.val (.int p1), .val (.int p2)] [])) _
    exact X5.returnOut hx Bd.returns (hb hby d21_9) hr
  · show Q21 Z p1 p2 h0 n0 _ T5.heap _
    exact ⟨rfl, N5, E5q⟩
theorem rm21 (l : Launch) (Z : State) (a0 : Array Value) (hw : ∀ d ∈ tables_1, d.before a0 Z = true) (ws : List Jvm.Cond) (p1 p2 : Int32) (wf : Value) (h0 : Heap) (n0 : Nat) (Z0 : n0 ≤ h0.size) (S : Sta Z h0 "jdk/internal/util/Preconditions" "SIOOBE_FORMATTER" "Ljava/util/function/BiFunction;" wf) (hwf : wf.isRef = true) (g1 : ¬ (p1 < (0 : Int32))) (g2 : p1 < p2) : MetFree l (⟨"java/lang/String", "checkIndex", "(II)V"⟩ : MethodName) (head1 (Jvm.Cond.code (⟨"java/lang/String", "checkIndex", "(II)V"⟩ : MethodName) jdk_42_method_155_code 2 none :: ws) ({ frames := 1, cells := 0, slots := 0, locals := 14 } : Room)) (fun a U => a = #[(.int p1), (.int p2)] ∧ Z.Warmed39 U.vm ∧ U.heap = h0) (fun _ _ _ _ _ => True) (fun _ U o U' => ∃ v L, o = .returned v ∧ Q21 Z p1 p2 h0 n0 v U'.heap L ∧ FrameEnd U o U' L ({ frames := 1, cells := 0, slots := 0, locals := 14 } : Room).cells ({ frames := 1, cells := 0, slots := 0, locals := 14 } : Room).slots) := by
  rcases ref_cases hwf with rfl | ⟨a, rfl⟩
  · exact rm21n l Z a0 hw ws p1 p2 h0 n0 Z0 S g1 g2
  · exact rm21r l Z a0 hw ws p1 p2 a h0 n0 Z0 S g1 g2
theorem d15_0 : decode jdk_42_method_59_code 0 = .ok (.iload_n 1, 1) := by decide +kernel
theorem d15_1 : decode jdk_42_method_59_code 1 = .ok (.iload_n 2, 1) := by decide +kernel
theorem d15_2 : decode jdk_42_method_59_code 2 = .ok (.aload_n 0, 1) := by decide +kernel
theorem d15_3 : decode jdk_42_method_59_code 3 = .ok (.invokevirtual 505, 3) := by decide +kernel
theorem d15_6 : decode jdk_42_method_59_code 6 = .ok (.invokestatic 511, 3) := by decide +kernel
theorem d15_9 : decode jdk_42_method_59_code 9 = .ok (.pop, 1) := by decide +kernel
theorem d15_10 : decode jdk_42_method_59_code 10 = .ok (.aload_n 0, 1) := by decide +kernel
theorem d15_11 : decode jdk_42_method_59_code 11 = .ok (.invokevirtual 492, 3) := by decide +kernel
theorem d15_14 : decode jdk_42_method_59_code 14 = .ok (.ifCond .eq 7, 3) := by decide +kernel
theorem d15_17 : decode jdk_42_method_59_code 17 = .ok (.iload_n 2, 1) := by decide +kernel
theorem d15_18 : decode jdk_42_method_59_code 18 = .ok (.iload_n 1, 1) := by decide +kernel
theorem d15_19 : decode jdk_42_method_59_code 19 = .ok (.isub, 1) := by decide +kernel
theorem d15_20 : decode jdk_42_method_59_code 20 = .ok (.ireturn, 1) := by decide +kernel
theorem pn_15 : plainName "java/lang/String" = true := by first | (simp [plainName, overriddenIn]; done) | decide +kernel
theorem pd_15_12 : parseMethodDescriptor "()I" = some ⟨[], some .int⟩ := by decide +kernel
theorem pd_15_14 : parseMethodDescriptor "(III)I" = some ⟨[.int, .int, .int], some .int⟩ := by decide +kernel
theorem pd_15_16 : parseMethodDescriptor "()Z" = some ⟨[], some .boolean⟩ := by decide +kernel
theorem ef_15 (m : MethodId) (x0 : Addr) (x1 : Int32) (x2 : Int32) : entryFrame m #[(.ref x0), (.int x1), (.int x2)] 3 = mkF m 0 #[.val (.ref x0), .val (.int x1), .val (.int x2)] [] := by first | (simp [entryFrame, mkF, argsToLocals, Value.category]; done) | rfl
def Q15 (Z : State) (a1 : Addr) (p2 : Int32) (p3 : Int32) (h0 : Heap) (n0 : Nat) (v : Option Value) (h : Heap) (L : List Loc) : Prop := v = some (.int (p3 - p2)) ∧ Fr n0 L ∧ h = h0
set_option maxRecDepth 65536 in
set_option maxHeartbeats 40000000 in
theorem rm15 (l : Launch) (Z : State) (a0 : Array Value) (hw : ∀ d ∈ tables_1, d.before a0 Z = true) (ws : List Jvm.Cond) (a1 : Addr) (p2 : Int32) (p3 : Int32) (h0 : Heap) (n0 : Nat) (Z0 : n0 ≤ h0.size) (cs : List Int32) (zc : Int32) (St : own_Str Z h0 a1 cs) (S_C : Sta Z Z.heap "java/lang/String" "COMPACT_STRINGS" "Z" (.int zc)) (hzc : ¬ zc = 0) (X00 : Old Z n0 h0) (g1 : ¬ (p2 < (0 : Int32))) (g2 : ¬ (p3 < p2)) (g3 : ¬ (Int32.ofNat cs.length < p3)) :
    MetFree l (⟨"java/lang/String", "codePointCount", "(II)I"⟩ : MethodName) (head1 (Jvm.Cond.code (⟨"java/lang/String", "codePointCount", "(II)I"⟩ : MethodName) jdk_42_method_59_code 3 (some .int) :: ws) ({ frames := 3, cells := 0, slots := 0, locals := 40 } : Room)) (fun a U => a = #[(.ref a1), (.int p2), (.int p3)] ∧ Z.Warmed39 U.vm ∧ U.heap = h0) (fun _ _ _ _ _ => True) (fun _ U o U' => ∃ v L, o = .returned v ∧ Q15 Z a1 p2 p3 h0 n0 v U'.heap L ∧ FrameEnd U o U' L ({ frames := 3, cells := 0, slots := 0, locals := 40 } : Room).cells ({ frames := 3, cells := 0, slots := 0, locals := 40 } : Room).slots) := by
  refine MetFree.of_bodySF (plainFor_of_name pn_15) hisR ?_
  intro p e s m args below meth c s₁ Bd hml0 hP hK
  obtain ⟨rfl, hZ, hh⟩ := hP
  have hx := Bd.exec
  have hby := Bd.bytes
  have hml : c.maxLocals = 3 := hml0
  have hown : s.vm.findClass "java/lang/String" = some m.cls := findClass_of_methodNamed Bd.named
  have hnm := (name_of_methodNamed Bd.named Bd.method).1
  have X0 : Stand p l e ({ frames := 3, cells := 0, slots := 0, locals := 40 } : Room) s m #[(.ref a1), (.int p2), (.int p3)] below meth c s₁ [] 0 0 := Stand.of_body Bd
  have e0 : s₁.heap = h0 := by rw [← hh, Bd.state]; rfl
  have N0 := Fr.nil n0
  have hlen : ∀ d ∈ StrChars.Road.wordsLen, d.before a0 Z = true := fun d hd => hw d ((by decide +kernel : ∀ d ∈ StrChars.Road.wordsLen, d ∈ tables_1) d hd)
  obtain ⟨t_a1, kb_a1, n_a1, vs_a1, E_a1, V_a1, C_a1, K_a1, hc_a1, hb_a1, l_a1⟩ := id St
  have pre0 : ∀ t, Steps p.tables e below (s₁.setTop (mkF m 0 #[.val (.ref a1), .val (.int p2), .val (.int p3)] [])) t → Steps p.tables e below (s₁.setTop (entryFrame m #[(.ref a1), (.int p2), (.int p3)] 3)) t := fun t k => castTop (ef_15 m a1 p2 p3) k
  obtain ⟨cq4, kq4, q4a, q4b, q4c⟩ := isOf hZ e0 E_a1
  obtain ⟨_, _, ⟨T4, L4, k4, n4⟩, -, X4, ⟨Lc4, hQ4, l4, y4, z4⟩, st4⟩ := X0.virtualBack hx (y := (⟨"java/lang/String", "length", "()I"⟩ : MethodName)) (z := (⟨"java/lang/String", "length", "()I"⟩ : MethodName)) hown (mvT hZ (hw _ (List.mem_of_getElem? (i := 73) rfl))) (mvT hZ (hw _ (List.mem_of_getElem? (i := 59) rfl))) (notFace_of_selects (args := #[]) (mvT hZ (hw _ (List.mem_of_getElem? (i := 61) rfl)))) (mvT hZ (hw _ (List.mem_of_getElem? (i := 61) rfl))) (mvT hZ (hw _ (List.mem_of_getElem? (i := 60) rfl))) (by decide) (StrChars.Road.lenW (W := 2) hZ hlen (kI := 4) (hw _ (List.mem_of_getElem? (i := 15) rfl)) E_a1 V_a1 C_a1 K_a1 hc_a1 hb_a1 (S_C.ext X00.2) hzc l_a1 (by decide) (by decide)) q4a q4c (g := (mkF m 3 #[.val (.ref a1), .val (.int p2), .val (.int p3)] [(.ref a1), (.int p3), (.int p2)])) rfl (by rw [hml]; rfl) (Steps.refl _) (argsL := []) (rest := [(.int p3), (.int p2)]) (lenOf pd_15_12 rfl) rfl (by show 2 * 0 + _ ≤ _; exact Nat.le_of_eq rfl) (hb hby d15_3) (fun _ _ => ⟨rfl, e0, (by decide : 0 + 0 ≤ _), (by decide : 0 + 0 ≤ _)⟩)
  dsimp only [Pt.U, Pt.locs, Pt.cells, Pt.slots] at X4 l4 y4 z4 st4 hQ4
  subst l4 y4 z4
  obtain ⟨rfl, rfl, E4q⟩ := hQ4
  have K4q : Keep h0 T4.heap [] := by rw [E4q]; exact Keep.refl _ _
  have N4q : Fr n0 ([] : List Loc) := Fr.nil n0
  have Z4 : n0 ≤ T4.heap.size := Nat.le_trans Z0 K4q.1
  have N4 := Fr.app N0 N4q
  have CE2_a1 := (E_a1.keep K4q)
  obtain ⟨_, _, ⟨T5, L5, k5, n5⟩, -, X5, ⟨Lc5, hQ5, l5, y5, z5⟩, st5⟩ := Jvm.LawKit.callS X4 hx (y := (⟨"java/util/Objects", "checkFromToIndex", "(III)I"⟩ : MethodName)) hown (mvT hZ (hw _ (List.mem_of_getElem? (i := 74) rfl))) (mvT hZ (hw _ (List.mem_of_getElem? (i := 75) rfl))) (mvT hZ (hw _ (List.mem_of_getElem? (i := 56) rfl))) (mvT hZ (hw _ (List.mem_of_getElem? (i := 76) rfl))) (by decide) (backOf (W := 0) (rm16 l Z a0 hw [] p2 p3 (Int32.ofNat cs.length) T4.heap n0 Z4 g1 g2 g3) hZ (hw _ (List.mem_of_getElem? (i := 76) rfl)) (hw _ (List.mem_of_getElem? (i := 56) rfl)) (by decide) (by decide)) (g := (mkF m 6 #[.val (.ref a1), .val (.int p2), .val (.int p3)] [(.int (Int32.ofNat cs.length)), (.int p3), (.int p2)])) rfl (by rw [hml]; rfl) (argsL := [(.int p2), (.int p3), (.int (Int32.ofNat cs.length))]) (rest := []) (lenOf pd_15_14 rfl) rfl (by show 2 * 0 + _ ≤ _; exact Nat.le_of_eq rfl) (hb hby d15_6) (fun _ _ => ⟨rfl, rfl, (by decide : 0 + 0 ≤ _), (by decide : 0 + 0 ≤ _)⟩)
  dsimp only [Pt.U, Pt.locs, Pt.cells, Pt.slots] at X5 l5 y5 z5 st5 hQ5
  subst l5 y5 z5
  obtain ⟨rfl, N5q, E5q⟩ := hQ5
  have K5q : Keep T4.heap T5.heap [] := by rw [E5q]; exact Keep.refl _ _
  have Z5 : n0 ≤ T5.heap.size := Nat.le_trans Z4 K5q.1
  have N5 := Fr.app N4 N5q
  have CE3_a1 := ((E_a1.keep K4q).keep K5q)
  obtain ⟨cq6, kq6, q6a, q6b, q6c⟩ := isOf hZ rfl ((E_a1.keep K4q).keep K5q)
  obtain ⟨_, _, ⟨T6, L6, k6, n6⟩, -, X6, ⟨Lc6, hQ6, l6, y6, z6⟩, st6⟩ := X5.virtualBack hx (y := (⟨"java/lang/String", "isLatin1", "()Z"⟩ : MethodName)) (z := (⟨"java/lang/String", "isLatin1", "()Z"⟩ : MethodName)) hown (mvT hZ (hw _ (List.mem_of_getElem? (i := 81) rfl))) (mvT hZ (hw _ (List.mem_of_getElem? (i := 82) rfl))) (notFace_of_selects (args := #[]) (mvT hZ (hw _ (List.mem_of_getElem? (i := 84) rfl)))) (mvT hZ (hw _ (List.mem_of_getElem? (i := 84) rfl))) (mvT hZ (hw _ (List.mem_of_getElem? (i := 83) rfl))) (by decide) (backOf (W := 0) (rm18 l Z a0 hw [] a1 zc 0 T5.heap n0 Z5 (S_C.ext ((X00.keep K4q all0).keep K5q all0).2) ((C_a1.keep K4q nin0).keep K5q nin0) hzc rfl) hZ (hw _ (List.mem_of_getElem? (i := 85) rfl)) (hw _ (List.mem_of_getElem? (i := 14) rfl)) (by decide) (by decide)) q6a q6c (g := (mkF m 11 #[.val (.ref a1), .val (.int p2), .val (.int p3)] [(.ref a1)])) rfl (by rw [hml]; rfl) (Steps.refl _) (argsL := []) (rest := []) (lenOf pd_15_16 rfl) rfl (by show 2 * 0 + _ ≤ _; exact Nat.le_of_eq rfl) (hb hby d15_11) (fun _ _ => ⟨rfl, rfl, (by decide : 0 + 0 ≤ _), (by decide : 0 + 0 ≤ _)⟩)
  dsimp only [Pt.U, Pt.locs, Pt.cells, Pt.slots] at X6 l6 y6 z6 st6 hQ6
  subst l6 y6 z6
  obtain ⟨rfl, N6q, E6q⟩ := hQ6
  have K6q : Keep T5.heap T6.heap [] := by rw [E6q]; exact Keep.refl _ _
  have Z6 : n0 ≤ T6.heap.size := Nat.le_trans Z5 K6q.1
  have N6 := Fr.app N5 N6q
  obtain ⟨fs, hr, hrun, hended, hW, hsame⟩ := X6.leave (v := some (.int (p3 - p2))) (fun h => by rw [Bd.returns] at h; cases h)
  refine ⟨_, _, pre0 _ ?_, hrun, hended, _, _, rfl, ?_, ⟨_, rfl⟩, hW, hsame.mono (by decide) (by decide)⟩
  · show Steps p.tables e below (s₁.setTop (mkF m 0 #[.val (.ref a1), .val (.int p2), .val (.int p3)] [])) _
    refine XS.iloadN X0.here hx rfl (hb hby d15_0) rfl ?_
    show Steps p.tables e below (s₁.setTop (mkF m 1 #[.val (.ref a1), .val (.int p2), .val (.int p3)] [(.int p2)])) _
    refine XS.iloadN X0.here hx rfl (hb hby d15_1) rfl ?_
    show Steps p.tables e below (s₁.setTop (mkF m 2 #[.val (.ref a1), .val (.int p2), .val (.int p3)] [(.int p3), (.int p2)])) _
    refine XS.aloadN X0.here hx rfl (hb hby d15_2) rfl rfl ?_
    show Steps p.tables e below (s₁.setTop (mkF m 3 #[.val (.ref a1), .val (.int p2), .val (.int p3)] [(.ref a1), (.int p3), (.int p2)])) _
    refine st4.trans ?_
    show Steps p.tables e below (T4.setTop (mkF m 6 #[.val (.ref a1), .val (.int p2), .val (.int p3)] [(.int (Int32.ofNat cs.length)), (.int p3), (.int p2)])) _
    refine st5 _ ?_
    show Steps p.tables e below (T5.setTop (mkF m 9 #[.val (.ref a1), .val (.int p2), .val (.int p3)] [(.int p2)])) _
    refine XS.pop X5.here hx rfl (hb hby d15_9) rfl rfl ?_
    show Steps p.tables e below (T5.setTop (mkF m 10 #[.val (.ref a1), .val (.int p2), .val (.int p3)] [])) _
    refine XS.aloadN X5.here hx rfl (hb hby d15_10) rfl rfl ?_
    show Steps p.tables e below (T5.setTop (mkF m 11 #[.val (.ref a1), .val (.int p2), .val (.int p3)] [(.ref a1)])) _
    refine st6.trans ?_
    show Steps p.tables e below (T6.setTop (mkF m 14 #[.val (.ref a1), .val (.int p2), .val (.int p3)] [(.int (1 : Int32))])) _
    refine XS.ifNo X6.here hx rfl (hb hby d15_14) rfl ((if0 _ _).trans (feq ((by decide) : ¬ ((1 : Int32) = (0 : Int32)))).1) ?_
    show Steps p.tables e below (T6.setTop (mkF m 17 #[.val (.ref a1), .val (.int p2), .val (.int p3)] [])) _
    refine XS.iloadN X6.here hx rfl (hb hby d15_17) rfl ?_
    show Steps p.tables e below (T6.setTop (mkF m 18 #[.val (.ref a1), .val (.int p2), .val (.int p3)] [(.int p3)])) _
    refine XS.iloadN X6.here hx rfl (hb hby d15_18) rfl ?_
    show Steps p.tables e below (T6.setTop (mkF m 19 #[.val (.ref a1), .val (.int p2), .val (.int p3)] [(.int p2), (.int p3)])) _
    refine XS.isub X6.here hx rfl (hb hby d15_19) rfl ?_
    show Steps p.tables e below (T6.setTop (mkF m 20 #[.val (.ref a1), .val (.int p2), .val (.int p3)] [(.int (p3 - p2))])) _
    exact retI X6 hx Bd.returns (hb hby d15_20) hr      -- retI stands in the head ('lawwalk <made dir>' prints it)
  · show Q15 Z a1 p2 p3 h0 n0 _ T6.heap _
    exact ⟨rfl, N6, E6q.trans (E5q.trans E4q)⟩
theorem d20_0 : decode jdk_42_method_57_code 0 = .ok (.aload_n 0, 1) := by decide +kernel
theorem d20_1 : decode jdk_42_method_57_code 1 = .ok (.invokevirtual 492, 3) := by decide +kernel
theorem d20_4 : decode jdk_42_method_57_code 4 = .ok (.ifCond .eq 23, 3) := by decide +kernel
theorem d20_7 : decode jdk_42_method_57_code 7 = .ok (.iload_n 1, 1) := by decide +kernel
theorem d20_8 : decode jdk_42_method_57_code 8 = .ok (.aload_n 0, 1) := by decide +kernel
theorem d20_9 : decode jdk_42_method_57_code 9 = .ok (.getfield 9, 3) := by decide +kernel
theorem d20_12 : decode jdk_42_method_57_code 12 = .ok (.arraylength, 1) := by decide +kernel
theorem d20_13 : decode jdk_42_method_57_code 13 = .ok (.invokestatic 499, 3) := by decide +kernel
theorem d20_16 : decode jdk_42_method_57_code 16 = .ok (.aload_n 0, 1) := by decide +kernel
theorem d20_17 : decode jdk_42_method_57_code 17 = .ok (.getfield 9, 3) := by decide +kernel
theorem d20_20 : decode jdk_42_method_57_code 20 = .ok (.iload_n 1, 1) := by decide +kernel
theorem d20_21 : decode jdk_42_method_57_code 21 = .ok (.baload, 1) := by decide +kernel
theorem d20_22 : decode jdk_42_method_57_code 22 = .ok (.sipush 255, 3) := by decide +kernel
theorem d20_25 : decode jdk_42_method_57_code 25 = .ok (.iand, 1) := by decide +kernel
theorem d20_26 : decode jdk_42_method_57_code 26 = .ok (.ireturn, 1) := by decide +kernel
theorem pn_20 : plainName "java/lang/String" = true := by first | (simp [plainName, overriddenIn]; done) | decide +kernel
theorem pd_20_16 : parseMethodDescriptor "()Z" = some ⟨[], some .boolean⟩ := by decide +kernel
theorem pd_20_19 : parseMethodDescriptor "(II)V" = some ⟨[.int, .int], none⟩ := by decide +kernel
theorem ef_20 (m : MethodId) (x0 : Addr) (x1 : Int32) : entryFrame m #[(.ref x0), (.int x1)] 3 = mkF m 0 #[.val (.ref x0), .val (.int x1), .unset] [] := by first | (simp [entryFrame, mkF, argsToLocals, Value.category]; done) | rfl
def Q20x (Z : State) (a1 : Addr) (p2 : Int32) (w4 : Addr) (cl_w4 : Cell) (z_w4 : Int32) (w9 : Int32) (h0 : Heap) (n0 : Nat) (v : Option Value) (h : Heap) (L : List Loc) : Prop := v = some (.int (w9 &&& (255 : Int32))) ∧ Fr n0 L ∧ h = h0
set_option maxRecDepth 65536 in
set_option maxHeartbeats 40000000 in
theorem rm20x (l : Launch) (Z : State) (a0 : Array Value) (hw : ∀ d ∈ tables_1, d.before a0 Z = true) (ws : List Jvm.Cond) (a1 : Addr) (p2 : Int32) (w4 : Addr) (cl_w4 : Cell) (z_w4 : Int32) (w9 : Int32) (h0 : Heap) (n0 : Nat) (Z0 : n0 ≤ h0.size) (E_a1 : Exa Z h0 a1 "java/lang/String") (F_value_a1 : Fld Z h0 a1 "java/lang/String" "value" "[B" (.ref w4)) (Ar_w4 : Arr Z h0 w4 cl_w4 .byte) (S_w4 : cl_w4.slots.size = z_w4.toNatClampNeg) (N_w4 : ¬ z_w4 < 0) (hin21 : ¬ (p2 < 0 ∨ cl_w4.slots.size ≤ (p2).toNatClampNeg)) (hat21 : cl_w4.slots[(p2).toNatClampNeg]? = some (.int w9)) (zc : Int32) (wf : Value) (C_a1 : Fld Z h0 a1 "java/lang/String" "coder" "B" (.int 0)) (S_C : Sta Z Z.heap "java/lang/String" "COMPACT_STRINGS" "Z" (.int zc)) (hzc : ¬ zc = 0) (X00 : Old Z n0 h0) (S_F : Sta Z Z.heap "jdk/internal/util/Preconditions" "SIOOBE_FORMATTER" "Ljava/util/function/BiFunction;" wf) (hwf : wf.isRef = true) (g1 : ¬ (p2 < (0 : Int32))) (g2 : p2 < z_w4) :
    MetFree l (⟨"java/lang/String", "codePointAt", "(I)I"⟩ : MethodName) (head1 (Jvm.Cond.code (⟨"java/lang/String", "codePointAt", "(I)I"⟩ : MethodName) jdk_42_method_57_code 3 (some .int) :: ws) ({ frames := 2, cells := 0, slots := 0, locals := 27 } : Room)) (fun a U => a = #[(.ref a1), (.int p2)] ∧ Z.Warmed39 U.vm ∧ U.heap = h0) (fun _ _ _ _ _ => True) (fun _ U o U' => ∃ v L, o = .returned v ∧ Q20x Z a1 p2 w4 cl_w4 z_w4 w9 h0 n0 v U'.heap L ∧ FrameEnd U o U' L ({ frames := 2, cells := 0, slots := 0, locals := 27 } : Room).cells ({ frames := 2, cells := 0, slots := 0, locals := 27 } : Room).slots) := by
  refine MetFree.of_bodySF (plainFor_of_name pn_20) hisR ?_
  intro p e s m args below meth c s₁ Bd hml0 hP hK
  obtain ⟨rfl, hZ, hh⟩ := hP
  have hx := Bd.exec
  have hby := Bd.bytes
  have hml : c.maxLocals = 3 := hml0
  have hown : s.vm.findClass "java/lang/String" = some m.cls := findClass_of_methodNamed Bd.named
  have hnm := (name_of_methodNamed Bd.named Bd.method).1
  have X0 : Stand p l e ({ frames := 2, cells := 0, slots := 0, locals := 27 } : Room) s m #[(.ref a1), (.int p2)] below meth c s₁ [] 0 0 := Stand.of_body Bd
  have e0 : s₁.heap = h0 := by rw [← hh, Bd.state]; rfl
  have N0 := Fr.nil n0
  have pre0 : ∀ t, Steps p.tables e below (s₁.setTop (mkF m 0 #[.val (.ref a1), .val (.int p2), .unset] [])) t → Steps p.tables e below (s₁.setTop (entryFrame m #[(.ref a1), (.int p2)] 3)) t := fun t k => castTop (ef_20 m a1 p2) k
  obtain ⟨cq3, kq3, q3a, q3b, q3c⟩ := isOf hZ e0 E_a1
  obtain ⟨_, _, ⟨T3, L3, k3, n3⟩, -, X3, ⟨Lc3, hQ3, l3, y3, z3⟩, st3⟩ := X0.virtualBack hx (y := (⟨"java/lang/String", "isLatin1", "()Z"⟩ : MethodName)) (z := (⟨"java/lang/String", "isLatin1", "()Z"⟩ : MethodName)) hown (mvT hZ (hw _ (List.mem_of_getElem? (i := 81) rfl))) (mvT hZ (hw _ (List.mem_of_getElem? (i := 82) rfl))) (notFace_of_selects (args := #[]) (mvT hZ (hw _ (List.mem_of_getElem? (i := 84) rfl)))) (mvT hZ (hw _ (List.mem_of_getElem? (i := 84) rfl))) (mvT hZ (hw _ (List.mem_of_getElem? (i := 83) rfl))) (by decide) (backOf (W := 0) (rm18 l Z a0 hw [] a1 zc 0 h0 n0 Z0 (S_C.ext X00.2) C_a1 hzc rfl) hZ (hw _ (List.mem_of_getElem? (i := 85) rfl)) (hw _ (List.mem_of_getElem? (i := 14) rfl)) (by decide) (by decide)) q3a q3c (g := (mkF m 1 #[.val (.ref a1), .val (.int p2), .unset] [(.ref a1)])) rfl (by rw [hml]; rfl) (Steps.refl _) (argsL := []) (rest := []) (lenOf pd_20_16 rfl) rfl (by show 2 * 0 + _ ≤ _; exact Nat.le_of_eq rfl) (hb hby d20_1) (fun _ _ => ⟨rfl, e0, (by decide : 0 + 0 ≤ _), (by decide : 0 + 0 ≤ _)⟩)
  dsimp only [Pt.U, Pt.locs, Pt.cells, Pt.slots] at X3 l3 y3 z3 st3 hQ3
  subst l3 y3 z3
  obtain ⟨rfl, N3q, E3q⟩ := hQ3
  have K3q : Keep h0 T3.heap [] := by rw [E3q]; exact Keep.refl _ _
  have Z3 : n0 ≤ T3.heap.size := Nat.le_trans Z0 K3q.1
  have N3 := Fr.app N0 N3q
  have ArB : Arr Z T3.heap w4 cl_w4 .byte := by rw [E3q]; exact Ar_w4
  obtain ⟨T5, X5, e5, st5⟩ := getF X3 hx hZ hown (host := "") (Or.inl (hw _ (List.mem_of_getElem? (i := 45) rfl))) Via.refl rfl (F_value_a1.keep K3q nin0) (g := (mkF m 9 #[.val (.ref a1), .val (.int p2), .unset] [(.ref a1), (.int p2)])) rfl rfl (hb hby d20_9)
  have CE2_a1 := (E_a1.keep K3q)
  obtain ⟨_, _, ⟨T6, L6, k6, n6⟩, -, X6, ⟨Lc6, hQ6, l6, y6, z6⟩, st6⟩ := Jvm.LawKit.callS X5 hx (y := (⟨"java/lang/String", "checkIndex", "(II)V"⟩ : MethodName)) hown (mvT hZ (hw _ (List.mem_of_getElem? (i := 97) rfl))) (mvT hZ (hw _ (List.mem_of_getElem? (i := 98) rfl))) (mvT hZ (hw _ (List.mem_of_getElem? (i := 14) rfl))) (mvT hZ (hw _ (List.mem_of_getElem? (i := 99) rfl))) (by decide) (backOf (W := 0) (rm21 l Z a0 hw [] p2 z_w4 wf T3.heap n0 Z3 (S_F.ext (X00.keep K3q all0).2) hwf g1 g2) hZ (hw _ (List.mem_of_getElem? (i := 99) rfl)) (hw _ (List.mem_of_getElem? (i := 14) rfl)) (by decide) (by decide)) (g := (mkF m 13 #[.val (.ref a1), .val (.int p2), .unset] [(.int z_w4), (.int p2)])) rfl (by rw [hml]; rfl) (argsL := [(.int p2), (.int z_w4)]) (rest := []) (lenOf pd_20_19 rfl) rfl (by show 2 * 0 + _ ≤ _; exact Nat.le_of_eq rfl) (hb hby d20_13) (fun _ _ => ⟨rfl, e5, (by decide : 0 + 0 ≤ _), (by decide : 0 + 0 ≤ _)⟩)
  dsimp only [Pt.U, Pt.locs, Pt.cells, Pt.slots] at X6 l6 y6 z6 st6 hQ6
  subst l6 y6 z6
  obtain ⟨rfl, N6q, E6q⟩ := hQ6
  have K6q : Keep T3.heap T6.heap [] := by rw [E6q]; exact Keep.refl _ _
  have Z6 : n0 ≤ T6.heap.size := Nat.le_trans Z3 K6q.1
  have N6 := Fr.app N3 N6q
  have ArC : Arr Z T6.heap w4 cl_w4 .byte := by rw [E6q]; exact ArB
  obtain ⟨T8, X8, e8, st8⟩ := getF X6 hx hZ hown (host := "") (Or.inl (hw _ (List.mem_of_getElem? (i := 45) rfl))) Via.refl rfl ((F_value_a1.keep K3q nin0).keep K6q nin0) (g := (mkF m 17 #[.val (.ref a1), .val (.int p2), .unset] [(.ref a1)])) rfl rfl (hb hby d20_17)
  obtain ⟨fs, hr, hrun, hended, hW, hsame⟩ := X8.leave (v := some (.int (w9 &&& (255 : Int32)))) (fun h => by rw [Bd.returns] at h; cases h)
  refine ⟨_, _, pre0 _ ?_, hrun, hended, _, _, rfl, ?_, ⟨_, rfl⟩, hW, hsame.mono (by decide) (by decide)⟩
  · show Steps p.tables e below (s₁.setTop (mkF m 0 #[.val (.ref a1), .val (.int p2), .unset] [])) _
    refine XS.aloadN X0.here hx rfl (hb hby d20_0) rfl rfl ?_
    show Steps p.tables e below (s₁.setTop (mkF m 1 #[.val (.ref a1), .val (.int p2), .unset] [(.ref a1)])) _
    refine st3.trans ?_
    show Steps p.tables e below (T3.setTop (mkF m 4 #[.val (.ref a1), .val (.int p2), .unset] [(.int (1 : Int32))])) _
    refine XS.ifNo X3.here hx rfl (hb hby d20_4) rfl ((if0 _ _).trans (feq ((by decide) : ¬ ((1 : Int32) = (0 : Int32)))).1) ?_
    show Steps p.tables e below (T3.setTop (mkF m 7 #[.val (.ref a1), .val (.int p2), .unset] [])) _
    refine XS.iloadN X3.here hx rfl (hb hby d20_7) rfl ?_
    show Steps p.tables e below (T3.setTop (mkF m 8 #[.val (.ref a1), .val (.int p2), .unset] [(.int p2)])) _
    refine XS.aloadN X3.here hx rfl (hb hby d20_8) rfl rfl ?_
    show Steps p.tables e below (T3.setTop (mkF m 9 #[.val (.ref a1), .val (.int p2), .unset] [(.ref a1), (.int p2)])) _
    refine st5 _ ?_
    show Steps p.tables e below (T5.setTop (mkF m 12 #[.val (.ref a1), .val (.int p2), .unset] [(.ref w4), (.int p2)])) _
    refine X5.arraylength hx (by rw [e5]; exact ArB.1) (State.isArrayOf_alike hZ.alike ArB.2.1) (g := (mkF m 12 #[.val (.ref a1), .val (.int p2), .unset] [(.ref w4), (.int p2)])) rfl rfl (hb hby d20_12) _ ?_
    rw [len_of S_w4 N_w4]
    show Steps p.tables e below (T5.setTop (mkF m 13 #[.val (.ref a1), .val (.int p2), .unset] [(.int z_w4), (.int p2)])) _
    refine st6 _ ?_
    show Steps p.tables e below (T6.setTop (mkF m 16 #[.val (.ref a1), .val (.int p2), .unset] [])) _
    refine XS.aloadN X6.here hx rfl (hb hby d20_16) rfl rfl ?_
    show Steps p.tables e below (T6.setTop (mkF m 17 #[.val (.ref a1), .val (.int p2), .unset] [(.ref a1)])) _
    refine st8 _ ?_
    show Steps p.tables e below (T8.setTop (mkF m 20 #[.val (.ref a1), .val (.int p2), .unset] [(.ref w4)])) _
    refine XS.iloadN X8.here hx rfl (hb hby d20_20) rfl ?_
    show Steps p.tables e below (T8.setTop (mkF m 21 #[.val (.ref a1), .val (.int p2), .unset] [(.int p2), (.ref w4)])) _
    refine X8.baloadBytes hx (j := p2) (v := (.int w9)) (by rw [e8]; exact ArC.1) (State.isArrayOf_alike hZ.alike ArC.2.1) ArC.2.2 hin21 hat21 (g := (mkF m 21 #[.val (.ref a1), .val (.int p2), .unset] [(.int p2), (.ref w4)])) rfl rfl (hb hby d20_21) _ ?_
    show Steps p.tables e below (T8.setTop (mkF m 22 #[.val (.ref a1), .val (.int p2), .unset] [(.int w9)])) _
    refine XS.sipush X8.here hx rfl (hb hby d20_22) ?_
    show Steps p.tables e below (T8.setTop (mkF m 25 #[.val (.ref a1), .val (.int p2), .unset] [(.int (255 : Int32)), (.int w9)])) _
    refine XS.iand X8.here hx rfl (hb hby d20_25) rfl ?_
    show Steps p.tables e below (T8.setTop (mkF m 26 #[.val (.ref a1), .val (.int p2), .unset] [(.int (w9 &&& (255 : Int32)))])) _
    exact retI X8 hx Bd.returns (hb hby d20_26) hr      -- retI stands in the head ('lawwalk <made dir>' prints it)
  · show Q20x Z a1 p2 w4 cl_w4 z_w4 w9 h0 n0 _ T8.heap _
    rw [e8]
    exact ⟨rfl, N6, E6q.trans E3q⟩
def Q20 (cs : List Int32) (i : Nat) (h0 : Heap) (n0 : Nat) (v : Option Value) (h : Heap) (L : List Loc) : Prop := v = some (.int (cs.getD i 0)) ∧ Fr n0 L ∧ h = h0
theorem own_getD_ok {cs : List Int32} {i : Nat} (hok : ∀ c ∈ cs, own_ok c) (hi : i < cs.length) : own_ok (cs.getD i 0) := by
  rw [List.getD_eq_getElem?_getD, List.getElem?_eq_getElem hi]
  exact hok _ (List.getElem_mem hi)
theorem rm20 (l : Launch) (Z : State) (a0 : Array Value) (hw : ∀ d ∈ tables_1, d.before a0 Z = true) (ws : List Jvm.Cond) (a1 : Addr) (p2 : Int32) (cs : List Int32) (zc : Int32) (wf : Value) (i : Nat) (h0 : Heap) (n0 : Nat) (Z0 : n0 ≤ h0.size) (St : own_Str Z h0 a1 cs) (S_C : Sta Z Z.heap "java/lang/String" "COMPACT_STRINGS" "Z" (.int zc)) (hzc : ¬ zc = 0) (X00 : Old Z n0 h0) (S_F : Sta Z Z.heap "jdk/internal/util/Preconditions" "SIOOBE_FORMATTER" "Ljava/util/function/BiFunction;" wf) (hwf : wf.isRef = true) (hok : ∀ c ∈ cs, own_ok c) (h3 : cs.length ≤ 3) (hi : i < cs.length) (hp2 : p2 = Int32.ofNat i) : MetFree l (⟨"java/lang/String", "codePointAt", "(I)I"⟩ : MethodName) (head1 (Jvm.Cond.code (⟨"java/lang/String", "codePointAt", "(I)I"⟩ : MethodName) jdk_42_method_57_code 3 (some .int) :: ws) ({ frames := 2, cells := 0, slots := 0, locals := 27 } : Room)) (fun a U => a = #[(.ref a1), (.int p2)] ∧ Z.Warmed39 U.vm ∧ U.heap = h0) (fun _ _ _ _ _ => True) (fun _ U o U' => ∃ v L, o = .returned v ∧ Q20 cs i h0 n0 v U'.heap L ∧ FrameEnd U o U' L ({ frames := 2, cells := 0, slots := 0, locals := 27 } : Room).cells ({ frames := 2, cells := 0, slots := 0, locals := 27 } : Room).slots) := by
  obtain ⟨t, kb, N2, vs, E, V, C, K, hc, hb, l4⟩ := id St
  obtain ⟨cl, A, q1, S, N, H, G⟩ := K
  obtain ⟨z1, z2, z3⟩ := own_n3 (n := i) (by omega)
  obtain ⟨y1, y2, y3⟩ := own_n3 (n := cs.length) h3
  rcases hc with ⟨-, rfl, rfl, hn⟩ | ⟨e, -⟩
  · have hok1 := own_getD_ok hok hi
    have hsz : cl.slots.size = cs.length := by rw [S, y2]
    have hg : (cs.map fun c => Value.int (StrChars.lo8 c)).getD i (.int 0) = .int (StrChars.lo8 (cs.getD i 0)) := by
      rw [List.getD_eq_getElem?_getD, List.getD_eq_getElem?_getD, List.getElem?_map, List.getElem?_eq_getElem hi]; rfl
    have hat : cl.slots[p2.toNatClampNeg]? = some (.int (StrChars.lo8 (cs.getD i 0))) := by
      rw [hp2, z2, H i (by rw [hsz]; exact hi), hg]
    refine (rm20x l Z a0 hw ws a1 p2 t cl (Int32.ofNat cs.length) (StrChars.lo8 (cs.getD i 0)) h0 n0 Z0 E V A S N (by rw [hp2, z2, hsz]; exact fun z => z.elim z1 (fun z => by omega)) hat zc wf C S_C hzc X00 S_F hwf (by rw [hp2]; exact z1) (by rw [hp2, Int32.lt_iff_toInt_lt, z3, y3]; omega)).mono (fun _ _ h => h) (fun _ _ _ _ _ h => h) (fun _ _ _ _ _ h => ?_)
    obtain ⟨v, L, r1, ⟨r2, r3, r4⟩, r5⟩ := h
    exact ⟨v, L, r1, ⟨r2.trans (congrArg (fun z => some (Value.int z)) (own_lo (own_ok_b hok1))), r3, r4⟩, r5⟩
  · exact absurd e (by decide)
theorem own_k1 {c : Int32} (h : own_ok c) : ¬ c < (32 : Int32) := by
  rw [Int32.lt_iff_toInt_lt, show (32 : Int32).toInt = 32 by decide]; have := h.1; omega
theorem own_k2 {c : Int32} (h : own_ok c) : ¬ c = (127 : Int32) := fun e => by
  have := h.2; rw [e] at this; exact absurd this (by decide)
theorem own_k3 {c : Int32} (h : own_ok c) : c < (55296 : Int32) := by
  rw [Int32.lt_iff_toInt_lt, show (55296 : Int32).toInt = 55296 by decide]; have := h.2; omega
theorem own_k4 {c : Int32} (h : own_ok c) : c < (65536 : Int32) := by
  rw [Int32.lt_iff_toInt_lt, show (65536 : Int32).toInt = 65536 by decide]; have := h.2; omega
theorem own_lt3 {i n : Nat} (h : i < n) (hn : n ≤ 3) : Int32.ofNat i < Int32.ofNat n := by
  rw [Int32.lt_iff_toInt_lt, (own_n3 (n := i) (by omega)).2.2, (own_n3 hn).2.2]; omega
theorem d11_0 : decode prog_5_method_8_code 0 = .ok (.aload_n 1, 1) := by decide +kernel
theorem d11_1 : decode prog_5_method_8_code 1 = .ok (.aload_n 0, 1) := by decide +kernel
theorem d11_2 : decode prog_5_method_8_code 2 = .ok (.invokestatic 42, 3) := by decide +kernel
theorem d11_5 : decode prog_5_method_8_code 5 = .ok (.pop, 1) := by decide +kernel
theorem d11_6 : decode prog_5_method_8_code 6 = .ok (.aload_n 1, 1) := by decide +kernel
theorem d11_7 : decode prog_5_method_8_code 7 = .ok (.iconst 0, 1) := by decide +kernel
theorem d11_8 : decode prog_5_method_8_code 8 = .ok (.aload_n 1, 1) := by decide +kernel
theorem d11_9 : decode prog_5_method_8_code 9 = .ok (.invokevirtual 46, 3) := by decide +kernel
theorem d11_12 : decode prog_5_method_8_code 12 = .ok (.invokevirtual 50, 3) := by decide +kernel
theorem d11_15 : decode prog_5_method_8_code 15 = .ok (.istore 4, 2) := by decide +kernel
theorem d11_17 : decode prog_5_method_8_code 17 = .ok (.iload 4, 2) := by decide +kernel
theorem d11_19 : decode prog_5_method_8_code 19 = .ok (.iload_n 2, 1) := by decide +kernel
theorem d11_20 : decode prog_5_method_8_code 20 = .ok (.if_icmp .lt 9, 3) := by decide +kernel
theorem d11_23 : decode prog_5_method_8_code 23 = .ok (.iload 4, 2) := by decide +kernel
theorem d11_25 : decode prog_5_method_8_code 25 = .ok (.iload_n 3, 1) := by decide +kernel
theorem d11_26 : decode prog_5_method_8_code 26 = .ok (.if_icmp .le 21, 3) := by decide +kernel
theorem d11_47 : decode prog_5_method_8_code 47 = .ok (.iconst 0, 1) := by decide +kernel
theorem d11_48 : decode prog_5_method_8_code 48 = .ok (.istore 5, 2) := by decide +kernel
theorem pd_11_11 : parseMethodDescriptor "(Ljava/lang/Object;Ljava/lang/String;)Ljava/lang/Object;" = some ⟨[(.object "java/lang/Object"), (.object "java/lang/String")], some (.object "java/lang/Object")⟩ := by decide +kernel
theorem pd_11_12 : parseMethodDescriptor "()I" = some ⟨[], some .int⟩ := by decide +kernel
theorem pd_11_1 : parseMethodDescriptor "(II)I" = some ⟨[.int, .int], some .int⟩ := by decide +kernel
theorem os11_15 {z0 : Value} {z1 : Value} {z2 : Value} {z3 : Value} {s4 : Slot} {s5 : Slot} {s6 : Slot} {v : Int32} (h : One s4) : storeLocals #[.val z0, .val z1, .val z2, .val z3, s4, s5, s6] 4 (.int v) = some #[.val z0, .val z1, .val z2, .val z3, .val (.int v), s5, s6] := by
  rcases h with rfl | ⟨w, rfl, hw⟩
  · rfl
  · cases w <;> first | rfl | (simp [Value.category] at hw)
theorem os11_48 {z0 : Value} {z1 : Value} {z2 : Value} {z3 : Value} {z4 : Value} {s5 : Slot} {s6 : Slot} {v : Int32} (h : One s5) : storeLocals #[.val z0, .val z1, .val z2, .val z3, .val z4, s5, s6] 5 (.int v) = some #[.val z0, .val z1, .val z2, .val z3, .val z4, .val (.int v), s6] := by
  rcases h with rfl | ⟨w, rfl, hw⟩
  · rfl
  · cases w <;> first | rfl | (simp [Value.category] at hw)
set_option maxRecDepth 65536 in
set_option maxHeartbeats 40000000 in
theorem pc0 {p : Program} {l : Launch} {e : Env} {s : State} {m : MethodId} {args : Array Value} {below : List Frame} {meth : Method} {c : Code} {T0 : State} {locs : List Loc} {Z : State} {a0 : Array Value} {h0 : Heap} (o0 : Addr) (o1 : Addr) (i2 : Int32) (i3 : Int32) (s4 : Slot) (s5 : Slot) (s6 : Slot) (cs : List Int32) (zc : Int32) (wf : Value) (n0 : Nat)
    (X0 : Stand p l e ({ frames := 4, cells := 0, slots := 0, locals := 54 } : Room) s m args below meth c T0 locs 0 0) (hx : p.tables.exec = Jvm.exec) (hZ : Z.Warmed39 s.vm) (hw : ∀ d ∈ tables_1, d.before a0 Z = true) (hby : c.code = prog_5_method_8_code) (hml : c.maxLocals = 7) (hown : s.vm.findClass "com/example/nto1/nto1/Identity" = some m.cls) (e0 : T0.heap = h0) (Z0 : n0 ≤ h0.size) (N0 : Fr n0 locs) (St : own_Str Z h0 o1 cs) (S_C : Sta Z Z.heap "java/lang/String" "COMPACT_STRINGS" "Z" (.int zc)) (hzc : ¬ zc = 0) (X00 : Old Z n0 h0) (S_F : Sta Z Z.heap "jdk/internal/util/Preconditions" "SIOOBE_FORMATTER" "Ljava/util/function/BiFunction;" wf) (hwf : wf.isRef = true) (hok : ∀ c ∈ cs, own_ok c) (h3 : cs.length ≤ 3) (g1 : ¬ (Int32.ofNat cs.length < i2)) (g2 : ¬ (i3 < Int32.ofNat cs.length)) (hs4 : One s4) (hs5 : One s5) :
    ∃ (T' : State) (locs' : List Loc), Stand p l e ({ frames := 4, cells := 0, slots := 0, locals := 54 } : Room) s m args below meth c T' locs' 0 0 ∧ T'.heap = h0 ∧ Fr n0 locs' ∧
      ∀ target, Steps p.tables e below (T'.setTop (mkF m 50 #[.val (.ref o0), .val (.ref o1), .val (.int i2), .val (.int i3), .val (.int (Int32.ofNat cs.length - (0 : Int32))), .val (.int (0 : Int32)), s6] [])) target → Steps p.tables e below (T0.setTop (mkF m 0 #[.val (.ref o0), .val (.ref o1), .val (.int i2), .val (.int i3), s4, s5, s6] [])) target := by
  obtain ⟨y1, y2, y3⟩ := own_n3 (n := cs.length) h3
  have own_g2 : ¬ (Int32.ofNat cs.length < (0 : Int32)) := y1
  have own_g3 : ¬ (Int32.ofNat cs.length < Int32.ofNat cs.length) := by rw [Int32.lt_iff_toInt_lt]; omega
  have own_s0 : Int32.ofNat cs.length - (0 : Int32) = Int32.ofNat cs.length := Int32.sub_zero _
  have hlen : ∀ d ∈ StrChars.Road.wordsLen, d.before a0 Z = true := fun d hd => hw d ((by decide +kernel : ∀ d ∈ StrChars.Road.wordsLen, d ∈ tables_1) d hd)
  obtain ⟨t_o1, kb_o1, n_o1, vs_o1, E_o1, V_o1, C_o1, K_o1, hc_o1, hb_o1, l_o1⟩ := id St
  obtain ⟨_, _, ⟨T5, L5, k5, n5⟩, -, X5, ⟨Lc5, hQ5, l5, y5, z5⟩, st5⟩ := Jvm.LawKit.callS X0 hx (y := (⟨"java/util/Objects", "requireNonNull", "(Ljava/lang/Object;Ljava/lang/String;)Ljava/lang/Object;"⟩ : MethodName)) hown (mvT hZ (hw _ (List.mem_of_getElem? (i := 54) rfl))) (mvT hZ (hw _ (List.mem_of_getElem? (i := 55) rfl))) (mvT hZ (hw _ (List.mem_of_getElem? (i := 56) rfl))) (mvT hZ (hw _ (List.mem_of_getElem? (i := 57) rfl))) (by decide) (backOf (W := 0) (rm12 l Z a0 hw [] o1 o0 h0 n0 Z0) hZ (hw _ (List.mem_of_getElem? (i := 57) rfl)) (hw _ (List.mem_of_getElem? (i := 56) rfl)) (by decide) (by decide)) (g := (mkF m 2 #[.val (.ref o0), .val (.ref o1), .val (.int i2), .val (.int i3), s4, s5, s6] [(.ref o0), (.ref o1)])) rfl (by rw [hml]; rfl) (argsL := [(.ref o1), (.ref o0)]) (rest := []) (lenOf pd_11_11 rfl) rfl (by show 2 * 0 + _ ≤ _; exact Nat.le_of_eq rfl) (hb hby d11_2) (fun _ _ => ⟨rfl, e0, (by show 0 + 0 ≤ 0; decide), (by show 0 + 0 ≤ 0; decide)⟩)
  dsimp only [Pt.U, Pt.locs, Pt.cells, Pt.slots] at X5 l5 y5 z5 st5 hQ5
  subst l5 y5 z5
  obtain ⟨rfl, N5q, E5q⟩ := hQ5
  have K5q : Keep h0 T5.heap [] := by rw [E5q]; exact Keep.refl _ _
  have Z5 : n0 ≤ T5.heap.size := Nat.le_trans Z0 K5q.1
  have N5 := Fr.app N0 N5q
  obtain ⟨cq6, kq6, q6a, q6b, q6c⟩ := isOf hZ rfl (E_o1.keep K5q)
  obtain ⟨_, _, ⟨T6, L6, k6, n6⟩, -, X6, ⟨Lc6, hQ6, l6, y6, z6⟩, st6⟩ := X5.virtualBack hx (y := (⟨"java/lang/String", "length", "()I"⟩ : MethodName)) (z := (⟨"java/lang/String", "length", "()I"⟩ : MethodName)) hown (mvT hZ (hw _ (List.mem_of_getElem? (i := 58) rfl))) (mvT hZ (hw _ (List.mem_of_getElem? (i := 59) rfl))) (notFace_of_selects (args := #[]) (mvT hZ (hw _ (List.mem_of_getElem? (i := 61) rfl)))) (mvT hZ (hw _ (List.mem_of_getElem? (i := 61) rfl))) (mvT hZ (hw _ (List.mem_of_getElem? (i := 60) rfl))) (by decide) (StrChars.Road.lenW (W := 2) hZ hlen (kI := 4) (hw _ (List.mem_of_getElem? (i := 15) rfl)) (E_o1.keep K5q) (V_o1.keep K5q nin0) (C_o1.keep K5q nin0) (K_o1.keep K5q nin0) hc_o1 hb_o1 (S_C.ext (X00.keep K5q all0).2) hzc l_o1 (by decide) (by decide)) q6a q6c (g := (mkF m 9 #[.val (.ref o0), .val (.ref o1), .val (.int i2), .val (.int i3), s4, s5, s6] [(.ref o1), (.int (0 : Int32)), (.ref o1)])) rfl (by rw [hml]; rfl) (Steps.refl _) (argsL := []) (rest := [(.int (0 : Int32)), (.ref o1)]) (lenOf pd_11_12 rfl) rfl (by show 2 * 0 + _ ≤ _; exact Nat.le_of_eq rfl) (hb hby d11_9) (fun _ _ => ⟨rfl, rfl, (by show 0 + 0 ≤ 0; decide), (by show 0 + 0 ≤ 0; decide)⟩)
  dsimp only [Pt.U, Pt.locs, Pt.cells, Pt.slots] at X6 l6 y6 z6 st6 hQ6
  subst l6 y6 z6
  obtain ⟨rfl, rfl, E6q⟩ := hQ6
  have K6q : Keep T5.heap T6.heap [] := by rw [E6q]; exact Keep.refl _ _
  have N6q : Fr n0 ([] : List Loc) := Fr.nil n0
  have Z6 : n0 ≤ T6.heap.size := Nat.le_trans Z5 K6q.1
  have N6 := Fr.app N5 N6q
  have CE3_o1 := ((E_o1.keep K5q).keep K6q)
  obtain ⟨cq7, kq7, q7a, q7b, q7c⟩ := isOf hZ rfl ((E_o1.keep K5q).keep K6q)
  obtain ⟨_, _, ⟨T7, L7, k7, n7⟩, -, X7, ⟨Lc7, hQ7, l7, y7, z7⟩, st7⟩ := X6.virtualBack hx (y := (⟨"java/lang/String", "codePointCount", "(II)I"⟩ : MethodName)) (z := (⟨"java/lang/String", "codePointCount", "(II)I"⟩ : MethodName)) hown (mvT hZ (hw _ (List.mem_of_getElem? (i := 68) rfl))) (mvT hZ (hw _ (List.mem_of_getElem? (i := 69) rfl))) (notFace_of_selects (args := #[]) (mvT hZ (hw _ (List.mem_of_getElem? (i := 71) rfl)))) (mvT hZ (hw _ (List.mem_of_getElem? (i := 71) rfl))) (mvT hZ (hw _ (List.mem_of_getElem? (i := 70) rfl))) (by decide) (backOf (W := 0) (rm15 l Z a0 hw [] o1 (0 : Int32) (Int32.ofNat cs.length) T6.heap n0 Z6 cs zc (own_Str_keep (own_Str_keep St K5q) K6q) S_C hzc ((X00.keep K5q all0).keep K6q all0) (by decide) own_g2 own_g3) hZ (hw _ (List.mem_of_getElem? (i := 72) rfl)) (hw _ (List.mem_of_getElem? (i := 14) rfl)) (by decide) (by decide)) q7a q7c (g := (mkF m 12 #[.val (.ref o0), .val (.ref o1), .val (.int i2), .val (.int i3), s4, s5, s6] [(.int (Int32.ofNat cs.length)), (.int (0 : Int32)), (.ref o1)])) rfl (by rw [hml]; rfl) (Steps.refl _) (argsL := [(.int (0 : Int32)), (.int (Int32.ofNat cs.length))]) (rest := []) (lenOf pd_11_1 rfl) rfl (by show 2 * 0 + _ ≤ _; exact Nat.le_of_eq rfl) (hb hby d11_12) (fun _ _ => ⟨rfl, rfl, (by show 0 + 0 ≤ 0; decide), (by show 0 + 0 ≤ 0; decide)⟩)
  dsimp only [Pt.U, Pt.locs, Pt.cells, Pt.slots] at X7 l7 y7 z7 st7 hQ7
  subst l7 y7 z7
  obtain ⟨rfl, N7q, E7q⟩ := hQ7
  have K7q : Keep T6.heap T7.heap [] := by rw [E7q]; exact Keep.refl _ _
  have Z7 : n0 ≤ T7.heap.size := Nat.le_trans Z6 K7q.1
  have N7 := Fr.app N6 N7q
  refine ⟨T7, _, X7, E7q.trans (E6q.trans E5q), N7, fun target kt => ?_⟩
  show Steps p.tables e below (T0.setTop (mkF m 0 #[.val (.ref o0), .val (.ref o1), .val (.int i2), .val (.int i3), s4, s5, s6] [])) _
  refine XS.aloadN X0.here hx rfl (hb hby d11_0) rfl rfl ?_
  show Steps p.tables e below (T0.setTop (mkF m 1 #[.val (.ref o0), .val (.ref o1), .val (.int i2), .val (.int i3), s4, s5, s6] [(.ref o1)])) _
  refine XS.aloadN X0.here hx rfl (hb hby d11_1) rfl rfl ?_
  show Steps p.tables e below (T0.setTop (mkF m 2 #[.val (.ref o0), .val (.ref o1), .val (.int i2), .val (.int i3), s4, s5, s6] [(.ref o0), (.ref o1)])) _
  refine st5 _ ?_
  show Steps p.tables e below (T5.setTop (mkF m 5 #[.val (.ref o0), .val (.ref o1), .val (.int i2), .val (.int i3), s4, s5, s6] [(.ref o1)])) _
  refine XS.pop X5.here hx rfl (hb hby d11_5) rfl rfl ?_
  show Steps p.tables e below (T5.setTop (mkF m 6 #[.val (.ref o0), .val (.ref o1), .val (.int i2), .val (.int i3), s4, s5, s6] [])) _
  refine XS.aloadN X5.here hx rfl (hb hby d11_6) rfl rfl ?_
  show Steps p.tables e below (T5.setTop (mkF m 7 #[.val (.ref o0), .val (.ref o1), .val (.int i2), .val (.int i3), s4, s5, s6] [(.ref o1)])) _
  refine XS.iconst X5.here hx rfl (hb hby d11_7) ?_
  show Steps p.tables e below (T5.setTop (mkF m 8 #[.val (.ref o0), .val (.ref o1), .val (.int i2), .val (.int i3), s4, s5, s6] [(.int (0 : Int32)), (.ref o1)])) _
  refine XS.aloadN X5.here hx rfl (hb hby d11_8) rfl rfl ?_
  show Steps p.tables e below (T5.setTop (mkF m 9 #[.val (.ref o0), .val (.ref o1), .val (.int i2), .val (.int i3), s4, s5, s6] [(.ref o1), (.int (0 : Int32)), (.ref o1)])) _
  refine st6.trans ?_
  show Steps p.tables e below (T6.setTop (mkF m 12 #[.val (.ref o0), .val (.ref o1), .val (.int i2), .val (.int i3), s4, s5, s6] [(.int (Int32.ofNat cs.length)), (.int (0 : Int32)), (.ref o1)])) _
  refine st7.trans ?_
  show Steps p.tables e below (T7.setTop (mkF m 15 #[.val (.ref o0), .val (.ref o1), .val (.int i2), .val (.int i3), s4, s5, s6] [(.int (Int32.ofNat cs.length - (0 : Int32)))])) _
  refine XS.istore X7.here hx rfl (hb hby d11_15) rfl (l' := #[.val (.ref o0), .val (.ref o1), .val (.int i2), .val (.int i3), .val (.int (Int32.ofNat cs.length - (0 : Int32))), s5, s6]) (os11_15 hs4) ?_
  show Steps p.tables e below (T7.setTop (mkF m 17 #[.val (.ref o0), .val (.ref o1), .val (.int i2), .val (.int i3), .val (.int (Int32.ofNat cs.length - (0 : Int32))), s5, s6] [])) _
  refine XS.iload X7.here hx rfl (hb hby d11_17) rfl ?_
  show Steps p.tables e below (T7.setTop (mkF m 19 #[.val (.ref o0), .val (.ref o1), .val (.int i2), .val (.int i3), .val (.int (Int32.ofNat cs.length - (0 : Int32))), s5, s6] [(.int (Int32.ofNat cs.length - (0 : Int32)))])) _
  refine XS.iloadN X7.here hx rfl (hb hby d11_19) rfl ?_
  show Steps p.tables e below (T7.setTop (mkF m 20 #[.val (.ref o0), .val (.ref o1), .val (.int i2), .val (.int i3), .val (.int (Int32.ofNat cs.length - (0 : Int32))), s5, s6] [(.int i2), (.int (Int32.ofNat cs.length - (0 : Int32)))])) _
  refine XS.icmpNo X7.here hx rfl (hb hby d11_20) rfl (flt ((by rw [own_s0]; exact g1) : ¬ ((Int32.ofNat cs.length - (0 : Int32)) < i2))).1 ?_
  show Steps p.tables e below (T7.setTop (mkF m 23 #[.val (.ref o0), .val (.ref o1), .val (.int i2), .val (.int i3), .val (.int (Int32.ofNat cs.length - (0 : Int32))), s5, s6] [])) _
  refine XS.iload X7.here hx rfl (hb hby d11_23) rfl ?_
  show Steps p.tables e below (T7.setTop (mkF m 25 #[.val (.ref o0), .val (.ref o1), .val (.int i2), .val (.int i3), .val (.int (Int32.ofNat cs.length - (0 : Int32))), s5, s6] [(.int (Int32.ofNat cs.length - (0 : Int32)))])) _
  refine XS.iloadN X7.here hx rfl (hb hby d11_25) rfl ?_
  show Steps p.tables e below (T7.setTop (mkF m 26 #[.val (.ref o0), .val (.ref o1), .val (.int i2), .val (.int i3), .val (.int (Int32.ofNat cs.length - (0 : Int32))), s5, s6] [(.int i3), (.int (Int32.ofNat cs.length - (0 : Int32)))])) _
  refine XS.icmpYes X7.here hx rfl (pc0 := 26) (pc' := 47) rfl (hb hby d11_26) rfl (flt ((by rw [own_s0]; exact g2) : ¬ (i3 < (Int32.ofNat cs.length - (0 : Int32))))).2.2.2 (by decide) (by decide) ?_
  show Steps p.tables e below (T7.setTop (mkF m 47 #[.val (.ref o0), .val (.ref o1), .val (.int i2), .val (.int i3), .val (.int (Int32.ofNat cs.length - (0 : Int32))), s5, s6] [])) _
  refine XS.iconst X7.here hx rfl (hb hby d11_47) ?_
  show Steps p.tables e below (T7.setTop (mkF m 48 #[.val (.ref o0), .val (.ref o1), .val (.int i2), .val (.int i3), .val (.int (Int32.ofNat cs.length - (0 : Int32))), s5, s6] [(.int (0 : Int32))])) _
  refine XS.istore X7.here hx rfl (hb hby d11_48) rfl (l' := #[.val (.ref o0), .val (.ref o1), .val (.int i2), .val (.int i3), .val (.int (Int32.ofNat cs.length - (0 : Int32))), .val (.int (0 : Int32)), s6]) (os11_48 hs5) ?_
  exact kt
theorem d11_50 : decode prog_5_method_8_code 50 = .ok (.iload 5, 2) := by decide +kernel
theorem d11_52 : decode prog_5_method_8_code 52 = .ok (.aload_n 1, 1) := by decide +kernel
theorem d11_53 : decode prog_5_method_8_code 53 = .ok (.invokevirtual 46, 3) := by decide +kernel
theorem d11_56 : decode prog_5_method_8_code 56 = .ok (.if_icmp .ge 114, 3) := by decide +kernel
theorem d11_59 : decode prog_5_method_8_code 59 = .ok (.aload_n 1, 1) := by decide +kernel
theorem d11_60 : decode prog_5_method_8_code 60 = .ok (.iload 5, 2) := by decide +kernel
theorem d11_62 : decode prog_5_method_8_code 62 = .ok (.invokevirtual 63, 3) := by decide +kernel
theorem d11_65 : decode prog_5_method_8_code 65 = .ok (.istore 6, 2) := by decide +kernel
theorem d11_67 : decode prog_5_method_8_code 67 = .ok (.iload 6, 2) := by decide +kernel
theorem d11_69 : decode prog_5_method_8_code 69 = .ok (.bipush 32, 2) := by decide +kernel
theorem d11_71 : decode prog_5_method_8_code 71 = .ok (.if_icmp .lt 10, 3) := by decide +kernel
theorem d11_74 : decode prog_5_method_8_code 74 = .ok (.iload 6, 2) := by decide +kernel
theorem d11_76 : decode prog_5_method_8_code 76 = .ok (.bipush 127, 2) := by decide +kernel
theorem d11_78 : decode prog_5_method_8_code 78 = .ok (.if_icmp .ne 32, 3) := by decide +kernel
theorem d11_110 : decode prog_5_method_8_code 110 = .ok (.iload 6, 2) := by decide +kernel
theorem d11_112 : decode prog_5_method_8_code 112 = .ok (.ldc 81, 2) := by decide +kernel
theorem d11_114 : decode prog_5_method_8_code 114 = .ok (.if_icmp .lt 39, 3) := by decide +kernel
theorem d11_153 : decode prog_5_method_8_code 153 = .ok (.iload 5, 2) := by decide +kernel
theorem d11_155 : decode prog_5_method_8_code 155 = .ok (.aload_n 1, 1) := by decide +kernel
theorem d11_156 : decode prog_5_method_8_code 156 = .ok (.iload 5, 2) := by decide +kernel
theorem d11_158 : decode prog_5_method_8_code 158 = .ok (.invokevirtual 63, 3) := by decide +kernel
theorem d11_161 : decode prog_5_method_8_code 161 = .ok (.invokestatic 85, 3) := by decide +kernel
theorem d11_164 : decode prog_5_method_8_code 164 = .ok (.iadd, 1) := by decide +kernel
theorem d11_165 : decode prog_5_method_8_code 165 = .ok (.istore 5, 2) := by decide +kernel
theorem d11_167 : decode prog_5_method_8_code 167 = .ok (.goto (-117), 3) := by decide +kernel
theorem pd_11_18 : parseMethodDescriptor "(I)I" = some ⟨[.int], some .int⟩ := by decide +kernel
theorem os11_65 {s0 : Slot} {z1 : Value} {s2 : Slot} {s3 : Slot} {s4 : Slot} {z5 : Value} {s6 : Slot} {v : Int32} (h : One s6) : storeLocals #[s0, .val z1, s2, s3, s4, .val z5, s6] 6 (.int v) = some #[s0, .val z1, s2, s3, s4, .val z5, .val (.int v)] := by
  rcases h with rfl | ⟨w, rfl, hw⟩
  · rfl
  · cases w <;> first | rfl | (simp [Value.category] at hw)
set_option maxRecDepth 65536 in
set_option maxHeartbeats 40000000 in
theorem pc50 {p : Program} {l : Launch} {e : Env} {s : State} {m : MethodId} {args : Array Value} {below : List Frame} {meth : Method} {c : Code} {T0 : State} {locs : List Loc} {Z : State} {a0 : Array Value} {h0 : Heap} (s0 : Slot) (o1 : Addr) (s2 : Slot) (s3 : Slot) (s4 : Slot) (i5 : Int32) (s6 : Slot) (cs : List Int32) (zc : Int32) (wf : Value) (n0 : Nat) (i : Nat)
    (X0 : Stand p l e ({ frames := 4, cells := 0, slots := 0, locals := 54 } : Room) s m args below meth c T0 locs 0 0) (hx : p.tables.exec = Jvm.exec) (hZ : Z.Warmed39 s.vm) (hw : ∀ d ∈ tables_1, d.before a0 Z = true) (hby : c.code = prog_5_method_8_code) (hml : c.maxLocals = 7) (hown : s.vm.findClass "com/example/nto1/nto1/Identity" = some m.cls) (e0 : T0.heap = h0) (Z0 : n0 ≤ h0.size) (N0 : Fr n0 locs) (St : own_Str Z h0 o1 cs) (S_C : Sta Z Z.heap "java/lang/String" "COMPACT_STRINGS" "Z" (.int zc)) (hzc : ¬ zc = 0) (X00 : Old Z n0 h0) (S_F : Sta Z Z.heap "jdk/internal/util/Preconditions" "SIOOBE_FORMATTER" "Ljava/util/function/BiFunction;" wf) (hwf : wf.isRef = true) (hok : ∀ c ∈ cs, own_ok c) (h3 : cs.length ≤ 3) (hi : i < cs.length) (hi5 : i5 = Int32.ofNat i) (hs6 : One s6) :
    ∃ (T' : State) (locs' : List Loc), Stand p l e ({ frames := 4, cells := 0, slots := 0, locals := 54 } : Room) s m args below meth c T' locs' 0 0 ∧ T'.heap = h0 ∧ Fr n0 locs' ∧
      ∀ target, Steps p.tables e below (T'.setTop (mkF m 50 #[s0, .val (.ref o1), s2, s3, s4, .val (.int (i5 + (1 : Int32))), .val (.int (cs.getD i 0))] [])) target → Steps p.tables e below (T0.setTop (mkF m 50 #[s0, .val (.ref o1), s2, s3, s4, .val (.int i5), s6] [])) target := by
  have own_o := own_getD_ok hok hi
  have hlen : ∀ d ∈ StrChars.Road.wordsLen, d.before a0 Z = true := fun d hd => hw d ((by decide +kernel : ∀ d ∈ StrChars.Road.wordsLen, d ∈ tables_1) d hd)
  obtain ⟨t_o1, kb_o1, n_o1, vs_o1, E_o1, V_o1, C_o1, K_o1, hc_o1, hb_o1, l_o1⟩ := id St
  obtain ⟨cq5, kq5, q5a, q5b, q5c⟩ := isOf hZ e0 E_o1
  obtain ⟨_, _, ⟨T5, L5, k5, n5⟩, -, X5, ⟨Lc5, hQ5, l5, y5, z5⟩, st5⟩ := X0.virtualBack hx (y := (⟨"java/lang/String", "length", "()I"⟩ : MethodName)) (z := (⟨"java/lang/String", "length", "()I"⟩ : MethodName)) hown (mvT hZ (hw _ (List.mem_of_getElem? (i := 58) rfl))) (mvT hZ (hw _ (List.mem_of_getElem? (i := 59) rfl))) (notFace_of_selects (args := #[]) (mvT hZ (hw _ (List.mem_of_getElem? (i := 61) rfl)))) (mvT hZ (hw _ (List.mem_of_getElem? (i := 61) rfl))) (mvT hZ (hw _ (List.mem_of_getElem? (i := 60) rfl))) (by decide) (StrChars.Road.lenW (W := 1) hZ hlen (kI := 4) (hw _ (List.mem_of_getElem? (i := 15) rfl)) E_o1 V_o1 C_o1 K_o1 hc_o1 hb_o1 (S_C.ext X00.2) hzc l_o1 (by decide) (by decide)) q5a q5c (g := (mkF m 53 #[s0, .val (.ref o1), s2, s3, s4, .val (.int i5), s6] [(.ref o1), (.int i5)])) rfl (by rw [hml]; rfl) (Steps.refl _) (argsL := []) (rest := [(.int i5)]) (lenOf pd_11_12 rfl) rfl (by show 2 * 0 + _ ≤ _; exact Nat.le_of_eq rfl) (hb hby d11_53) (fun _ _ => ⟨rfl, e0, (by show 0 + 0 ≤ 0; decide), (by show 0 + 0 ≤ 0; decide)⟩)
  dsimp only [Pt.U, Pt.locs, Pt.cells, Pt.slots] at X5 l5 y5 z5 st5 hQ5
  subst l5 y5 z5
  obtain ⟨rfl, rfl, E5q⟩ := hQ5
  have K5q : Keep h0 T5.heap [] := by rw [E5q]; exact Keep.refl _ _
  have N5q : Fr n0 ([] : List Loc) := Fr.nil n0
  have Z5 : n0 ≤ T5.heap.size := Nat.le_trans Z0 K5q.1
  have N5 := Fr.app N0 N5q
  have CE2_o1 := (E_o1.keep K5q)
  obtain ⟨cq6, kq6, q6a, q6b, q6c⟩ := isOf hZ rfl (E_o1.keep K5q)
  obtain ⟨_, _, ⟨T6, L6, k6, n6⟩, -, X6, ⟨Lc6, hQ6, l6, y6, z6⟩, st6⟩ := X5.virtualBack hx (y := (⟨"java/lang/String", "codePointAt", "(I)I"⟩ : MethodName)) (z := (⟨"java/lang/String", "codePointAt", "(I)I"⟩ : MethodName)) hown (mvT hZ (hw _ (List.mem_of_getElem? (i := 92) rfl))) (mvT hZ (hw _ (List.mem_of_getElem? (i := 93) rfl))) (notFace_of_selects (args := #[]) (mvT hZ (hw _ (List.mem_of_getElem? (i := 95) rfl)))) (mvT hZ (hw _ (List.mem_of_getElem? (i := 95) rfl))) (mvT hZ (hw _ (List.mem_of_getElem? (i := 94) rfl))) (by decide) (backOf (W := 0) (rm20 l Z a0 hw [] o1 i5 cs zc wf i T5.heap n0 Z5 (own_Str_keep St K5q) S_C hzc (X00.keep K5q all0) S_F hwf hok h3 hi hi5) hZ (hw _ (List.mem_of_getElem? (i := 96) rfl)) (hw _ (List.mem_of_getElem? (i := 14) rfl)) (by decide) (by decide)) q6a q6c (g := (mkF m 62 #[s0, .val (.ref o1), s2, s3, s4, .val (.int i5), s6] [(.int i5), (.ref o1)])) rfl (by rw [hml]; rfl) (Steps.refl _) (argsL := [(.int i5)]) (rest := []) (lenOf pd_11_18 rfl) rfl (by show 2 * 0 + _ ≤ _; exact Nat.le_of_eq rfl) (hb hby d11_62) (fun _ _ => ⟨rfl, rfl, (by show 0 + 0 ≤ 0; decide), (by show 0 + 0 ≤ 0; decide)⟩)
  dsimp only [Pt.U, Pt.locs, Pt.cells, Pt.slots] at X6 l6 y6 z6 st6 hQ6
  subst l6 y6 z6
  obtain ⟨rfl, N6q, E6q⟩ := hQ6
  have K6q : Keep T5.heap T6.heap [] := by rw [E6q]; exact Keep.refl _ _
  have Z6 : n0 ≤ T6.heap.size := Nat.le_trans Z5 K6q.1
  have N6 := Fr.app N5 N6q
  have CE3_o1 := ((E_o1.keep K5q).keep K6q)
  obtain ⟨cq7, kq7, q7a, q7b, q7c⟩ := isOf hZ rfl ((E_o1.keep K5q).keep K6q)
  obtain ⟨_, _, ⟨T7, L7, k7, n7⟩, -, X7, ⟨Lc7, hQ7, l7, y7, z7⟩, st7⟩ := X6.virtualBack hx (y := (⟨"java/lang/String", "codePointAt", "(I)I"⟩ : MethodName)) (z := (⟨"java/lang/String", "codePointAt", "(I)I"⟩ : MethodName)) hown (mvT hZ (hw _ (List.mem_of_getElem? (i := 92) rfl))) (mvT hZ (hw _ (List.mem_of_getElem? (i := 93) rfl))) (notFace_of_selects (args := #[]) (mvT hZ (hw _ (List.mem_of_getElem? (i := 95) rfl)))) (mvT hZ (hw _ (List.mem_of_getElem? (i := 95) rfl))) (mvT hZ (hw _ (List.mem_of_getElem? (i := 94) rfl))) (by decide) (backOf (W := 1) (rm20 l Z a0 hw [] o1 i5 cs zc wf i T6.heap n0 Z6 (own_Str_keep (own_Str_keep St K5q) K6q) S_C hzc ((X00.keep K5q all0).keep K6q all0) S_F hwf hok h3 hi hi5) hZ (hw _ (List.mem_of_getElem? (i := 96) rfl)) (hw _ (List.mem_of_getElem? (i := 14) rfl)) (by decide) (by decide)) q7a q7c (g := (mkF m 158 #[s0, .val (.ref o1), s2, s3, s4, .val (.int i5), .val (.int (cs.getD i 0))] [(.int i5), (.ref o1), (.int i5)])) rfl (by rw [hml]; rfl) (Steps.refl _) (argsL := [(.int i5)]) (rest := [(.int i5)]) (lenOf pd_11_18 rfl) rfl (by show 2 * 0 + _ ≤ _; exact Nat.le_of_eq rfl) (hb hby d11_158) (fun _ _ => ⟨rfl, rfl, (by show 0 + 0 ≤ 0; decide), (by show 0 + 0 ≤ 0; decide)⟩)
  dsimp only [Pt.U, Pt.locs, Pt.cells, Pt.slots] at X7 l7 y7 z7 st7 hQ7
  subst l7 y7 z7
  obtain ⟨rfl, N7q, E7q⟩ := hQ7
  have K7q : Keep T6.heap T7.heap [] := by rw [E7q]; exact Keep.refl _ _
  have Z7 : n0 ≤ T7.heap.size := Nat.le_trans Z6 K7q.1
  have N7 := Fr.app N6 N7q
  have CE4_o1 := (((E_o1.keep K5q).keep K6q).keep K7q)
  obtain ⟨_, _, ⟨T8, L8, k8, n8⟩, -, X8, ⟨Lc8, hQ8, l8, y8, z8⟩, st8⟩ := Jvm.LawKit.callS X7 hx (y := (⟨"java/lang/Character", "charCount", "(I)I"⟩ : MethodName)) hown (mvT hZ (hw _ (List.mem_of_getElem? (i := 105) rfl))) (mvT hZ (hw _ (List.mem_of_getElem? (i := 106) rfl))) (mvT hZ (hw _ (List.mem_of_getElem? (i := 107) rfl))) (mvT hZ (hw _ (List.mem_of_getElem? (i := 108) rfl))) (by decide) (backOf (W := 1) (rm23 l Z a0 hw [] (cs.getD i 0) T7.heap n0 Z7 (own_k4 own_o)) hZ (hw _ (List.mem_of_getElem? (i := 108) rfl)) (hw _ (List.mem_of_getElem? (i := 107) rfl)) (by decide) (by decide)) (g := (mkF m 161 #[s0, .val (.ref o1), s2, s3, s4, .val (.int i5), .val (.int (cs.getD i 0))] [(.int (cs.getD i 0)), (.int i5)])) rfl (by rw [hml]; rfl) (argsL := [(.int (cs.getD i 0))]) (rest := [(.int i5)]) (lenOf pd_11_18 rfl) rfl (by show 2 * 0 + _ ≤ _; exact Nat.le_of_eq rfl) (hb hby d11_161) (fun _ _ => ⟨rfl, rfl, (by show 0 + 0 ≤ 0; decide), (by show 0 + 0 ≤ 0; decide)⟩)
  dsimp only [Pt.U, Pt.locs, Pt.cells, Pt.slots] at X8 l8 y8 z8 st8 hQ8
  subst l8 y8 z8
  obtain ⟨rfl, N8q, E8q⟩ := hQ8
  have K8q : Keep T7.heap T8.heap [] := by rw [E8q]; exact Keep.refl _ _
  have Z8 : n0 ≤ T8.heap.size := Nat.le_trans Z7 K8q.1
  have N8 := Fr.app N7 N8q
  refine ⟨T8, _, X8, E8q.trans (E7q.trans (E6q.trans E5q)), N8, fun target kt => ?_⟩
  show Steps p.tables e below (T0.setTop (mkF m 50 #[s0, .val (.ref o1), s2, s3, s4, .val (.int i5), s6] [])) _
  refine XS.iload X0.here hx rfl (hb hby d11_50) rfl ?_
  show Steps p.tables e below (T0.setTop (mkF m 52 #[s0, .val (.ref o1), s2, s3, s4, .val (.int i5), s6] [(.int i5)])) _
  refine XS.aloadN X0.here hx rfl (hb hby d11_52) rfl rfl ?_
  show Steps p.tables e below (T0.setTop (mkF m 53 #[s0, .val (.ref o1), s2, s3, s4, .val (.int i5), s6] [(.ref o1), (.int i5)])) _
  refine st5.trans ?_
  show Steps p.tables e below (T5.setTop (mkF m 56 #[s0, .val (.ref o1), s2, s3, s4, .val (.int i5), s6] [(.int (Int32.ofNat cs.length)), (.int i5)])) _
  refine XS.icmpNo X5.here hx rfl (hb hby d11_56) rfl (tlt ((by rw [hi5]; exact own_lt3 hi h3) : i5 < (Int32.ofNat cs.length))).2.1 ?_
  show Steps p.tables e below (T5.setTop (mkF m 59 #[s0, .val (.ref o1), s2, s3, s4, .val (.int i5), s6] [])) _
  refine XS.aloadN X5.here hx rfl (hb hby d11_59) rfl rfl ?_
  show Steps p.tables e below (T5.setTop (mkF m 60 #[s0, .val (.ref o1), s2, s3, s4, .val (.int i5), s6] [(.ref o1)])) _
  refine XS.iload X5.here hx rfl (hb hby d11_60) rfl ?_
  show Steps p.tables e below (T5.setTop (mkF m 62 #[s0, .val (.ref o1), s2, s3, s4, .val (.int i5), s6] [(.int i5), (.ref o1)])) _
  refine st6.trans ?_
  show Steps p.tables e below (T6.setTop (mkF m 65 #[s0, .val (.ref o1), s2, s3, s4, .val (.int i5), s6] [(.int (cs.getD i 0))])) _
  refine XS.istore X6.here hx rfl (hb hby d11_65) rfl (l' := #[s0, .val (.ref o1), s2, s3, s4, .val (.int i5), .val (.int (cs.getD i 0))]) (os11_65 hs6) ?_
  show Steps p.tables e below (T6.setTop (mkF m 67 #[s0, .val (.ref o1), s2, s3, s4, .val (.int i5), .val (.int (cs.getD i 0))] [])) _
  refine XS.iload X6.here hx rfl (hb hby d11_67) rfl ?_
  show Steps p.tables e below (T6.setTop (mkF m 69 #[s0, .val (.ref o1), s2, s3, s4, .val (.int i5), .val (.int (cs.getD i 0))] [(.int (cs.getD i 0))])) _
  refine XS.bipush X6.here hx rfl (hb hby d11_69) ?_
  show Steps p.tables e below (T6.setTop (mkF m 71 #[s0, .val (.ref o1), s2, s3, s4, .val (.int i5), .val (.int (cs.getD i 0))] [(.int (32 : Int32)), (.int (cs.getD i 0))])) _
  refine XS.icmpNo X6.here hx rfl (hb hby d11_71) rfl (flt (own_k1 own_o : ¬ ((cs.getD i 0) < (32 : Int32)))).1 ?_
  show Steps p.tables e below (T6.setTop (mkF m 74 #[s0, .val (.ref o1), s2, s3, s4, .val (.int i5), .val (.int (cs.getD i 0))] [])) _
  refine XS.iload X6.here hx rfl (hb hby d11_74) rfl ?_
  show Steps p.tables e below (T6.setTop (mkF m 76 #[s0, .val (.ref o1), s2, s3, s4, .val (.int i5), .val (.int (cs.getD i 0))] [(.int (cs.getD i 0))])) _
  refine XS.bipush X6.here hx rfl (hb hby d11_76) ?_
  show Steps p.tables e below (T6.setTop (mkF m 78 #[s0, .val (.ref o1), s2, s3, s4, .val (.int i5), .val (.int (cs.getD i 0))] [(.int (127 : Int32)), (.int (cs.getD i 0))])) _
  refine XS.icmpYes X6.here hx rfl (pc0 := 78) (pc' := 110) rfl (hb hby d11_78) rfl (feq (own_k2 own_o : ¬ ((cs.getD i 0) = (127 : Int32)))).2 (by decide) (by decide) ?_
  show Steps p.tables e below (T6.setTop (mkF m 110 #[s0, .val (.ref o1), s2, s3, s4, .val (.int i5), .val (.int (cs.getD i 0))] [])) _
  refine XS.iload X6.here hx rfl (hb hby d11_110) rfl ?_
  show Steps p.tables e below (T6.setTop (mkF m 112 #[s0, .val (.ref o1), s2, s3, s4, .val (.int i5), .val (.int (cs.getD i 0))] [(.int (cs.getD i 0))])) _
  refine X6.ldcInt hx hown (mvT hZ (hw _ (List.mem_of_getElem? (i := 104) rfl))) (g := (mkF m 112 #[s0, .val (.ref o1), s2, s3, s4, .val (.int i5), .val (.int (cs.getD i 0))] [(.int (cs.getD i 0))])) rfl (hb hby d11_112) _ ?_
  show Steps p.tables e below (T6.setTop (mkF m 114 #[s0, .val (.ref o1), s2, s3, s4, .val (.int i5), .val (.int (cs.getD i 0))] [(.int (55296 : Int32)), (.int (cs.getD i 0))])) _
  refine XS.icmpYes X6.here hx rfl (pc0 := 114) (pc' := 153) rfl (hb hby d11_114) rfl (tlt (own_k3 own_o : (cs.getD i 0) < (55296 : Int32))).1 (by decide) (by decide) ?_
  show Steps p.tables e below (T6.setTop (mkF m 153 #[s0, .val (.ref o1), s2, s3, s4, .val (.int i5), .val (.int (cs.getD i 0))] [])) _
  refine XS.iload X6.here hx rfl (hb hby d11_153) rfl ?_
  show Steps p.tables e below (T6.setTop (mkF m 155 #[s0, .val (.ref o1), s2, s3, s4, .val (.int i5), .val (.int (cs.getD i 0))] [(.int i5)])) _
  refine XS.aloadN X6.here hx rfl (hb hby d11_155) rfl rfl ?_
  show Steps p.tables e below (T6.setTop (mkF m 156 #[s0, .val (.ref o1), s2, s3, s4, .val (.int i5), .val (.int (cs.getD i 0))] [(.ref o1), (.int i5)])) _
  refine XS.iload X6.here hx rfl (hb hby d11_156) rfl ?_
  show Steps p.tables e below (T6.setTop (mkF m 158 #[s0, .val (.ref o1), s2, s3, s4, .val (.int i5), .val (.int (cs.getD i 0))] [(.int i5), (.ref o1), (.int i5)])) _
  refine st7.trans ?_
  show Steps p.tables e below (T7.setTop (mkF m 161 #[s0, .val (.ref o1), s2, s3, s4, .val (.int i5), .val (.int (cs.getD i 0))] [(.int (cs.getD i 0)), (.int i5)])) _
  refine st8 _ ?_
  show Steps p.tables e below (T8.setTop (mkF m 164 #[s0, .val (.ref o1), s2, s3, s4, .val (.int i5), .val (.int (cs.getD i 0))] [(.int (1 : Int32)), (.int i5)])) _
  refine XS.iadd X8.here hx rfl (hb hby d11_164) rfl ?_
  show Steps p.tables e below (T8.setTop (mkF m 165 #[s0, .val (.ref o1), s2, s3, s4, .val (.int i5), .val (.int (cs.getD i 0))] [(.int (i5 + (1 : Int32)))])) _
  refine XS.istore X8.here hx rfl (hb hby d11_165) rfl (l' := #[s0, .val (.ref o1), s2, s3, s4, .val (.int (i5 + (1 : Int32))), .val (.int (cs.getD i 0))]) rfl ?_
  show Steps p.tables e below (T8.setTop (mkF m 167 #[s0, .val (.ref o1), s2, s3, s4, .val (.int (i5 + (1 : Int32))), .val (.int (cs.getD i 0))] [])) _
  refine XS.goto X8.here hx rfl (pc0 := 167) (pc' := 50) rfl (hb hby d11_167) (by decide) (by decide) ?_
  exact kt
set_option maxRecDepth 65536 in
set_option maxHeartbeats 40000000 in
theorem pc170 {p : Program} {l : Launch} {e : Env} {s : State} {m : MethodId} {args : Array Value} {below : List Frame} {meth : Method} {c : Code} {T0 : State} {locs : List Loc} {Z : State} {a0 : Array Value} {h0 : Heap} (s0 : Slot) (o1 : Addr) (s2 : Slot) (s3 : Slot) (s4 : Slot) (i5 : Int32) (s6 : Slot) (cs : List Int32) (zc : Int32) (wf : Value) (n0 : Nat)
    (X0 : Stand p l e ({ frames := 4, cells := 0, slots := 0, locals := 54 } : Room) s m args below meth c T0 locs 0 0) (hx : p.tables.exec = Jvm.exec) (hZ : Z.Warmed39 s.vm) (hw : ∀ d ∈ tables_1, d.before a0 Z = true) (hby : c.code = prog_5_method_8_code) (hml : c.maxLocals = 7) (hown : s.vm.findClass "com/example/nto1/nto1/Identity" = some m.cls) (e0 : T0.heap = h0) (Z0 : n0 ≤ h0.size) (N0 : Fr n0 locs) (St : own_Str Z h0 o1 cs) (S_C : Sta Z Z.heap "java/lang/String" "COMPACT_STRINGS" "Z" (.int zc)) (hzc : ¬ zc = 0) (X00 : Old Z n0 h0) (S_F : Sta Z Z.heap "jdk/internal/util/Preconditions" "SIOOBE_FORMATTER" "Ljava/util/function/BiFunction;" wf) (hwf : wf.isRef = true) (hok : ∀ c ∈ cs, own_ok c) (h3 : cs.length ≤ 3) (hi5 : i5 = Int32.ofNat cs.length) :
    ∃ (T' : State) (locs' : List Loc), Stand p l e ({ frames := 4, cells := 0, slots := 0, locals := 54 } : Room) s m args below meth c T' locs' 0 0 ∧ T'.heap = h0 ∧ Fr n0 locs' ∧
      ∀ target, Steps p.tables e below (T'.setTop (mkF m 170 #[s0, .val (.ref o1), s2, s3, s4, .val (.int i5), s6] [])) target → Steps p.tables e below (T0.setTop (mkF m 50 #[s0, .val (.ref o1), s2, s3, s4, .val (.int i5), s6] [])) target := by
  have hlen : ∀ d ∈ StrChars.Road.wordsLen, d.before a0 Z = true := fun d hd => hw d ((by decide +kernel : ∀ d ∈ StrChars.Road.wordsLen, d ∈ tables_1) d hd)
  obtain ⟨t_o1, kb_o1, n_o1, vs_o1, E_o1, V_o1, C_o1, K_o1, hc_o1, hb_o1, l_o1⟩ := id St
  obtain ⟨cq5, kq5, q5a, q5b, q5c⟩ := isOf hZ e0 E_o1
  obtain ⟨_, _, ⟨T5, L5, k5, n5⟩, -, X5, ⟨Lc5, hQ5, l5, y5, z5⟩, st5⟩ := X0.virtualBack hx (y := (⟨"java/lang/String", "length", "()I"⟩ : MethodName)) (z := (⟨"java/lang/String", "length", "()I"⟩ : MethodName)) hown (mvT hZ (hw _ (List.mem_of_getElem? (i := 58) rfl))) (mvT hZ (hw _ (List.mem_of_getElem? (i := 59) rfl))) (notFace_of_selects (args := #[]) (mvT hZ (hw _ (List.mem_of_getElem? (i := 61) rfl)))) (mvT hZ (hw _ (List.mem_of_getElem? (i := 61) rfl))) (mvT hZ (hw _ (List.mem_of_getElem? (i := 60) rfl))) (by decide) (StrChars.Road.lenW (W := 1) hZ hlen (kI := 4) (hw _ (List.mem_of_getElem? (i := 15) rfl)) E_o1 V_o1 C_o1 K_o1 hc_o1 hb_o1 (S_C.ext X00.2) hzc l_o1 (by decide) (by decide)) q5a q5c (g := (mkF m 53 #[s0, .val (.ref o1), s2, s3, s4, .val (.int i5), s6] [(.ref o1), (.int i5)])) rfl (by rw [hml]; rfl) (Steps.refl _) (argsL := []) (rest := [(.int i5)]) (lenOf pd_11_12 rfl) rfl (by show 2 * 0 + _ ≤ _; exact Nat.le_of_eq rfl) (hb hby d11_53) (fun _ _ => ⟨rfl, e0, (by show 0 + 0 ≤ 0; decide), (by show 0 + 0 ≤ 0; decide)⟩)
  dsimp only [Pt.U, Pt.locs, Pt.cells, Pt.slots] at X5 l5 y5 z5 st5 hQ5
  subst l5 y5 z5
  obtain ⟨rfl, rfl, E5q⟩ := hQ5
  have K5q : Keep h0 T5.heap [] := by rw [E5q]; exact Keep.refl _ _
  have N5q : Fr n0 ([] : List Loc) := Fr.nil n0
  have Z5 : n0 ≤ T5.heap.size := Nat.le_trans Z0 K5q.1
  have N5 := Fr.app N0 N5q
  refine ⟨T5, _, X5, E5q, N5, fun target kt => ?_⟩
  show Steps p.tables e below (T0.setTop (mkF m 50 #[s0, .val (.ref o1), s2, s3, s4, .val (.int i5), s6] [])) _
  refine XS.iload X0.here hx rfl (hb hby d11_50) rfl ?_
  show Steps p.tables e below (T0.setTop (mkF m 52 #[s0, .val (.ref o1), s2, s3, s4, .val (.int i5), s6] [(.int i5)])) _
  refine XS.aloadN X0.here hx rfl (hb hby d11_52) rfl rfl ?_
  show Steps p.tables e below (T0.setTop (mkF m 53 #[s0, .val (.ref o1), s2, s3, s4, .val (.int i5), s6] [(.ref o1), (.int i5)])) _
  refine st5.trans ?_
  show Steps p.tables e below (T5.setTop (mkF m 56 #[s0, .val (.ref o1), s2, s3, s4, .val (.int i5), s6] [(.int (Int32.ofNat cs.length)), (.int i5)])) _
  refine XS.icmpYes X5.here hx rfl (pc0 := 56) (pc' := 170) rfl (hb hby d11_56) rfl (flt ((by rw [hi5, Int32.lt_iff_toInt_lt]; omega) : ¬ (i5 < (Int32.ofNat cs.length)))).2.1 (by decide) (by decide) ?_
  exact kt
theorem loop11 {p : Program} {l : Launch} {e : Env} {s : State} {m : MethodId} {args : Array Value} {below : List Frame} {meth : Method} {c : Code} {Z : State} {a0 : Array Value} {h0 : Heap} (s0 : Slot) (o1 : Addr) (s2 s3 s4 : Slot) (cs : List Int32) (zc : Int32) (wf : Value) (n0 : Nat) (hx : p.tables.exec = Jvm.exec) (hZ : Z.Warmed39 s.vm) (hw : ∀ d ∈ tables_1, d.before a0 Z = true) (hby : c.code = prog_5_method_8_code) (hml : c.maxLocals = 7) (hown : s.vm.findClass "com/example/nto1/nto1/Identity" = some m.cls) (Z0 : n0 ≤ h0.size) (St : own_Str Z h0 o1 cs) (S_C : Sta Z Z.heap "java/lang/String" "COMPACT_STRINGS" "Z" (.int zc)) (hzc : ¬ zc = 0) (X00 : Old Z n0 h0) (S_F : Sta Z Z.heap "jdk/internal/util/Preconditions" "SIOOBE_FORMATTER" "Ljava/util/function/BiFunction;" wf) (hwf : wf.isRef = true) (hok : ∀ c ∈ cs, own_ok c) (h3 : cs.length ≤ 3) :
    ∀ (k i : Nat) (T0 : State) (locs : List Loc) (s6 : Slot), i + k = cs.length → One s6 → Stand p l e ({ frames := 4, cells := 0, slots := 0, locals := 54 } : Room) s m args below meth c T0 locs 0 0 → T0.heap = h0 → Fr n0 locs →
      ∃ (T' : State) (locs' : List Loc) (s6' : Slot), Stand p l e ({ frames := 4, cells := 0, slots := 0, locals := 54 } : Room) s m args below meth c T' locs' 0 0 ∧ T'.heap = h0 ∧ Fr n0 locs' ∧
        ∀ target, Steps p.tables e below (T'.setTop (mkF m 170 #[s0, .val (.ref o1), s2, s3, s4, .val (.int (Int32.ofNat cs.length)), s6'] [])) target → Steps p.tables e below (T0.setTop (mkF m 50 #[s0, .val (.ref o1), s2, s3, s4, .val (.int (Int32.ofNat i)), s6] [])) target := by
  intro k
  induction k with
  | zero =>
    intro i T0 locs s6 hi h6 X0 e0 N0
    have hi' : i = cs.length := by omega
    subst hi'
    obtain ⟨T', L', X', e', N', st⟩ := pc170 s0 o1 s2 s3 s4 (Int32.ofNat cs.length) s6 cs zc wf n0 X0 hx hZ hw hby hml hown e0 Z0 N0 St S_C hzc X00 S_F hwf hok h3 rfl
    exact ⟨T', L', s6, X', e', N', st⟩
  | succ k ih =>
    intro i T0 locs s6 hi h6 X0 e0 N0
    obtain ⟨T1, L1, X1, e1, N1, st1⟩ := pc50 s0 o1 s2 s3 s4 (Int32.ofNat i) s6 cs zc wf n0 i X0 hx hZ hw hby hml hown e0 Z0 N0 St S_C hzc X00 S_F hwf hok h3 (by omega) rfl h6
    obtain ⟨T', L', s6', X', e', N', st⟩ := ih (i + 1) T1 L1 (.val (.int (cs.getD i 0))) (by omega) (One.val rfl) X1 e1 N1
    refine ⟨T', L', s6', X', e', N', fun target h => st1 target ?_⟩
    rw [show Int32.ofNat i + (1 : Int32) = Int32.ofNat (i + 1) from (Int32.ofNat_add i 1).symm]
    exact st target h
theorem d11_170 : decode prog_5_method_8_code 170 = .ok (.aload_n 1, 1) := by decide +kernel
theorem d11_171 : decode prog_5_method_8_code 171 = .ok (.areturn, 1) := by decide +kernel
theorem pn_11 : plainName "com/example/nto1/nto1/Identity" = true := by first | (simp [plainName, overriddenIn]; done) | decide +kernel
theorem ef_11 (m : MethodId) (x0 : Addr) (x1 : Addr) (x2 : Int32) (x3 : Int32) : entryFrame m #[(.ref x0), (.ref x1), (.int x2), (.int x3)] 7 = mkF m 0 #[.val (.ref x0), .val (.ref x1), .val (.int x2), .val (.int x3), .unset, .unset, .unset] [] := by first | (simp [entryFrame, mkF, argsToLocals, Value.category]; done) | rfl
def Q11 (Z : State) (a1 : Addr) (a2 : Addr) (p3 : Int32) (p4 : Int32) (h0 : Heap) (n0 : Nat) (v : Option Value) (h : Heap) (L : List Loc) : Prop := v = some (.ref a2) ∧ Fr n0 L ∧ h = h0
set_option maxRecDepth 65536 in
set_option maxHeartbeats 40000000 in
theorem rm11 (l : Launch) (Z : State) (a0 : Array Value) (hw : ∀ d ∈ tables_1, d.before a0 Z = true) (ws : List Jvm.Cond) (a1 : Addr) (a2 : Addr) (p3 : Int32) (p4 : Int32) (h0 : Heap) (n0 : Nat) (Z0 : n0 ≤ h0.size) (cs : List Int32) (zc : Int32) (wf : Value) (St : own_Str Z h0 a2 cs) (S_C : Sta Z Z.heap "java/lang/String" "COMPACT_STRINGS" "Z" (.int zc)) (hzc : ¬ zc = 0) (X00 : Old Z n0 h0) (S_F : Sta Z Z.heap "jdk/internal/util/Preconditions" "SIOOBE_FORMATTER" "Ljava/util/function/BiFunction;" wf) (hwf : wf.isRef = true) (hok : ∀ c ∈ cs, own_ok c) (h3 : cs.length ≤ 3) (g1 : ¬ (Int32.ofNat cs.length < p3)) (g2 : ¬ (p4 < Int32.ofNat cs.length)) :
    MetFree l (⟨"com/example/nto1/nto1/Identity", "checked", "(Ljava/lang/String;Ljava/lang/String;II)Ljava/lang/String;"⟩ : MethodName) (head1 (Jvm.Cond.code (⟨"com/example/nto1/nto1/Identity", "checked", "(Ljava/lang/String;Ljava/lang/String;II)Ljava/lang/String;"⟩ : MethodName) prog_5_method_8_code 7 (some (.object "java/lang/String")) :: ws) ({ frames := 4, cells := 0, slots := 0, locals := 54 } : Room)) (fun a U => a = #[(.ref a1), (.ref a2), (.int p3), (.int p4)] ∧ Z.Warmed39 U.vm ∧ U.heap = h0) (fun _ _ _ _ _ => True) (fun _ U o U' => ∃ v L, o = .returned v ∧ Q11 Z a1 a2 p3 p4 h0 n0 v U'.heap L ∧ FrameEnd U o U' L ({ frames := 4, cells := 0, slots := 0, locals := 54 } : Room).cells ({ frames := 4, cells := 0, slots := 0, locals := 54 } : Room).slots) := by
  refine MetFree.of_bodySF (plainFor_of_name pn_11) hisR ?_
  intro p e s m args below meth c s₁ Bd hml0 hP hK
  obtain ⟨rfl, hZ, hh⟩ := hP
  have hx := Bd.exec
  have hby := Bd.bytes
  have hml : c.maxLocals = 7 := hml0
  have hown : s.vm.findClass "com/example/nto1/nto1/Identity" = some m.cls := findClass_of_methodNamed Bd.named
  have hnm := (name_of_methodNamed Bd.named Bd.method).1
  have X0 : Stand p l e ({ frames := 4, cells := 0, slots := 0, locals := 54 } : Room) s m #[(.ref a1), (.ref a2), (.int p3), (.int p4)] below meth c s₁ [] 0 0 := Stand.of_body Bd
  have e0 : s₁.heap = h0 := by rw [← hh, Bd.state]; rfl
  have N0 := Fr.nil n0
  have pre0 : ∀ t, Steps p.tables e below (s₁.setTop (mkF m 0 #[.val (.ref a1), .val (.ref a2), .val (.int p3), .val (.int p4), .unset, .unset, .unset] [])) t → Steps p.tables e below (s₁.setTop (entryFrame m #[(.ref a1), (.ref a2), (.int p3), (.int p4)] 7)) t := fun t k => castTop (ef_11 m a1 a2 p3 p4) k
  obtain ⟨T5, locs5, X5, e5, N5, st5⟩ := pc0 a1 a2 p3 p4 .unset .unset .unset cs zc wf n0 X0 hx hZ hw hby hml hown e0 Z0 N0 St S_C hzc X00 S_F hwf hok h3 g1 g2 One.u One.u
  obtain ⟨T6, locs6, s6x, X6, e6, N6, st6⟩ := loop11 (.val (.ref a1)) a2 (.val (.int p3)) (.val (.int p4)) (.val (.int (Int32.ofNat cs.length - (0 : Int32)))) cs zc wf n0 hx hZ hw hby hml hown Z0 St S_C hzc X00 S_F hwf hok h3 cs.length 0 T5 _ .unset (by omega) One.u X5 e5 N5
  obtain ⟨fs, hr, hrun, hended, hW, hsame⟩ := X6.leave (v := some (.ref a2)) (fun h => by rw [Bd.returns] at h; cases h)
  refine ⟨_, _, pre0 _ ?_, hrun, hended, _, _, rfl, ?_, ⟨_, rfl⟩, hW, hsame.mono (by decide) (by decide)⟩
  · show Steps p.tables e below (s₁.setTop (mkF m 0 #[.val (.ref a1), .val (.ref a2), .val (.int p3), .val (.int p4), .unset, .unset, .unset] [])) _
    refine st5 _ ?_
    show Steps p.tables e below (T5.setTop (mkF m 50 #[.val (.ref a1), .val (.ref a2), .val (.int p3), .val (.int p4), .val (.int (Int32.ofNat cs.length - (0 : Int32))), .val (.int (0 : Int32)), .unset] [])) _
    refine st6 _ ?_
    show Steps p.tables e below (T6.setTop (mkF m 170 #[.val (.ref a1), .val (.ref a2), .val (.int p3), .val (.int p4), .val (.int (Int32.ofNat cs.length - (0 : Int32))), .val (.int (Int32.ofNat cs.length)), s6x] [])) _
    refine XS.aloadN X6.here hx rfl (hb hby d11_170) rfl rfl ?_
    show Steps p.tables e below (T6.setTop (mkF m 171 #[.val (.ref a1), .val (.ref a2), .val (.int p3), .val (.int p4), .val (.int (Int32.ofNat cs.length - (0 : Int32))), .val (.int (Int32.ofNat cs.length)), s6x] [(.ref a2)])) _
    jvm_step X6.here [X6.here.top, hx, (hb hby d11_171), X6.method', Bd.returns, Value.isRef, FieldType.isReference]
    first | (intro acts; rw [hr _ acts rfl rfl rfl]) | rw [hr _ _ rfl rfl rfl]
    exact Steps.refl _
  · show Q11 Z a1 a2 p3 p4 h0 n0 _ T6.heap _
    rw [e6]
    exact ⟨rfl, N6, rfl⟩
theorem own_Str_wr {Z : State} {a0 : Array Value} {h h' : Heap} {x a : Addr} {cs : List Int32} {sl : Nat} {v : Value} (S : own_Str Z h x cs) (W : Wr h h' a sl v) (E : Exa Z h a "com/example/nto1/nto1/Identity") (w : (Jvm.Cond.instantiable "com/example/nto1/nto1/Identity" 3).before a0 Z = true) : own_Str Z h' x cs := by
  obtain ⟨t, kb, N2, vs, e, V, c, k, r⟩ := S
  have n1 : x ≠ a := Exa.ne e E (by decide)
  have n2 : t ≠ a := Ne.symm (Exa.neArv E k w)
  exact ⟨t, kb, N2, vs, e.wr W, V.other W (Or.inl n1), c.other W (Or.inl n1), k.other W n2, r⟩
theorem own_Str_kp {Z : State} {a0 : Array Value} {h h' : Heap} {x a : Addr} {cs : List Int32} (S : own_Str Z h x cs) (K : Keep h h' [a]) (E : Exa Z h a "com/example/nto1/nto1/Identity") (w : (Jvm.Cond.instantiable "com/example/nto1/nto1/Identity" 3).before a0 Z = true) : own_Str Z h' x cs := by
  obtain ⟨t, kb, N2, vs, e, V, c, k, r⟩ := S
  have n1 : x ≠ a := Exa.ne e E (by decide)
  have n2 : t ≠ a := Ne.symm (Exa.neArv E k w)
  exact ⟨t, kb, N2, vs, e.keep K, V.keep K (ninS n1 nin0), c.keep K (ninS n1 nin0), k.keep K (ninS n2 nin0), r⟩
theorem own_h0 {n : Nat} (h : n ≤ 3) : ¬ (Int32.ofNat n < (0 : Int32)) := (own_n3 h).1
theorem own_h1 {n : Nat} (h1 : 1 ≤ n) (h : n ≤ 3) : ¬ (Int32.ofNat n < (1 : Int32)) := by
  rw [Int32.lt_iff_toInt_lt, (own_n3 h).2.2, show (1 : Int32).toInt = 1 by decide]; omega
theorem own_h128 {n : Nat} (h : n ≤ 3) : ¬ ((128 : Int32) < Int32.ofNat n) := by
  rw [Int32.lt_iff_toInt_lt, (own_n3 h).2.2, show (128 : Int32).toInt = 128 by decide]; omega
theorem own_h255 {n : Nat} (h : n ≤ 3) : ¬ ((255 : Int32) < Int32.ofNat n) := by
  rw [Int32.lt_iff_toInt_lt, (own_n3 h).2.2, show (255 : Int32).toInt = 255 by decide]; omega
theorem d19_0 : decode prog_5_method_2_code 0 = .ok (.ldc 29, 2) := by decide +kernel
theorem d19_2 : decode prog_5_method_2_code 2 = .ok (.aload_n 0, 1) := by decide +kernel
theorem d19_3 : decode prog_5_method_2_code 3 = .ok (.iconst 1, 1) := by decide +kernel
theorem d19_4 : decode prog_5_method_2_code 4 = .ok (.sipush 128, 3) := by decide +kernel
theorem d19_7 : decode prog_5_method_2_code 7 = .ok (.invokestatic 11, 3) := by decide +kernel
theorem d19_10 : decode prog_5_method_2_code 10 = .ok (.areturn, 1) := by decide +kernel
theorem pn_19 : plainName "com/example/nto1/nto1/Identity" = true := by first | (simp [plainName, overriddenIn]; done) | decide +kernel
theorem pd_19_10 : parseMethodDescriptor "(Ljava/lang/String;Ljava/lang/String;II)Ljava/lang/String;" = some ⟨[(.object "java/lang/String"), (.object "java/lang/String"), .int, .int], some (.object "java/lang/String")⟩ := by decide +kernel
theorem ef_19 (m : MethodId) (x0 : Addr) : entryFrame m #[(.ref x0)] 1 = mkF m 0 #[.val (.ref x0)] [] := by first | (simp [entryFrame, mkF, argsToLocals, Value.category]; done) | rfl
def Q19 (Z : State) (a1 : Addr) (h0 : Heap) (n0 : Nat) (v : Option Value) (h : Heap) (L : List Loc) : Prop := v = some (.ref a1) ∧ Fr n0 L ∧ Keep h0 h []
set_option maxRecDepth 65536 in
set_option maxHeartbeats 40000000 in
theorem rm19 (l : Launch) (Z : State) (a0 : Array Value) (hw : ∀ d ∈ tables_1, d.before a0 Z = true) (ws : List Jvm.Cond) (a1 : Addr) (h0 : Heap) (n0 : Nat) (Z0 : n0 ≤ h0.size) (cs : List Int32) (zc : Int32) (wf : Value) (St : own_Str Z h0 a1 cs) (S_C : Sta Z Z.heap "java/lang/String" "COMPACT_STRINGS" "Z" (.int zc)) (hzc : ¬ zc = 0) (X00 : Old Z n0 h0) (S_F : Sta Z Z.heap "jdk/internal/util/Preconditions" "SIOOBE_FORMATTER" "Ljava/util/function/BiFunction;" wf) (hwf : wf.isRef = true) (hok : ∀ c ∈ cs, own_ok c) (h3 : cs.length ≤ 3) (h1 : 1 ≤ cs.length) :
    MetFree l (⟨"com/example/nto1/nto1/Identity", "checkedOperation", "(Ljava/lang/String;)Ljava/lang/String;"⟩ : MethodName) (head1 (Jvm.Cond.code (⟨"com/example/nto1/nto1/Identity", "checkedOperation", "(Ljava/lang/String;)Ljava/lang/String;"⟩ : MethodName) prog_5_method_2_code 1 (some (.object "java/lang/String")) :: ws) ({ frames := 5, cells := 2, slots := 40, locals := 72 } : Room)) (fun a U => a = #[(.ref a1)] ∧ Z.Warmed39 U.vm ∧ U.heap = h0 ∧ CHv Z consts_1 U.vm h0 ∧ True) (fun _ _ _ _ _ => True) (fun _ U o U' => ∃ v L, o = .returned v ∧ Q19 Z a1 h0 n0 v U'.heap L ∧ CHr Z consts_1 U.vm U.heap U'.vm U'.heap ∧ ReturnedEndW U o U' L ({ frames := 5, cells := 2, slots := 40, locals := 72 } : Room).cells ({ frames := 5, cells := 2, slots := 40, locals := 72 } : Room).slots) := by
  refine MetFree.of_bodySF (plainFor_of_name pn_19) hisR ?_
  intro p e s m args below meth c s₁ Bd hml0 hP hK
  obtain ⟨rfl, hZ, hh, H0, Sf0⟩ := hP
  have hx := Bd.exec
  have hby := Bd.bytes
  have hml : c.maxLocals = 1 := hml0
  have hown : s.vm.findClass "com/example/nto1/nto1/Identity" = some m.cls := findClass_of_methodNamed Bd.named
  have hnm := (name_of_methodNamed Bd.named Bd.method).1
  have X0 : Stand p l e ({ frames := 5, cells := 2, slots := 40, locals := 72 } : Room) (s.setVm s.vm) m #[(.ref a1)] below meth c s₁ [] 0 0 := Stand.of_body Bd
  have e0 : s₁.heap = h0 := by rw [← hh, Bd.state]; rfl
  have N0 := Fr.nil n0
  have hS : s.Since s.vm h0.size := (State.WarmedH.refl s).since h0.size
  have hwS : ∀ a ∈ Bundle.stringAtoms, a.before a0 Z = true := fun d hd => hw d ((by decide +kernel : ∀ d ∈ Bundle.stringAtoms, d ∈ tables_1) d hd)
  have hEL := own_EL hw
  have hZ0 := hZ
  have hown0 := hown
  have pre0 : ∀ t, Steps p.tables e below (s₁.setTop (mkF m 0 #[.val (.ref a1)] [])) t → Steps p.tables e below (s₁.setTop (entryFrame m #[(.ref a1)] 1)) t := fun t k => castTop (ef_19 m a1) k
  obtain ⟨b2, T2, h2, kk2, t2, kb2, X2, e2, E2, hS, hk2, hZ, hown, Ex2, Co2, Va2, Ar2, lt2, lu2, CH2, Li2, Sf2, st2⟩ := ldcCH X0 hx hZ hown (hw _ (List.mem_of_getElem? (i := 91) rfl)) hwS e0 hS (Nat.le_refl _) hEL (by decide) H0 (vs := [(.int (111 : Int32)), (.int (112 : Int32)), (.int (101 : Int32)), (.int (114 : Int32)), (.int (97 : Int32)), (.int (116 : Int32)), (.int (105 : Int32)), (.int (111 : Int32)), (.int (110 : Int32))]) (z := (9 : Int32)) ⟨by decide, rfl⟩ (by decide) rfl (g := (mkF m 0 #[.val (.ref a1)] [])) rfl (hb hby d19_0) (n := 36) (by decide) (by decide) (by decide) (by decide)
  have Z2 : n0 ≤ h2.size := Nat.le_trans Z0 E2.1
  have K2 : Keep h0 h2 [] := (Keep.refl h0 []).ext E2
  obtain ⟨_, _, ⟨T3, L3, k3, n3⟩, -, X3, ⟨Lc3, hQ3, l3, y3, z3⟩, st3⟩ := Jvm.LawKit.callS X2 hx (y := (⟨"com/example/nto1/nto1/Identity", "checked", "(Ljava/lang/String;Ljava/lang/String;II)Ljava/lang/String;"⟩ : MethodName)) hown (mvT hZ (hw _ (List.mem_of_getElem? (i := 51) rfl))) (mvT hZ (hw _ (List.mem_of_getElem? (i := 52) rfl))) (mvT hZ (hw _ (List.mem_of_getElem? (i := 2) rfl))) (mvT hZ (hw _ (List.mem_of_getElem? (i := 53) rfl))) (by decide) (backOf (W := 0) (rm11 l Z a0 hw [] b2 a1 (1 : Int32) (128 : Int32) h2 n0 Z2 cs zc wf (own_Str_ext St E2) S_C hzc (X00.ext E2) S_F hwf hok h3 (own_h1 h1 h3) (own_h128 h3)) hZ (hw _ (List.mem_of_getElem? (i := 53) rfl)) (hw _ (List.mem_of_getElem? (i := 2) rfl)) (by decide) (by decide)) (g := (mkF m 7 #[.val (.ref a1)] [(.int (128 : Int32)), (.int (1 : Int32)), (.ref a1), (.ref b2)])) rfl (by rw [hml]; rfl) (argsL := [(.ref b2), (.ref a1), (.int (1 : Int32)), (.int (128 : Int32))]) (rest := []) (lenOf pd_19_10 rfl) rfl (by show 2 * 0 + _ ≤ _; exact Nat.le_of_eq rfl) (hb hby d19_7) (fun _ _ => ⟨rfl, e2, (by decide : 2 + 0 ≤ _), (by decide : 40 + 0 ≤ _)⟩)
  dsimp only [Pt.U, Pt.locs, Pt.cells, Pt.slots] at X3 l3 y3 z3 st3 hQ3
  subst l3 y3 z3
  obtain ⟨rfl, N3q, E3q⟩ := hQ3
  have K3q : Keep h2 T3.heap [] := by rw [E3q]; exact Keep.refl _ _
  have Z3 : n0 ≤ T3.heap.size := Nat.le_trans Z2 K3q.1
  have N3 := Fr.app N0 N3q
  have CHf : CHr Z consts_1 s.vm h0 T3.vm T3.heap := by rw [E3q]; exact CH2.trans (CHv.at X3 hZ hEL CH2.1)
  obtain ⟨fs, hr, hrun, hended, hRW⟩ := X3.leaveW hS (by rw [E3q]; exact hk2) (v := some (.ref a1)) (fun h => by rw [Bd.returns] at h; cases h)
  refine ⟨_, _, pre0 _ ?_, hrun, hended, _, _, rfl, ?_, (by rw [hh]; exact CHf), ⟨_, rfl⟩, hRW.2.1, hRW.2.2.1, hRW.2.2.2.mono (by decide) (by decide)⟩
  · show Steps p.tables e below (s₁.setTop (mkF m 0 #[.val (.ref a1)] [])) _
    refine st2 _ ?_
    show Steps p.tables e below (T2.setTop (mkF m 2 #[.val (.ref a1)] [(.ref b2)])) _
    refine XS.aloadN X2.here hx rfl (hb hby d19_2) rfl rfl ?_
    show Steps p.tables e below (T2.setTop (mkF m 3 #[.val (.ref a1)] [(.ref a1), (.ref b2)])) _
    refine XS.iconst X2.here hx rfl (hb hby d19_3) ?_
    show Steps p.tables e below (T2.setTop (mkF m 4 #[.val (.ref a1)] [(.int (1 : Int32)), (.ref a1), (.ref b2)])) _
    refine XS.sipush X2.here hx rfl (hb hby d19_4) ?_
    show Steps p.tables e below (T2.setTop (mkF m 7 #[.val (.ref a1)] [(.int (128 : Int32)), (.int (1 : Int32)), (.ref a1), (.ref b2)])) _
    refine st3 _ ?_
    show Steps p.tables e below (T3.setTop (mkF m 10 #[.val (.ref a1)] [(.ref a1)])) _
    jvm_step X3.here [X3.here.top, hx, (hb hby d19_10), X3.method', Bd.returns, Value.isRef, FieldType.isReference]
    first | (intro acts; rw [hr _ acts rfl rfl rfl]) | rw [hr _ _ rfl rfl rfl]
    exact Steps.refl _
  · show Q19 Z a1 h0 n0 _ T3.heap _
    exact ⟨rfl, N3, K2.trans K3q all0⟩
theorem d10_0 : decode prog_5_method_1_code 0 = .ok (.aload_n 0, 1) := by decide +kernel
theorem d10_1 : decode prog_5_method_1_code 1 = .ok (.invokespecial 1, 3) := by decide +kernel
theorem d10_4 : decode prog_5_method_1_code 4 = .ok (.aload_n 0, 1) := by decide +kernel
theorem d10_5 : decode prog_5_method_1_code 5 = .ok (.ldc 7, 2) := by decide +kernel
theorem d10_7 : decode prog_5_method_1_code 7 = .ok (.aload_n 1, 1) := by decide +kernel
theorem d10_8 : decode prog_5_method_1_code 8 = .ok (.iconst 0, 1) := by decide +kernel
theorem d10_9 : decode prog_5_method_1_code 9 = .ok (.sipush 128, 3) := by decide +kernel
theorem d10_12 : decode prog_5_method_1_code 12 = .ok (.invokestatic 11, 3) := by decide +kernel
theorem d10_15 : decode prog_5_method_1_code 15 = .ok (.putfield 15, 3) := by decide +kernel
theorem d10_18 : decode prog_5_method_1_code 18 = .ok (.aload_n 0, 1) := by decide +kernel
theorem d10_19 : decode prog_5_method_1_code 19 = .ok (.aload_n 2, 1) := by decide +kernel
theorem d10_20 : decode prog_5_method_1_code 20 = .ok (.invokestatic 18, 3) := by decide +kernel
theorem d10_23 : decode prog_5_method_1_code 23 = .ok (.putfield 22, 3) := by decide +kernel
theorem d10_26 : decode prog_5_method_1_code 26 = .ok (.aload_n 0, 1) := by decide +kernel
theorem d10_27 : decode prog_5_method_1_code 27 = .ok (.ldc 25, 2) := by decide +kernel
theorem d10_29 : decode prog_5_method_1_code 29 = .ok (.aload_n 3, 1) := by decide +kernel
theorem d10_30 : decode prog_5_method_1_code 30 = .ok (.iconst 1, 1) := by decide +kernel
theorem d10_31 : decode prog_5_method_1_code 31 = .ok (.sipush 255, 3) := by decide +kernel
theorem d10_34 : decode prog_5_method_1_code 34 = .ok (.invokestatic 11, 3) := by decide +kernel
theorem d10_37 : decode prog_5_method_1_code 37 = .ok (.putfield 27, 3) := by decide +kernel
theorem d10_40 : decode prog_5_method_1_code 40 = .ok (.return_, 1) := by decide +kernel
theorem pn_10 : plainName "com/example/nto1/nto1/Identity" = true := by first | (simp [plainName, overriddenIn]; done) | decide +kernel
theorem pd_10_10 : parseMethodDescriptor "(Ljava/lang/String;Ljava/lang/String;II)Ljava/lang/String;" = some ⟨[(.object "java/lang/String"), (.object "java/lang/String"), .int, .int], some (.object "java/lang/String")⟩ := by decide +kernel
theorem pd_10_17 : parseMethodDescriptor "(Ljava/lang/String;)Ljava/lang/String;" = some ⟨[(.object "java/lang/String")], some (.object "java/lang/String")⟩ := by decide +kernel
theorem ef_10 (m : MethodId) (x0 : Addr) (x1 : Addr) (x2 : Addr) (x3 : Addr) : entryFrame m #[(.ref x0), (.ref x1), (.ref x2), (.ref x3)] 4 = mkF m 0 #[.val (.ref x0), .val (.ref x1), .val (.ref x2), .val (.ref x3)] [] := by first | (simp [entryFrame, mkF, argsToLocals, Value.category]; done) | rfl
def Q10 (Z : State) (a1 : Addr) (a2 : Addr) (a3 : Addr) (a4 : Addr) (u_scope_a1 : Value) (u_operation_a1 : Value) (u_key_a1 : Value) (h0 : Heap) (n0 : Nat) (v : Option Value) (h : Heap) (L : List Loc) : Prop := v = none ∧ Fr n0 L ∧ Keep h0 h [a1] ∧ Exa Z h a1 "com/example/nto1/nto1/Identity" ∧ Fld Z h a1 "com/example/nto1/nto1/Identity" "scope" "Ljava/lang/String;" (.ref a2) ∧ Fld Z h a1 "com/example/nto1/nto1/Identity" "operation" "Ljava/lang/String;" (.ref a3) ∧ Fld Z h a1 "com/example/nto1/nto1/Identity" "key" "Ljava/lang/String;" (.ref a4)
set_option maxRecDepth 65536 in
set_option maxHeartbeats 40000000 in
theorem rm10 (l : Launch) (Z : State) (a0 : Array Value) (hw : ∀ d ∈ tables_1, d.before a0 Z = true) (ws : List Jvm.Cond) (a1 : Addr) (a2 : Addr) (a3 : Addr) (a4 : Addr) (u_scope_a1 : Value) (u_operation_a1 : Value) (u_key_a1 : Value) (h0 : Heap) (n0 : Nat) (Z0 : n0 ≤ h0.size) (E_a1 : Exa Z h0 a1 "com/example/nto1/nto1/Identity") (F_scope_a1 : Fld Z h0 a1 "com/example/nto1/nto1/Identity" "scope" "Ljava/lang/String;" u_scope_a1) (g_a1 : n0 ≤ a1) (F_operation_a1 : Fld Z h0 a1 "com/example/nto1/nto1/Identity" "operation" "Ljava/lang/String;" u_operation_a1) (F_key_a1 : Fld Z h0 a1 "com/example/nto1/nto1/Identity" "key" "Ljava/lang/String;" u_key_a1) (cs2 cs3 cs4 : List Int32) (zc : Int32) (wf : Value) (St2 : own_Str Z h0 a2 cs2) (hok2 : ∀ c ∈ cs2, own_ok c) (hl2 : cs2.length ≤ 3) (St3 : own_Str Z h0 a3 cs3) (hok3 : ∀ c ∈ cs3, own_ok c) (hl3 : cs3.length ≤ 3) (St4 : own_Str Z h0 a4 cs4) (hok4 : ∀ c ∈ cs4, own_ok c) (hl4 : cs4.length ≤ 3) (h13 : 1 ≤ cs3.length) (h14 : 1 ≤ cs4.length) (S_C : Sta Z Z.heap "java/lang/String" "COMPACT_STRINGS" "Z" (.int zc)) (hzc : ¬ zc = 0) (X00 : Old Z n0 h0) (S_F : Sta Z Z.heap "jdk/internal/util/Preconditions" "SIOOBE_FORMATTER" "Ljava/util/function/BiFunction;" wf) (hwf : wf.isRef = true) :
    MetFree l (⟨"com/example/nto1/nto1/Identity", "<init>", "(Ljava/lang/String;Ljava/lang/String;Ljava/lang/String;)V"⟩ : MethodName) (head1 (Jvm.Cond.code (⟨"com/example/nto1/nto1/Identity", "<init>", "(Ljava/lang/String;Ljava/lang/String;Ljava/lang/String;)V"⟩ : MethodName) prog_5_method_1_code 4 none :: ws) ({ frames := 6, cells := 6, slots := 80, locals := 85 } : Room)) (fun a U => a = #[(.ref a1), (.ref a2), (.ref a3), (.ref a4)] ∧ Z.Warmed39 U.vm ∧ U.heap = h0 ∧ CHv Z consts_1 U.vm h0 ∧ True) (fun _ _ _ _ _ => True) (fun _ U o U' => ∃ v L, o = .returned v ∧ Q10 Z a1 a2 a3 a4 u_scope_a1 u_operation_a1 u_key_a1 h0 n0 v U'.heap L ∧ CHr Z consts_1 U.vm U.heap U'.vm U'.heap ∧ ReturnedEndW U o U' L ({ frames := 6, cells := 6, slots := 80, locals := 85 } : Room).cells ({ frames := 6, cells := 6, slots := 80, locals := 85 } : Room).slots) := by
  refine MetFree.of_bodySF (plainFor_of_name pn_10) hisR ?_
  intro p e s m args below meth c s₁ Bd hml0 hP hK
  obtain ⟨rfl, hZ, hh, H0, Sf0⟩ := hP
  have hx := Bd.exec
  have hby := Bd.bytes
  have hml : c.maxLocals = 4 := hml0
  have hown : s.vm.findClass "com/example/nto1/nto1/Identity" = some m.cls := findClass_of_methodNamed Bd.named
  have hnm := (name_of_methodNamed Bd.named Bd.method).1
  have X0 : Stand p l e ({ frames := 6, cells := 6, slots := 80, locals := 85 } : Room) (s.setVm s.vm) m #[(.ref a1), (.ref a2), (.ref a3), (.ref a4)] below meth c s₁ [] 0 0 := Stand.of_body Bd
  have e0 : s₁.heap = h0 := by rw [← hh, Bd.state]; rfl
  have N0 := Fr.nil n0
  have hS : s.Since s.vm h0.size := (State.WarmedH.refl s).since h0.size
  have hwS : ∀ a ∈ Bundle.stringAtoms, a.before a0 Z = true := fun d hd => hw d ((by decide +kernel : ∀ d ∈ Bundle.stringAtoms, d ∈ tables_1) d hd)
  have hEL := own_EL hw
  have hZ0 := hZ
  have hown0 := hown
  have pre0 : ∀ t, Steps p.tables e below (s₁.setTop (mkF m 0 #[.val (.ref a1), .val (.ref a2), .val (.ref a3), .val (.ref a4)] [])) t → Steps p.tables e below (s₁.setTop (entryFrame m #[(.ref a1), (.ref a2), (.ref a3), (.ref a4)] 4)) t := fun t k => castTop (ef_10 m a1 a2 a3 a4) k
  obtain ⟨T5, X5, e5, st5⟩ := initO X0 hx hZ hown (hw _ (List.mem_of_getElem? (i := 49) rfl)) (hw _ (List.mem_of_getElem? (i := 31) rfl)) (hw _ (List.mem_of_getElem? (i := 32) rfl)) e0 (g := (mkF m 1 #[.val (.ref a1), .val (.ref a2), .val (.ref a3), .val (.ref a4)] [(.ref a1)])) rfl (by rw [hml]; rfl) rfl (hb hby d10_1) (by decide) (W := 0) (by show 2 * 0 + _ ≤ _; exact Nat.le_of_eq rfl) (by decide)
  obtain ⟨b6, T6, h6, kk6, t6, kb6, X6, e6, E6, hS, hk6, hZ, hown, Ex6, Co6, Va6, Ar6, lt6, lu6, CH6, Li6, Sf6, st6⟩ := ldcCH X5 hx hZ hown (hw _ (List.mem_of_getElem? (i := 50) rfl)) hwS e5 hS (Nat.le_refl _) hEL (by decide) H0 (vs := [(.int (115 : Int32)), (.int (99 : Int32)), (.int (111 : Int32)), (.int (112 : Int32)), (.int (101 : Int32))]) (z := (5 : Int32)) ⟨by decide, rfl⟩ (by decide) rfl (g := (mkF m 5 #[.val (.ref a1), .val (.ref a2), .val (.ref a3), .val (.ref a4)] [(.ref a1)])) rfl (hb hby d10_5) (n := 20) (by decide) (by decide) (by decide) (by decide)
  have Z6 : n0 ≤ h6.size := Nat.le_trans Z0 E6.1
  have K6 : Keep h0 h6 [a1] := (Keep.refl h0 [a1]).ext E6
  obtain ⟨_, _, ⟨T7, L7, k7, n7⟩, -, X7, ⟨Lc7, hQ7, l7, y7, z7⟩, st7⟩ := Jvm.LawKit.callS X6 hx (y := (⟨"com/example/nto1/nto1/Identity", "checked", "(Ljava/lang/String;Ljava/lang/String;II)Ljava/lang/String;"⟩ : MethodName)) hown (mvT hZ (hw _ (List.mem_of_getElem? (i := 51) rfl))) (mvT hZ (hw _ (List.mem_of_getElem? (i := 52) rfl))) (mvT hZ (hw _ (List.mem_of_getElem? (i := 2) rfl))) (mvT hZ (hw _ (List.mem_of_getElem? (i := 53) rfl))) (by decide) (backOf (W := 1) (rm11 l Z a0 hw [] b6 a2 (0 : Int32) (128 : Int32) h6 n0 Z6 cs2 zc wf (own_Str_ext St2 E6) S_C hzc (X00.ext E6) S_F hwf hok2 hl2 (own_h0 hl2) (own_h128 hl2)) hZ (hw _ (List.mem_of_getElem? (i := 53) rfl)) (hw _ (List.mem_of_getElem? (i := 2) rfl)) (by decide) (by decide)) (g := (mkF m 12 #[.val (.ref a1), .val (.ref a2), .val (.ref a3), .val (.ref a4)] [(.int (128 : Int32)), (.int (0 : Int32)), (.ref a2), (.ref b6), (.ref a1)])) rfl (by rw [hml]; rfl) (argsL := [(.ref b6), (.ref a2), (.int (0 : Int32)), (.int (128 : Int32))]) (rest := [(.ref a1)]) (lenOf pd_10_10 rfl) rfl (by show 2 * 0 + _ ≤ _; exact Nat.le_of_eq rfl) (hb hby d10_12) (fun _ _ => ⟨rfl, e6, (by decide : 2 + 0 ≤ _), (by decide : 24 + 0 ≤ _)⟩)
  dsimp only [Pt.U, Pt.locs, Pt.cells, Pt.slots] at X7 l7 y7 z7 st7 hQ7
  subst l7 y7 z7
  obtain ⟨rfl, N7q, E7q⟩ := hQ7
  have K7q : Keep h6 T7.heap [] := by rw [E7q]; exact Keep.refl _ _
  have KK7 : Keep h0 T7.heap [a1] := (K6).trans K7q all0
  have Z7 : n0 ≤ T7.heap.size := Nat.le_trans Z6 K7q.1
  have N7 := Fr.app N0 N7q
  obtain ⟨T8, h8, X8, e8, W8, st8⟩ := putF X7 hx hZ hown (host := "") (Or.inl (hw _ (List.mem_of_getElem? (i := 86) rfl))) Via.refl rfl ((F_scope_a1.ext E6).keep K7q nin0) ((E_a1.ext E6).keep K7q) (Or.inr ⟨(hw _ (List.mem_of_getElem? (i := 87) rfl)), rfl, hnm⟩) (hw _ (List.mem_of_getElem? (i := 1) rfl)) (ty := (.object "java/lang/String")) (by decide) rfl rfl (g := (mkF m 15 #[.val (.ref a1), .val (.ref a2), .val (.ref a3), .val (.ref a4)] [(.ref a2), (.ref a1)])) rfl rfl (hb hby d10_15)
  have Z8 : n0 ≤ h8.size := Nat.le_trans Z7 (Keep.of_wr W8).1
  have Fw8 := ((F_scope_a1.ext E6).keep K7q nin0).same W8      -- the field now holds (.ref a2)
  have K8 : Keep h0 h8 [a1] := (KK7).wr W8 (Or.inl (List.mem_of_getElem? (i := 0) rfl))
  have CW8 : CHr Z consts_1 T6.vm T7.heap T6.vm h8 := CHr.wr W8 (Safe.exa hZ.alike ((E_a1.ext E6).keep K7q) (by decide) (by decide)) (by rw [E7q]; exact CH6.1)
  have CC8 : CHr Z consts_1 s.vm h0 T6.vm h8 := CH6.trans (by rw [← E7q]; exact CW8)
  have own_St3 := own_Str_wr (own_Str_keep (own_Str_ext St3 E6) K7q) W8 ((E_a1.ext E6).keep K7q) (hw _ (List.mem_of_getElem? (i := 1) rfl))
  have own_St4 := own_Str_wr (own_Str_keep (own_Str_ext St4 E6) K7q) W8 ((E_a1.ext E6).keep K7q) (hw _ (List.mem_of_getElem? (i := 1) rfl))
  have N8 := Fr.snoc X8 N7 g_a1
  have CE2_a1 := (((E_a1.ext E6).keep K7q).wr W8)
  obtain ⟨_, _, ⟨T9, L9, k9, n9⟩, -, X9, hS9, hg9, ⟨Lc9, hQ9, l9, y9, z9, CH9⟩, st9⟩ := callSS X8 hx (y := (⟨"com/example/nto1/nto1/Identity", "checkedOperation", "(Ljava/lang/String;)Ljava/lang/String;"⟩ : MethodName)) hown (mvT hZ (hw _ (List.mem_of_getElem? (i := 88) rfl))) (mvT hZ (hw _ (List.mem_of_getElem? (i := 89) rfl))) (mvT hZ (hw _ (List.mem_of_getElem? (i := 2) rfl))) (mvT hZ (hw _ (List.mem_of_getElem? (i := 90) rfl))) (by decide) (own_backSH (W := 1) (EL := consts_1) (fun _ => True) (rm19 l Z a0 hw [] a3 h8 n0 Z8 cs3 zc wf own_St3 S_C hzc (((X00.ext E6).keep K7q all0).wr W8 g_a1) S_F hwf hok3 hl3 h13) hZ (hw _ (List.mem_of_getElem? (i := 90) rfl)) (hw _ (List.mem_of_getElem? (i := 2) rfl)) (by decide) (by decide) hEL CC8.1 (fun _ _ => trivial)) (g := (mkF m 20 #[.val (.ref a1), .val (.ref a2), .val (.ref a3), .val (.ref a4)] [(.ref a3), (.ref a1)])) rfl (by rw [hml]; rfl) (argsL := [(.ref a3)]) (rest := [(.ref a1)]) (lenOf pd_10_17 rfl) rfl (by show 2 * 0 + _ ≤ _; exact Nat.le_of_eq rfl) (hb hby d10_20) (fun _ _ => ⟨rfl, e8, (by decide : 2 + 2 ≤ _), (by decide : 24 + 40 ≤ _)⟩)
  dsimp only [Pt.U, Pt.locs, Pt.cells, Pt.slots] at X9 hS9 hg9 l9 y9 z9 st9 hQ9 CH9
  subst l9 y9 z9
  obtain ⟨X9, hS, hZ, hown⟩ := rebS hS (by rw [e8]; exact Nat.le_trans (by rw [E7q]; exact hk6) (Keep.of_wr W8).1) X9 hS9 hg9 hZ hown
  obtain ⟨rfl, N9q, K9q⟩ := hQ9
  have KK9 : Keep h0 T9.heap [a1] := (K8).trans K9q all0
  have Z9 : n0 ≤ T9.heap.size := Nat.le_trans Z8 K9q.1
  have N9 := Fr.app N8 N9q
  obtain ⟨T10, h10, X10, e10, W10, st10⟩ := putF X9 hx hZ hown (host := "") (Or.inl (hw _ (List.mem_of_getElem? (i := 110) rfl))) Via.refl rfl ((((F_operation_a1.ext E6).keep K7q nin0).other W8 (Or.inr (slot_ne (Or.inr (hw _ (List.mem_of_getElem? (i := 111) rfl))) (Or.inr (hw _ (List.mem_of_getElem? (i := 87) rfl))) (by decide) (t := (.object "java/lang/String")) (t' := (.object "java/lang/String")) (by decide) (by decide)))).keep K9q nin0) ((((E_a1.ext E6).keep K7q).wr W8).keep K9q) (Or.inr ⟨(hw _ (List.mem_of_getElem? (i := 111) rfl)), rfl, hnm⟩) (hw _ (List.mem_of_getElem? (i := 1) rfl)) (ty := (.object "java/lang/String")) (by decide) rfl rfl (g := (mkF m 23 #[.val (.ref a1), .val (.ref a2), .val (.ref a3), .val (.ref a4)] [(.ref a3), (.ref a1)])) rfl rfl (hb hby d10_23)
  have Z10 : n0 ≤ h10.size := Nat.le_trans Z9 (Keep.of_wr W10).1
  have Fw10 := ((((F_operation_a1.ext E6).keep K7q nin0).other W8 (Or.inr (slot_ne (Or.inr (hw _ (List.mem_of_getElem? (i := 111) rfl))) (Or.inr (hw _ (List.mem_of_getElem? (i := 87) rfl))) (by decide) (t := (.object "java/lang/String")) (t' := (.object "java/lang/String")) (by decide) (by decide)))).keep K9q nin0).same W10      -- the field now holds (.ref a3)
  have K10 : Keep h0 h10 [a1] := (KK9).wr W10 (Or.inl (List.mem_of_getElem? (i := 0) rfl))
  have CC10 : CHr Z consts_1 s.vm h0 T9.vm h10 := (CC8.trans CH9).trans (CHr.wr W10 (Safe.exa hZ.alike ((((E_a1.ext E6).keep K7q).wr W8).keep K9q) (by decide) (by decide)) CH9.1)
  have own_St5 := own_Str_wr (own_Str_keep own_St4 K9q) W10 ((((E_a1.ext E6).keep K7q).wr W8).keep K9q) (hw _ (List.mem_of_getElem? (i := 1) rfl))
  have N10 := Fr.snoc X10 N9 g_a1
  obtain ⟨b11, T11, h11, kk11, t11, kb11, X11, e11, E11, hS, hk11, hZ, hown, Ex11, Co11, Va11, Ar11, lt11, lu11, CH11, Li11, Sf11, st11⟩ := ldcCH X10 hx hZ hown (hw _ (List.mem_of_getElem? (i := 112) rfl)) hwS e10 hS (Keep.of_wr W10).1 hEL (by decide) CC10.1 (vs := [(.int (107 : Int32)), (.int (101 : Int32)), (.int (121 : Int32))]) (z := (3 : Int32)) ⟨by decide, rfl⟩ (by decide) rfl (g := (mkF m 27 #[.val (.ref a1), .val (.ref a2), .val (.ref a3), .val (.ref a4)] [(.ref a1)])) rfl (hb hby d10_27) (n := 12) (by decide) (by decide) (by decide) (by decide)
  have Z11 : n0 ≤ h11.size := Nat.le_trans Z10 E11.1
  have K11 : Keep h0 h11 [a1] := K10.ext E11
  have CE3_a1 := ((((((E_a1.ext E6).keep K7q).wr W8).keep K9q).wr W10).ext E11)
  obtain ⟨_, _, ⟨T12, L12, k12, n12⟩, -, X12, ⟨Lc12, hQ12, l12, y12, z12⟩, st12⟩ := Jvm.LawKit.callS X11 hx (y := (⟨"com/example/nto1/nto1/Identity", "checked", "(Ljava/lang/String;Ljava/lang/String;II)Ljava/lang/String;"⟩ : MethodName)) hown (mvT hZ (hw _ (List.mem_of_getElem? (i := 51) rfl))) (mvT hZ (hw _ (List.mem_of_getElem? (i := 52) rfl))) (mvT hZ (hw _ (List.mem_of_getElem? (i := 2) rfl))) (mvT hZ (hw _ (List.mem_of_getElem? (i := 53) rfl))) (by decide) (backOf (W := 1) (rm11 l Z a0 hw [] b11 a4 (1 : Int32) (255 : Int32) h11 n0 Z11 cs4 zc wf (own_Str_ext own_St5 E11) S_C hzc (((((X00.ext E6).keep K7q all0).wr W8 g_a1).keep K9q all0).wr W10 g_a1 |>.ext E11) S_F hwf hok4 hl4 (own_h1 h14 hl4) (own_h255 hl4)) hZ (hw _ (List.mem_of_getElem? (i := 53) rfl)) (hw _ (List.mem_of_getElem? (i := 2) rfl)) (by decide) (by decide)) (g := (mkF m 34 #[.val (.ref a1), .val (.ref a2), .val (.ref a3), .val (.ref a4)] [(.int (255 : Int32)), (.int (1 : Int32)), (.ref a4), (.ref b11), (.ref a1)])) rfl (by rw [hml]; rfl) (argsL := [(.ref b11), (.ref a4), (.int (1 : Int32)), (.int (255 : Int32))]) (rest := [(.ref a1)]) (lenOf pd_10_10 rfl) rfl (by show 2 * 0 + _ ≤ _; exact Nat.le_of_eq rfl) (hb hby d10_34) (fun _ _ => ⟨rfl, e11, (by decide : 6 + 0 ≤ _), (by decide : 80 + 0 ≤ _)⟩)
  dsimp only [Pt.U, Pt.locs, Pt.cells, Pt.slots] at X12 l12 y12 z12 st12 hQ12
  subst l12 y12 z12
  obtain ⟨rfl, N12q, E12q⟩ := hQ12
  have K12q : Keep h11 T12.heap [] := by rw [E12q]; exact Keep.refl _ _
  have KK12 : Keep h0 T12.heap [a1] := (K11).trans K12q all0
  have Z12 : n0 ≤ T12.heap.size := Nat.le_trans Z11 K12q.1
  have N12 := Fr.app N10 N12q
  obtain ⟨T13, h13, X13, e13, W13, st13⟩ := putF X12 hx hZ hown (host := "") (Or.inl (hw _ (List.mem_of_getElem? (i := 113) rfl))) Via.refl rfl (((((((F_key_a1.ext E6).keep K7q nin0).other W8 (Or.inr (slot_ne (Or.inr (hw _ (List.mem_of_getElem? (i := 114) rfl))) (Or.inr (hw _ (List.mem_of_getElem? (i := 87) rfl))) (by decide) (t := (.object "java/lang/String")) (t' := (.object "java/lang/String")) (by decide) (by decide)))).keep K9q nin0).other W10 (Or.inr (slot_ne (Or.inr (hw _ (List.mem_of_getElem? (i := 114) rfl))) (Or.inr (hw _ (List.mem_of_getElem? (i := 111) rfl))) (by decide) (t := (.object "java/lang/String")) (t' := (.object "java/lang/String")) (by decide) (by decide)))).ext E11).keep K12q nin0) (((((((E_a1.ext E6).keep K7q).wr W8).keep K9q).wr W10).ext E11).keep K12q) (Or.inr ⟨(hw _ (List.mem_of_getElem? (i := 114) rfl)), rfl, hnm⟩) (hw _ (List.mem_of_getElem? (i := 1) rfl)) (ty := (.object "java/lang/String")) (by decide) rfl rfl (g := (mkF m 37 #[.val (.ref a1), .val (.ref a2), .val (.ref a3), .val (.ref a4)] [(.ref a4), (.ref a1)])) rfl rfl (hb hby d10_37)
  have Z13 : n0 ≤ h13.size := Nat.le_trans Z12 (Keep.of_wr W13).1
  have Fw13 := (((((((F_key_a1.ext E6).keep K7q nin0).other W8 (Or.inr (slot_ne (Or.inr (hw _ (List.mem_of_getElem? (i := 114) rfl))) (Or.inr (hw _ (List.mem_of_getElem? (i := 87) rfl))) (by decide) (t := (.object "java/lang/String")) (t' := (.object "java/lang/String")) (by decide) (by decide)))).keep K9q nin0).other W10 (Or.inr (slot_ne (Or.inr (hw _ (List.mem_of_getElem? (i := 114) rfl))) (Or.inr (hw _ (List.mem_of_getElem? (i := 111) rfl))) (by decide) (t := (.object "java/lang/String")) (t' := (.object "java/lang/String")) (by decide) (by decide)))).ext E11).keep K12q nin0).same W13      -- the field now holds (.ref a4)
  have K13 : Keep h0 h13 [a1] := (KK12).wr W13 (Or.inl (List.mem_of_getElem? (i := 0) rfl))
  have CW13 : CHr Z consts_1 T11.vm T12.heap T11.vm h13 := CHr.wr W13 (Safe.exa hZ.alike (((((((E_a1.ext E6).keep K7q).wr W8).keep K9q).wr W10).ext E11).keep K12q) (by decide) (by decide)) (by rw [E12q]; exact CH11.1)
  have CC13 : CHr Z consts_1 s.vm h0 T11.vm h13 := (CC10.trans CH11).trans (by rw [← E12q]; exact CW13)
  have N13 := Fr.snoc X13 N12 g_a1
  have CHf : CHr Z consts_1 s.vm h0 T13.vm T13.heap := by rw [e13]; exact CC13.trans (CHv.at X13 hZ hEL CC13.1)
  obtain ⟨fs, hr, hrun, hended, hRW⟩ := X13.leaveW hS (by rw [e13]; exact Nat.le_trans (by rw [E12q]; exact hk11) (Keep.of_wr W13).1) (v := none) (fun _ => rfl)
  refine ⟨_, _, pre0 _ ?_, hrun, hended, _, _, rfl, ?_, (by rw [hh]; exact CHf), ⟨_, rfl⟩, hRW.2.1, hRW.2.2.1, hRW.2.2.2.mono (by decide) (by decide)⟩
  · show Steps p.tables e below (s₁.setTop (mkF m 0 #[.val (.ref a1), .val (.ref a2), .val (.ref a3), .val (.ref a4)] [])) _
    refine XS.aloadN X0.here hx rfl (hb hby d10_0) rfl rfl ?_
    show Steps p.tables e below (s₁.setTop (mkF m 1 #[.val (.ref a1), .val (.ref a2), .val (.ref a3), .val (.ref a4)] [(.ref a1)])) _
    refine st5 _ ?_
    show Steps p.tables e below (T5.setTop (mkF m 4 #[.val (.ref a1), .val (.ref a2), .val (.ref a3), .val (.ref a4)] [])) _
    refine XS.aloadN X5.here hx rfl (hb hby d10_4) rfl rfl ?_
    show Steps p.tables e below (T5.setTop (mkF m 5 #[.val (.ref a1), .val (.ref a2), .val (.ref a3), .val (.ref a4)] [(.ref a1)])) _
    refine st6 _ ?_
    show Steps p.tables e below (T6.setTop (mkF m 7 #[.val (.ref a1), .val (.ref a2), .val (.ref a3), .val (.ref a4)] [(.ref b6), (.ref a1)])) _
    refine XS.aloadN X6.here hx rfl (hb hby d10_7) rfl rfl ?_
    show Steps p.tables e below (T6.setTop (mkF m 8 #[.val (.ref a1), .val (.ref a2), .val (.ref a3), .val (.ref a4)] [(.ref a2), (.ref b6), (.ref a1)])) _
    refine XS.iconst X6.here hx rfl (hb hby d10_8) ?_
    show Steps p.tables e below (T6.setTop (mkF m 9 #[.val (.ref a1), .val (.ref a2), .val (.ref a3), .val (.ref a4)] [(.int (0 : Int32)), (.ref a2), (.ref b6), (.ref a1)])) _
    refine XS.sipush X6.here hx rfl (hb hby d10_9) ?_
    show Steps p.tables e below (T6.setTop (mkF m 12 #[.val (.ref a1), .val (.ref a2), .val (.ref a3), .val (.ref a4)] [(.int (128 : Int32)), (.int (0 : Int32)), (.ref a2), (.ref b6), (.ref a1)])) _
    refine st7 _ ?_
    show Steps p.tables e below (T7.setTop (mkF m 15 #[.val (.ref a1), .val (.ref a2), .val (.ref a3), .val (.ref a4)] [(.ref a2), (.ref a1)])) _
    refine st8 _ ?_
    show Steps p.tables e below (T8.setTop (mkF m 18 #[.val (.ref a1), .val (.ref a2), .val (.ref a3), .val (.ref a4)] [])) _
    refine XS.aloadN X8.here hx rfl (hb hby d10_18) rfl rfl ?_
    show Steps p.tables e below (T8.setTop (mkF m 19 #[.val (.ref a1), .val (.ref a2), .val (.ref a3), .val (.ref a4)] [(.ref a1)])) _
    refine XS.aloadN X8.here hx rfl (hb hby d10_19) rfl rfl ?_
    show Steps p.tables e below (T8.setTop (mkF m 20 #[.val (.ref a1), .val (.ref a2), .val (.ref a3), .val (.ref a4)] [(.ref a3), (.ref a1)])) _
    refine st9.trans ?_
    show Steps p.tables e below (T9.setTop (mkF m 23 #[.val (.ref a1), .val (.ref a2), .val (.ref a3), .val (.ref a4)] [(.ref a3), (.ref a1)])) _
    refine st10 _ ?_
    show Steps p.tables e below (T10.setTop (mkF m 26 #[.val (.ref a1), .val (.ref a2), .val (.ref a3), .val (.ref a4)] [])) _
    refine XS.aloadN X10.here hx rfl (hb hby d10_26) rfl rfl ?_
    show Steps p.tables e below (T10.setTop (mkF m 27 #[.val (.ref a1), .val (.ref a2), .val (.ref a3), .val (.ref a4)] [(.ref a1)])) _
    refine st11 _ ?_
    show Steps p.tables e below (T11.setTop (mkF m 29 #[.val (.ref a1), .val (.ref a2), .val (.ref a3), .val (.ref a4)] [(.ref b11), (.ref a1)])) _
    refine XS.aloadN X11.here hx rfl (hb hby d10_29) rfl rfl ?_
    show Steps p.tables e below (T11.setTop (mkF m 30 #[.val (.ref a1), .val (.ref a2), .val (.ref a3), .val (.ref a4)] [(.ref a4), (.ref b11), (.ref a1)])) _
    refine XS.iconst X11.here hx rfl (hb hby d10_30) ?_
    show Steps p.tables e below (T11.setTop (mkF m 31 #[.val (.ref a1), .val (.ref a2), .val (.ref a3), .val (.ref a4)] [(.int (1 : Int32)), (.ref a4), (.ref b11), (.ref a1)])) _
    refine XS.sipush X11.here hx rfl (hb hby d10_31) ?_
    show Steps p.tables e below (T11.setTop (mkF m 34 #[.val (.ref a1), .val (.ref a2), .val (.ref a3), .val (.ref a4)] [(.int (255 : Int32)), (.int (1 : Int32)), (.ref a4), (.ref b11), (.ref a1)])) _
    refine st12 _ ?_
    show Steps p.tables e below (T12.setTop (mkF m 37 #[.val (.ref a1), .val (.ref a2), .val (.ref a3), .val (.ref a4)] [(.ref a4), (.ref a1)])) _
    refine st13 _ ?_
    show Steps p.tables e below (T13.setTop (mkF m 40 #[.val (.ref a1), .val (.ref a2), .val (.ref a3), .val (.ref a4)] [])) _
    exact X13.returnOut hx Bd.returns (hb hby d10_40) hr
  · show Q10 Z a1 a2 a3 a4 u_scope_a1 u_operation_a1 u_key_a1 h0 n0 _ T13.heap _
    rw [e13]
    exact ⟨rfl, N13, K13, (((((((E_a1.ext E6).keep K7q).wr W8).keep K9q).wr W10).ext E11).keep K12q).wr W13, ((((Fw8.keep K9q nin0).other W10 (Or.inr (slot_ne (Or.inr (hw _ (List.mem_of_getElem? (i := 87) rfl))) (Or.inr (hw _ (List.mem_of_getElem? (i := 111) rfl))) (by decide) (t := (.object "java/lang/String")) (t' := (.object "java/lang/String")) (by decide) (by decide)))).ext E11).keep K12q nin0).other W13 (Or.inr (slot_ne (Or.inr (hw _ (List.mem_of_getElem? (i := 87) rfl))) (Or.inr (hw _ (List.mem_of_getElem? (i := 114) rfl))) (by decide) (t := (.object "java/lang/String")) (t' := (.object "java/lang/String")) (by decide) (by decide))), ((Fw10.ext E11).keep K12q nin0).other W13 (Or.inr (slot_ne (Or.inr (hw _ (List.mem_of_getElem? (i := 111) rfl))) (Or.inr (hw _ (List.mem_of_getElem? (i := 114) rfl))) (by decide) (t := (.object "java/lang/String")) (t' := (.object "java/lang/String")) (by decide) (by decide))), Fw13⟩
theorem d1_0 : decode method_5_code 0 = .ok (.iload_n 0, 1) := by decide +kernel
theorem d1_1 : decode method_5_code 1 = .ok (.iload_n 1, 1) := by decide +kernel
theorem d1_2 : decode method_5_code 2 = .ok (.invokestatic 26, 3) := by decide +kernel
theorem d1_5 : decode method_5_code 5 = .ok (.istore_n 2, 1) := by decide +kernel
theorem d1_6 : decode method_5_code 6 = .ok (.iload_n 0, 1) := by decide +kernel
theorem d1_7 : decode method_5_code 7 = .ok (.iconst 2, 1) := by decide +kernel
theorem d1_8 : decode method_5_code 8 = .ok (.iushr, 1) := by decide +kernel
theorem d1_9 : decode method_5_code 9 = .ok (.invokestatic 30, 3) := by decide +kernel
theorem d1_12 : decode method_5_code 12 = .ok (.istore_n 3, 1) := by decide +kernel
theorem d1_13 : decode method_5_code 13 = .ok (.iload_n 0, 1) := by decide +kernel
theorem d1_14 : decode method_5_code 14 = .ok (.iconst 4, 1) := by decide +kernel
theorem d1_15 : decode method_5_code 15 = .ok (.iushr, 1) := by decide +kernel
theorem d1_16 : decode method_5_code 16 = .ok (.invokestatic 30, 3) := by decide +kernel
theorem d1_19 : decode method_5_code 19 = .ok (.istore 4, 2) := by decide +kernel
theorem d1_21 : decode method_5_code 21 = .ok (.iload_n 0, 1) := by decide +kernel
theorem d1_22 : decode method_5_code 22 = .ok (.bipush 6, 2) := by decide +kernel
theorem d1_24 : decode method_5_code 24 = .ok (.iushr, 1) := by decide +kernel
theorem d1_25 : decode method_5_code 25 = .ok (.invokestatic 30, 3) := by decide +kernel
theorem d1_28 : decode method_5_code 28 = .ok (.istore 5, 2) := by decide +kernel
theorem d1_30 : decode method_5_code 30 = .ok (.iload_n 2, 1) := by decide +kernel
theorem d1_31 : decode method_5_code 31 = .ok (.ifCond .ne 6, 3) := by decide +kernel
theorem d1_34 : decode method_5_code 34 = .ok (.ldc 34, 2) := by decide +kernel
theorem d1_36 : decode method_5_code 36 = .ok (.areturn, 1) := by decide +kernel
theorem pn_1 : plainName "com/example/nto1/nto1/IdentityEqualsPinLaw" = true := by first | (simp [plainName, overriddenIn]; done) | decide +kernel
theorem pd_1_1 : parseMethodDescriptor "(II)I" = some ⟨[.int, .int], some .int⟩ := by decide +kernel
theorem pd_1_2 : parseMethodDescriptor "(I)C" = some ⟨[.int], some .char⟩ := by decide +kernel
theorem ef_1 (m : MethodId) (x0 : Int32) (x1 : Int32) : entryFrame m #[(.int x0), (.int x1)] 6 = mkF m 0 #[.val (.int x0), .val (.int x1), .unset, .unset, .unset, .unset] [] := by first | (simp [entryFrame, mkF, argsToLocals, Value.category]; done) | rfl
def Q1 (Z : State) (p1 : Int32) (p2 : Int32) (h0 : Heap) (n0 : Nat) (v : Option Value) (h : Heap) (L : List Loc) : Prop := ∃ b : Addr, v = some (.ref b) ∧ Fr n0 L ∧ Keep h0 h [] ∧ own_Str Z h b (own_part p1 p2)
set_option maxRecDepth 65536 in
set_option maxHeartbeats 40000000 in
theorem rm1a (l : Launch) (Z : State) (a0 : Array Value) (hw : ∀ d ∈ tables_1, d.before a0 Z = true) (ws : List Jvm.Cond) (p1 : Int32) (p2 : Int32) (h0 : Heap) (n0 : Nat) (Z0 : n0 ≤ h0.size) (zc : Int32) (S_C : Sta Z Z.heap "java/lang/String" "COMPACT_STRINGS" "Z" (.int zc)) (hzc : ¬ zc = 0) (X00 : Old Z n0 h0) (q0 : own_len p1 p2 = 0) :
    MetFree l (⟨"com/example/nto1/nto1/IdentityEqualsPinLaw", "part", "(II)Ljava/lang/String;"⟩ : MethodName) (head1 (Jvm.Cond.code (⟨"com/example/nto1/nto1/IdentityEqualsPinLaw", "part", "(II)Ljava/lang/String;"⟩ : MethodName) method_5_code 6 (some (.object "java/lang/String")) :: ws) ({ frames := 4, cells := 3, slots := 10, locals := 66 } : Room)) (fun a U => a = #[(.int p1), (.int p2)] ∧ Z.Warmed39 U.vm ∧ U.heap = h0 ∧ CHv Z consts_1 U.vm h0 ∧ True) (fun _ _ _ _ _ => True) (fun _ U o U' => ∃ v L, o = .returned v ∧ Q1 Z p1 p2 h0 n0 v U'.heap L ∧ CHr Z consts_1 U.vm U.heap U'.vm U'.heap ∧ ReturnedEndW U o U' L ({ frames := 4, cells := 3, slots := 10, locals := 66 } : Room).cells ({ frames := 4, cells := 3, slots := 10, locals := 66 } : Room).slots) := by
  refine MetFree.of_bodySF (plainFor_of_name pn_1) hisR ?_
  intro p e s m args below meth c s₁ Bd hml0 hP hK
  obtain ⟨rfl, hZ, hh, H0, Sf0⟩ := hP
  have hx := Bd.exec
  have hby := Bd.bytes
  have hml : c.maxLocals = 6 := hml0
  have hown : s.vm.findClass "com/example/nto1/nto1/IdentityEqualsPinLaw" = some m.cls := findClass_of_methodNamed Bd.named
  have hnm := (name_of_methodNamed Bd.named Bd.method).1
  have X0 : Stand p l e ({ frames := 4, cells := 3, slots := 10, locals := 66 } : Room) (s.setVm s.vm) m #[(.int p1), (.int p2)] below meth c s₁ [] 0 0 := Stand.of_body Bd
  have e0 : s₁.heap = h0 := by rw [← hh, Bd.state]; rfl
  have N0 := Fr.nil n0
  have hS : s.Since s.vm h0.size := (State.WarmedH.refl s).since h0.size
  have hwS : ∀ a ∈ Bundle.stringAtoms, a.before a0 Z = true := fun d hd => hw d ((by decide +kernel : ∀ d ∈ Bundle.stringAtoms, d ∈ tables_1) d hd)
  have hEL := own_EL hw
  have hZ0 := hZ
  have hown0 := hown
  have pre0 : ∀ t, Steps p.tables e below (s₁.setTop (mkF m 0 #[.val (.int p1), .val (.int p2), .unset, .unset, .unset, .unset] [])) t → Steps p.tables e below (s₁.setTop (entryFrame m #[(.int p1), (.int p2)] 6)) t := fun t k => castTop (ef_1 m p1 p2) k
  obtain ⟨_, _, ⟨T3, L3, k3, n3⟩, -, X3, ⟨Lc3, hQ3, l3, y3, z3⟩, st3⟩ := Jvm.LawKit.callS X0 hx (y := (⟨"com/example/nto1/nto1/IdentityEqualsPinLaw", "len", "(II)I"⟩ : MethodName)) hown (mvT hZ (hw _ (List.mem_of_getElem? (i := 7) rfl))) (mvT hZ (hw _ (List.mem_of_getElem? (i := 8) rfl))) (mvT hZ (hw _ (List.mem_of_getElem? (i := 5) rfl))) (mvT hZ (hw _ (List.mem_of_getElem? (i := 9) rfl))) (by decide) (backOf (W := 0) (rm2 l Z a0 hw [] p1 p2 h0 n0 Z0) hZ (hw _ (List.mem_of_getElem? (i := 9) rfl)) (hw _ (List.mem_of_getElem? (i := 5) rfl)) (by decide) (by decide)) (g := (mkF m 2 #[.val (.int p1), .val (.int p2), .unset, .unset, .unset, .unset] [(.int p2), (.int p1)])) rfl (by rw [hml]; rfl) (argsL := [(.int p1), (.int p2)]) (rest := []) (lenOf pd_1_1 rfl) rfl (by show 2 * 0 + _ ≤ _; exact Nat.le_of_eq rfl) (hb hby d1_2) (fun _ _ => ⟨rfl, e0, (by decide : 0 + 0 ≤ _), (by decide : 0 + 0 ≤ _)⟩)
  dsimp only [Pt.U, Pt.locs, Pt.cells, Pt.slots] at X3 l3 y3 z3 st3 hQ3
  subst l3 y3 z3
  obtain ⟨rfl, N3q, E3q⟩ := hQ3
  have K3q : Keep h0 T3.heap [] := by rw [E3q]; exact Keep.refl _ _
  have KK3 : Keep h0 T3.heap [] := (Keep.refl _ _).trans K3q all0
  have Z3 : n0 ≤ T3.heap.size := Nat.le_trans Z0 K3q.1
  have N3 := Fr.app N0 N3q
  obtain ⟨_, _, ⟨T4, L4, k4, n4⟩, -, X4, ⟨Lc4, hQ4, l4, y4, z4⟩, st4⟩ := Jvm.LawKit.callS X3 hx (y := (⟨"com/example/nto1/nto1/IdentityEqualsPinLaw", "ch", "(I)C"⟩ : MethodName)) hown (mvT hZ (hw _ (List.mem_of_getElem? (i := 10) rfl))) (mvT hZ (hw _ (List.mem_of_getElem? (i := 11) rfl))) (mvT hZ (hw _ (List.mem_of_getElem? (i := 5) rfl))) (mvT hZ (hw _ (List.mem_of_getElem? (i := 12) rfl))) (by decide) (backOf (W := 0) (rm3 l Z a0 hw [] ((p1.toUInt32 >>> ((2 : Int32) &&& 31).toUInt32).toInt32) T3.heap n0 Z3) hZ (hw _ (List.mem_of_getElem? (i := 12) rfl)) (hw _ (List.mem_of_getElem? (i := 5) rfl)) (by decide) (by decide)) (g := (mkF m 9 #[.val (.int p1), .val (.int p2), .val (.int (own_len p1 p2)), .unset, .unset, .unset] [(.int ((p1.toUInt32 >>> ((2 : Int32) &&& 31).toUInt32).toInt32))])) rfl (by rw [hml]; rfl) (argsL := [(.int ((p1.toUInt32 >>> ((2 : Int32) &&& 31).toUInt32).toInt32))]) (rest := []) (lenOf pd_1_2 rfl) rfl (by show 2 * 0 + _ ≤ _; exact Nat.le_of_eq rfl) (hb hby d1_9) (fun _ _ => ⟨rfl, rfl, (by decide : 0 + 0 ≤ _), (by decide : 0 + 0 ≤ _)⟩)
  dsimp only [Pt.U, Pt.locs, Pt.cells, Pt.slots] at X4 l4 y4 z4 st4 hQ4
  subst l4 y4 z4
  obtain ⟨rfl, N4q, E4q⟩ := hQ4
  have K4q : Keep T3.heap T4.heap [] := by rw [E4q]; exact Keep.refl _ _
  have KK4 : Keep h0 T4.heap [] := (KK3).trans K4q all0
  have Z4 : n0 ≤ T4.heap.size := Nat.le_trans Z3 K4q.1
  have N4 := Fr.app N3 N4q
  obtain ⟨_, _, ⟨T5, L5, k5, n5⟩, -, X5, ⟨Lc5, hQ5, l5, y5, z5⟩, st5⟩ := Jvm.LawKit.callS X4 hx (y := (⟨"com/example/nto1/nto1/IdentityEqualsPinLaw", "ch", "(I)C"⟩ : MethodName)) hown (mvT hZ (hw _ (List.mem_of_getElem? (i := 10) rfl))) (mvT hZ (hw _ (List.mem_of_getElem? (i := 11) rfl))) (mvT hZ (hw _ (List.mem_of_getElem? (i := 5) rfl))) (mvT hZ (hw _ (List.mem_of_getElem? (i := 12) rfl))) (by decide) (backOf (W := 0) (rm3 l Z a0 hw [] ((p1.toUInt32 >>> ((4 : Int32) &&& 31).toUInt32).toInt32) T4.heap n0 Z4) hZ (hw _ (List.mem_of_getElem? (i := 12) rfl)) (hw _ (List.mem_of_getElem? (i := 5) rfl)) (by decide) (by decide)) (g := (mkF m 16 #[.val (.int p1), .val (.int p2), .val (.int (own_len p1 p2)), .val (.int (own_c ((p1.toUInt32 >>> ((2 : Int32) &&& 31).toUInt32).toInt32))), .unset, .unset] [(.int ((p1.toUInt32 >>> ((4 : Int32) &&& 31).toUInt32).toInt32))])) rfl (by rw [hml]; rfl) (argsL := [(.int ((p1.toUInt32 >>> ((4 : Int32) &&& 31).toUInt32).toInt32))]) (rest := []) (lenOf pd_1_2 rfl) rfl (by show 2 * 0 + _ ≤ _; exact Nat.le_of_eq rfl) (hb hby d1_16) (fun _ _ => ⟨rfl, rfl, (by decide : 0 + 0 ≤ _), (by decide : 0 + 0 ≤ _)⟩)
  dsimp only [Pt.U, Pt.locs, Pt.cells, Pt.slots] at X5 l5 y5 z5 st5 hQ5
  subst l5 y5 z5
  obtain ⟨rfl, N5q, E5q⟩ := hQ5
  have K5q : Keep T4.heap T5.heap [] := by rw [E5q]; exact Keep.refl _ _
  have KK5 : Keep h0 T5.heap [] := (KK4).trans K5q all0
  have Z5 : n0 ≤ T5.heap.size := Nat.le_trans Z4 K5q.1
  have N5 := Fr.app N4 N5q
  obtain ⟨_, _, ⟨T6, L6, k6, n6⟩, -, X6, ⟨Lc6, hQ6, l6, y6, z6⟩, st6⟩ := Jvm.LawKit.callS X5 hx (y := (⟨"com/example/nto1/nto1/IdentityEqualsPinLaw", "ch", "(I)C"⟩ : MethodName)) hown (mvT hZ (hw _ (List.mem_of_getElem? (i := 10) rfl))) (mvT hZ (hw _ (List.mem_of_getElem? (i := 11) rfl))) (mvT hZ (hw _ (List.mem_of_getElem? (i := 5) rfl))) (mvT hZ (hw _ (List.mem_of_getElem? (i := 12) rfl))) (by decide) (backOf (W := 0) (rm3 l Z a0 hw [] ((p1.toUInt32 >>> ((6 : Int32) &&& 31).toUInt32).toInt32) T5.heap n0 Z5) hZ (hw _ (List.mem_of_getElem? (i := 12) rfl)) (hw _ (List.mem_of_getElem? (i := 5) rfl)) (by decide) (by decide)) (g := (mkF m 25 #[.val (.int p1), .val (.int p2), .val (.int (own_len p1 p2)), .val (.int (own_c ((p1.toUInt32 >>> ((2 : Int32) &&& 31).toUInt32).toInt32))), .val (.int (own_c ((p1.toUInt32 >>> ((4 : Int32) &&& 31).toUInt32).toInt32))), .unset] [(.int ((p1.toUInt32 >>> ((6 : Int32) &&& 31).toUInt32).toInt32))])) rfl (by rw [hml]; rfl) (argsL := [(.int ((p1.toUInt32 >>> ((6 : Int32) &&& 31).toUInt32).toInt32))]) (rest := []) (lenOf pd_1_2 rfl) rfl (by show 2 * 0 + _ ≤ _; exact Nat.le_of_eq rfl) (hb hby d1_25) (fun _ _ => ⟨rfl, rfl, (by decide : 0 + 0 ≤ _), (by decide : 0 + 0 ≤ _)⟩)
  dsimp only [Pt.U, Pt.locs, Pt.cells, Pt.slots] at X6 l6 y6 z6 st6 hQ6
  subst l6 y6 z6
  obtain ⟨rfl, N6q, E6q⟩ := hQ6
  have K6q : Keep T5.heap T6.heap [] := by rw [E6q]; exact Keep.refl _ _
  have KK6 : Keep h0 T6.heap [] := (KK5).trans K6q all0
  have Z6 : n0 ≤ T6.heap.size := Nat.le_trans Z5 K6q.1
  have N6 := Fr.app N5 N6q
  have own_e6 : T6.heap = h0 := E6q.trans (E5q.trans (E4q.trans E3q))
  obtain ⟨b7, T7, h7, kk7, t7, kb7, X7, e7, E7, hS, hk7, hZ, hown, Ex7, Co7, Va7, Ar7, lt7, lu7, CH7, Li7, Sf7, st7⟩ := ldcCH X6 hx hZ hown (hw _ (List.mem_of_getElem? (i := 13) rfl)) hwS rfl hS (Nat.le_of_eq (by rw [own_e6])) hEL (by decide) (by rw [own_e6]; exact H0) (vs := []) (z := (0 : Int32)) ⟨by decide, rfl⟩ (by decide) rfl (g := (mkF m 34 #[.val (.int p1), .val (.int p2), .val (.int (own_len p1 p2)), .val (.int (own_c ((p1.toUInt32 >>> ((2 : Int32) &&& 31).toUInt32).toInt32))), .val (.int (own_c ((p1.toUInt32 >>> ((4 : Int32) &&& 31).toUInt32).toInt32))), .val (.int (own_c ((p1.toUInt32 >>> ((6 : Int32) &&& 31).toUInt32).toInt32)))] [])) rfl (hb hby d1_34) (n := 0) (by decide) (by decide) (by decide) (by decide)
  have Z7 : n0 ≤ h7.size := Nat.le_trans Z6 E7.1
  have K7 : Keep h0 h7 [] := (KK6).ext E7
  have CHf : CHr Z consts_1 s.vm h0 T7.vm T7.heap := by rw [e7]; rw [own_e6] at CH7; exact CH7
  obtain ⟨fs, hr, hrun, hended, hRW⟩ := X7.leaveW hS (by rw [e7]; exact hk7) (v := some (.ref b7)) (fun h => by rw [Bd.returns] at h; cases h)
  refine ⟨_, _, pre0 _ ?_, hrun, hended, _, _, rfl, ?_, (by rw [hh]; exact CHf), ⟨_, rfl⟩, hRW.2.1, hRW.2.2.1, hRW.2.2.2.mono (by decide) (by decide)⟩
  · show Steps p.tables e below (s₁.setTop (mkF m 0 #[.val (.int p1), .val (.int p2), .unset, .unset, .unset, .unset] [])) _
    refine XS.iloadN X0.here hx rfl (hb hby d1_0) rfl ?_
    show Steps p.tables e below (s₁.setTop (mkF m 1 #[.val (.int p1), .val (.int p2), .unset, .unset, .unset, .unset] [(.int p1)])) _
    refine XS.iloadN X0.here hx rfl (hb hby d1_1) rfl ?_
    show Steps p.tables e below (s₁.setTop (mkF m 2 #[.val (.int p1), .val (.int p2), .unset, .unset, .unset, .unset] [(.int p2), (.int p1)])) _
    refine st3 _ ?_
    show Steps p.tables e below (T3.setTop (mkF m 5 #[.val (.int p1), .val (.int p2), .unset, .unset, .unset, .unset] [(.int (own_len p1 p2))])) _
    refine XS.istoreN X3.here hx rfl (hb hby d1_5) rfl (l' := #[.val (.int p1), .val (.int p2), .val (.int (own_len p1 p2)), .unset, .unset, .unset]) rfl ?_
    show Steps p.tables e below (T3.setTop (mkF m 6 #[.val (.int p1), .val (.int p2), .val (.int (own_len p1 p2)), .unset, .unset, .unset] [])) _
    refine XS.iloadN X3.here hx rfl (hb hby d1_6) rfl ?_
    show Steps p.tables e below (T3.setTop (mkF m 7 #[.val (.int p1), .val (.int p2), .val (.int (own_len p1 p2)), .unset, .unset, .unset] [(.int p1)])) _
    refine XS.iconst X3.here hx rfl (hb hby d1_7) ?_
    show Steps p.tables e below (T3.setTop (mkF m 8 #[.val (.int p1), .val (.int p2), .val (.int (own_len p1 p2)), .unset, .unset, .unset] [(.int (2 : Int32)), (.int p1)])) _
    refine XS.iushr X3.here hx rfl (hb hby d1_8) rfl ?_
    show Steps p.tables e below (T3.setTop (mkF m 9 #[.val (.int p1), .val (.int p2), .val (.int (own_len p1 p2)), .unset, .unset, .unset] [(.int ((p1.toUInt32 >>> ((2 : Int32) &&& 31).toUInt32).toInt32))])) _
    refine st4 _ ?_
    show Steps p.tables e below (T4.setTop (mkF m 12 #[.val (.int p1), .val (.int p2), .val (.int (own_len p1 p2)), .unset, .unset, .unset] [(.int (own_c ((p1.toUInt32 >>> ((2 : Int32) &&& 31).toUInt32).toInt32)))])) _
    refine XS.istoreN X4.here hx rfl (hb hby d1_12) rfl (l' := #[.val (.int p1), .val (.int p2), .val (.int (own_len p1 p2)), .val (.int (own_c ((p1.toUInt32 >>> ((2 : Int32) &&& 31).toUInt32).toInt32))), .unset, .unset]) rfl ?_
    show Steps p.tables e below (T4.setTop (mkF m 13 #[.val (.int p1), .val (.int p2), .val (.int (own_len p1 p2)), .val (.int (own_c ((p1.toUInt32 >>> ((2 : Int32) &&& 31).toUInt32).toInt32))), .unset, .unset] [])) _
    refine XS.iloadN X4.here hx rfl (hb hby d1_13) rfl ?_
    show Steps p.tables e below (T4.setTop (mkF m 14 #[.val (.int p1), .val (.int p2), .val (.int (own_len p1 p2)), .val (.int (own_c ((p1.toUInt32 >>> ((2 : Int32) &&& 31).toUInt32).toInt32))), .unset, .unset] [(.int p1)])) _
    refine XS.iconst X4.here hx rfl (hb hby d1_14) ?_
    show Steps p.tables e below (T4.setTop (mkF m 15 #[.val (.int p1), .val (.int p2), .val (.int (own_len p1 p2)), .val (.int (own_c ((p1.toUInt32 >>> ((2 : Int32) &&& 31).toUInt32).toInt32))), .unset, .unset] [(.int (4 : Int32)), (.int p1)])) _
    refine XS.iushr X4.here hx rfl (hb hby d1_15) rfl ?_
    show Steps p.tables e below (T4.setTop (mkF m 16 #[.val (.int p1), .val (.int p2), .val (.int (own_len p1 p2)), .val (.int (own_c ((p1.toUInt32 >>> ((2 : Int32) &&& 31).toUInt32).toInt32))), .unset, .unset] [(.int ((p1.toUInt32 >>> ((4 : Int32) &&& 31).toUInt32).toInt32))])) _
    refine st5 _ ?_
    show Steps p.tables e below (T5.setTop (mkF m 19 #[.val (.int p1), .val (.int p2), .val (.int (own_len p1 p2)), .val (.int (own_c ((p1.toUInt32 >>> ((2 : Int32) &&& 31).toUInt32).toInt32))), .unset, .unset] [(.int (own_c ((p1.toUInt32 >>> ((4 : Int32) &&& 31).toUInt32).toInt32)))])) _
    refine XS.istore X5.here hx rfl (hb hby d1_19) rfl (l' := #[.val (.int p1), .val (.int p2), .val (.int (own_len p1 p2)), .val (.int (own_c ((p1.toUInt32 >>> ((2 : Int32) &&& 31).toUInt32).toInt32))), .val (.int (own_c ((p1.toUInt32 >>> ((4 : Int32) &&& 31).toUInt32).toInt32))), .unset]) rfl ?_
    show Steps p.tables e below (T5.setTop (mkF m 21 #[.val (.int p1), .val (.int p2), .val (.int (own_len p1 p2)), .val (.int (own_c ((p1.toUInt32 >>> ((2 : Int32) &&& 31).toUInt32).toInt32))), .val (.int (own_c ((p1.toUInt32 >>> ((4 : Int32) &&& 31).toUInt32).toInt32))), .unset] [])) _
    refine XS.iloadN X5.here hx rfl (hb hby d1_21) rfl ?_
    show Steps p.tables e below (T5.setTop (mkF m 22 #[.val (.int p1), .val (.int p2), .val (.int (own_len p1 p2)), .val (.int (own_c ((p1.toUInt32 >>> ((2 : Int32) &&& 31).toUInt32).toInt32))), .val (.int (own_c ((p1.toUInt32 >>> ((4 : Int32) &&& 31).toUInt32).toInt32))), .unset] [(.int p1)])) _
    refine XS.bipush X5.here hx rfl (hb hby d1_22) ?_
    show Steps p.tables e below (T5.setTop (mkF m 24 #[.val (.int p1), .val (.int p2), .val (.int (own_len p1 p2)), .val (.int (own_c ((p1.toUInt32 >>> ((2 : Int32) &&& 31).toUInt32).toInt32))), .val (.int (own_c ((p1.toUInt32 >>> ((4 : Int32) &&& 31).toUInt32).toInt32))), .unset] [(.int (6 : Int32)), (.int p1)])) _
    refine XS.iushr X5.here hx rfl (hb hby d1_24) rfl ?_
    show Steps p.tables e below (T5.setTop (mkF m 25 #[.val (.int p1), .val (.int p2), .val (.int (own_len p1 p2)), .val (.int (own_c ((p1.toUInt32 >>> ((2 : Int32) &&& 31).toUInt32).toInt32))), .val (.int (own_c ((p1.toUInt32 >>> ((4 : Int32) &&& 31).toUInt32).toInt32))), .unset] [(.int ((p1.toUInt32 >>> ((6 : Int32) &&& 31).toUInt32).toInt32))])) _
    refine st6 _ ?_
    show Steps p.tables e below (T6.setTop (mkF m 28 #[.val (.int p1), .val (.int p2), .val (.int (own_len p1 p2)), .val (.int (own_c ((p1.toUInt32 >>> ((2 : Int32) &&& 31).toUInt32).toInt32))), .val (.int (own_c ((p1.toUInt32 >>> ((4 : Int32) &&& 31).toUInt32).toInt32))), .unset] [(.int (own_c ((p1.toUInt32 >>> ((6 : Int32) &&& 31).toUInt32).toInt32)))])) _
    refine XS.istore X6.here hx rfl (hb hby d1_28) rfl (l' := #[.val (.int p1), .val (.int p2), .val (.int (own_len p1 p2)), .val (.int (own_c ((p1.toUInt32 >>> ((2 : Int32) &&& 31).toUInt32).toInt32))), .val (.int (own_c ((p1.toUInt32 >>> ((4 : Int32) &&& 31).toUInt32).toInt32))), .val (.int (own_c ((p1.toUInt32 >>> ((6 : Int32) &&& 31).toUInt32).toInt32)))]) rfl ?_
    show Steps p.tables e below (T6.setTop (mkF m 30 #[.val (.int p1), .val (.int p2), .val (.int (own_len p1 p2)), .val (.int (own_c ((p1.toUInt32 >>> ((2 : Int32) &&& 31).toUInt32).toInt32))), .val (.int (own_c ((p1.toUInt32 >>> ((4 : Int32) &&& 31).toUInt32).toInt32))), .val (.int (own_c ((p1.toUInt32 >>> ((6 : Int32) &&& 31).toUInt32).toInt32)))] [])) _
    refine XS.iloadN X6.here hx rfl (hb hby d1_30) rfl ?_
    show Steps p.tables e below (T6.setTop (mkF m 31 #[.val (.int p1), .val (.int p2), .val (.int (own_len p1 p2)), .val (.int (own_c ((p1.toUInt32 >>> ((2 : Int32) &&& 31).toUInt32).toInt32))), .val (.int (own_c ((p1.toUInt32 >>> ((4 : Int32) &&& 31).toUInt32).toInt32))), .val (.int (own_c ((p1.toUInt32 >>> ((6 : Int32) &&& 31).toUInt32).toInt32)))] [(.int (own_len p1 p2))])) _
    refine XS.ifNo X6.here hx rfl (hb hby d1_31) rfl ((if0 _ _).trans (teq (q0 : (own_len p1 p2) = (0 : Int32))).2) ?_
    show Steps p.tables e below (T6.setTop (mkF m 34 #[.val (.int p1), .val (.int p2), .val (.int (own_len p1 p2)), .val (.int (own_c ((p1.toUInt32 >>> ((2 : Int32) &&& 31).toUInt32).toInt32))), .val (.int (own_c ((p1.toUInt32 >>> ((4 : Int32) &&& 31).toUInt32).toInt32))), .val (.int (own_c ((p1.toUInt32 >>> ((6 : Int32) &&& 31).toUInt32).toInt32)))] [])) _
    refine st7 _ ?_
    show Steps p.tables e below (T7.setTop (mkF m 36 #[.val (.int p1), .val (.int p2), .val (.int (own_len p1 p2)), .val (.int (own_c ((p1.toUInt32 >>> ((2 : Int32) &&& 31).toUInt32).toInt32))), .val (.int (own_c ((p1.toUInt32 >>> ((4 : Int32) &&& 31).toUInt32).toInt32))), .val (.int (own_c ((p1.toUInt32 >>> ((6 : Int32) &&& 31).toUInt32).toInt32)))] [(.ref b7)])) _
    jvm_step X7.here [X7.here.top, hx, (hb hby d1_36), X7.method', Bd.returns, Value.isRef, FieldType.isReference]
    first | (intro acts; rw [hr _ acts rfl rfl rfl]) | rw [hr _ _ rfl rfl rfl]
    exact Steps.refl _
  · show Q1 Z p1 p2 h0 n0 _ T7.heap _
    rw [e7]
    exact ⟨b7, rfl, N6, K7, by rw [show own_part p1 p2 = [] from if_pos q0]; exact ⟨t7, kb7, _, _, Ex7, Va7, Co7, Ar7, StrChars.Road.codOf (cs := []) (n := 0) rfl (by decide), by decide, by decide⟩⟩
theorem d1_37 : decode method_5_code 37 = .ok (.iload_n 2, 1) := by decide +kernel
theorem d1_38 : decode method_5_code 38 = .ok (.iconst 1, 1) := by decide +kernel
theorem d1_39 : decode method_5_code 39 = .ok (.if_icmp .ne 18, 3) := by decide +kernel
theorem d1_42 : decode method_5_code 42 = .ok (.new 36, 3) := by decide +kernel
theorem d1_45 : decode method_5_code 45 = .ok (.dup, 1) := by decide +kernel
theorem d1_46 : decode method_5_code 46 = .ok (.iconst 1, 1) := by decide +kernel
theorem d1_47 : decode method_5_code 47 = .ok (.newarray .char, 2) := by decide +kernel
theorem d1_49 : decode method_5_code 49 = .ok (.dup, 1) := by decide +kernel
theorem d1_50 : decode method_5_code 50 = .ok (.iconst 0, 1) := by decide +kernel
theorem d1_51 : decode method_5_code 51 = .ok (.iload_n 3, 1) := by decide +kernel
theorem d1_52 : decode method_5_code 52 = .ok (.castore, 1) := by decide +kernel
theorem d1_53 : decode method_5_code 53 = .ok (.invokespecial 38, 3) := by decide +kernel
theorem d1_56 : decode method_5_code 56 = .ok (.areturn, 1) := by decide +kernel
theorem pd_1_3 : parseMethodDescriptor "([C)V" = some ⟨[(.array .char)], none⟩ := by decide +kernel
set_option maxRecDepth 65536 in
set_option maxHeartbeats 40000000 in
theorem rm1b (l : Launch) (Z : State) (a0 : Array Value) (hw : ∀ d ∈ tables_1, d.before a0 Z = true) (ws : List Jvm.Cond) (p1 : Int32) (p2 : Int32) (h0 : Heap) (n0 : Nat) (Z0 : n0 ≤ h0.size) (zc : Int32) (S_C : Sta Z Z.heap "java/lang/String" "COMPACT_STRINGS" "Z" (.int zc)) (hzc : ¬ zc = 0) (X00 : Old Z n0 h0) (q0 : ¬ own_len p1 p2 = 0) (q1 : own_len p1 p2 = 1) :
    MetFree l (⟨"com/example/nto1/nto1/IdentityEqualsPinLaw", "part", "(II)Ljava/lang/String;"⟩ : MethodName) (head1 (Jvm.Cond.code (⟨"com/example/nto1/nto1/IdentityEqualsPinLaw", "part", "(II)Ljava/lang/String;"⟩ : MethodName) method_5_code 6 (some (.object "java/lang/String")) :: ws) ({ frames := 4, cells := 3, slots := 10, locals := 66 } : Room)) (fun a U => a = #[(.int p1), (.int p2)] ∧ Z.Warmed39 U.vm ∧ U.heap = h0 ∧ CHv Z consts_1 U.vm h0 ∧ True) (fun _ _ _ _ _ => True) (fun _ U o U' => ∃ v L, o = .returned v ∧ Q1 Z p1 p2 h0 n0 v U'.heap L ∧ CHr Z consts_1 U.vm U.heap U'.vm U'.heap ∧ ReturnedEndW U o U' L ({ frames := 4, cells := 3, slots := 10, locals := 66 } : Room).cells ({ frames := 4, cells := 3, slots := 10, locals := 66 } : Room).slots) := by
  refine MetFree.of_bodySF (plainFor_of_name pn_1) hisR ?_
  intro p e s m args below meth c s₁ Bd hml0 hP hK
  obtain ⟨rfl, hZ, hh, H0, Sf0⟩ := hP
  have hx := Bd.exec
  have hby := Bd.bytes
  have hml : c.maxLocals = 6 := hml0
  have hown : s.vm.findClass "com/example/nto1/nto1/IdentityEqualsPinLaw" = some m.cls := findClass_of_methodNamed Bd.named
  have hnm := (name_of_methodNamed Bd.named Bd.method).1
  have X0 : Stand p l e ({ frames := 4, cells := 3, slots := 10, locals := 66 } : Room) (s.setVm s.vm) m #[(.int p1), (.int p2)] below meth c s₁ [] 0 0 := Stand.of_body Bd
  have e0 : s₁.heap = h0 := by rw [← hh, Bd.state]; rfl
  have N0 := Fr.nil n0
  have hS : s.Since s.vm h0.size := (State.WarmedH.refl s).since h0.size
  have hwS : ∀ a ∈ Bundle.stringAtoms, a.before a0 Z = true := fun d hd => hw d ((by decide +kernel : ∀ d ∈ Bundle.stringAtoms, d ∈ tables_1) d hd)
  have hEL := own_EL hw
  have hZ0 := hZ
  have hown0 := hown
  have pre0 : ∀ t, Steps p.tables e below (s₁.setTop (mkF m 0 #[.val (.int p1), .val (.int p2), .unset, .unset, .unset, .unset] [])) t → Steps p.tables e below (s₁.setTop (entryFrame m #[(.int p1), (.int p2)] 6)) t := fun t k => castTop (ef_1 m p1 p2) k
  obtain ⟨_, _, ⟨T3, L3, k3, n3⟩, -, X3, ⟨Lc3, hQ3, l3, y3, z3⟩, st3⟩ := Jvm.LawKit.callS X0 hx (y := (⟨"com/example/nto1/nto1/IdentityEqualsPinLaw", "len", "(II)I"⟩ : MethodName)) hown (mvT hZ (hw _ (List.mem_of_getElem? (i := 7) rfl))) (mvT hZ (hw _ (List.mem_of_getElem? (i := 8) rfl))) (mvT hZ (hw _ (List.mem_of_getElem? (i := 5) rfl))) (mvT hZ (hw _ (List.mem_of_getElem? (i := 9) rfl))) (by decide) (backOf (W := 0) (rm2 l Z a0 hw [] p1 p2 h0 n0 Z0) hZ (hw _ (List.mem_of_getElem? (i := 9) rfl)) (hw _ (List.mem_of_getElem? (i := 5) rfl)) (by decide) (by decide)) (g := (mkF m 2 #[.val (.int p1), .val (.int p2), .unset, .unset, .unset, .unset] [(.int p2), (.int p1)])) rfl (by rw [hml]; rfl) (argsL := [(.int p1), (.int p2)]) (rest := []) (lenOf pd_1_1 rfl) rfl (by show 2 * 0 + _ ≤ _; exact Nat.le_of_eq rfl) (hb hby d1_2) (fun _ _ => ⟨rfl, e0, (by decide : 0 + 0 ≤ _), (by decide : 0 + 0 ≤ _)⟩)
  dsimp only [Pt.U, Pt.locs, Pt.cells, Pt.slots] at X3 l3 y3 z3 st3 hQ3
  subst l3 y3 z3
  obtain ⟨rfl, N3q, E3q⟩ := hQ3
  have K3q : Keep h0 T3.heap [] := by rw [E3q]; exact Keep.refl _ _
  have KK3 : Keep h0 T3.heap [] := (Keep.refl _ _).trans K3q all0
  have Z3 : n0 ≤ T3.heap.size := Nat.le_trans Z0 K3q.1
  have N3 := Fr.app N0 N3q
  obtain ⟨_, _, ⟨T4, L4, k4, n4⟩, -, X4, ⟨Lc4, hQ4, l4, y4, z4⟩, st4⟩ := Jvm.LawKit.callS X3 hx (y := (⟨"com/example/nto1/nto1/IdentityEqualsPinLaw", "ch", "(I)C"⟩ : MethodName)) hown (mvT hZ (hw _ (List.mem_of_getElem? (i := 10) rfl))) (mvT hZ (hw _ (List.mem_of_getElem? (i := 11) rfl))) (mvT hZ (hw _ (List.mem_of_getElem? (i := 5) rfl))) (mvT hZ (hw _ (List.mem_of_getElem? (i := 12) rfl))) (by decide) (backOf (W := 0) (rm3 l Z a0 hw [] ((p1.toUInt32 >>> ((2 : Int32) &&& 31).toUInt32).toInt32) T3.heap n0 Z3) hZ (hw _ (List.mem_of_getElem? (i := 12) rfl)) (hw _ (List.mem_of_getElem? (i := 5) rfl)) (by decide) (by decide)) (g := (mkF m 9 #[.val (.int p1), .val (.int p2), .val (.int (own_len p1 p2)), .unset, .unset, .unset] [(.int ((p1.toUInt32 >>> ((2 : Int32) &&& 31).toUInt32).toInt32))])) rfl (by rw [hml]; rfl) (argsL := [(.int ((p1.toUInt32 >>> ((2 : Int32) &&& 31).toUInt32).toInt32))]) (rest := []) (lenOf pd_1_2 rfl) rfl (by show 2 * 0 + _ ≤ _; exact Nat.le_of_eq rfl) (hb hby d1_9) (fun _ _ => ⟨rfl, rfl, (by decide : 0 + 0 ≤ _), (by decide : 0 + 0 ≤ _)⟩)
  dsimp only [Pt.U, Pt.locs, Pt.cells, Pt.slots] at X4 l4 y4 z4 st4 hQ4
  subst l4 y4 z4
  obtain ⟨rfl, N4q, E4q⟩ := hQ4
  have K4q : Keep T3.heap T4.heap [] := by rw [E4q]; exact Keep.refl _ _
  have KK4 : Keep h0 T4.heap [] := (KK3).trans K4q all0
  have Z4 : n0 ≤ T4.heap.size := Nat.le_trans Z3 K4q.1
  have N4 := Fr.app N3 N4q
  obtain ⟨_, _, ⟨T5, L5, k5, n5⟩, -, X5, ⟨Lc5, hQ5, l5, y5, z5⟩, st5⟩ := Jvm.LawKit.callS X4 hx (y := (⟨"com/example/nto1/nto1/IdentityEqualsPinLaw", "ch", "(I)C"⟩ : MethodName)) hown (mvT hZ (hw _ (List.mem_of_getElem? (i := 10) rfl))) (mvT hZ (hw _ (List.mem_of_getElem? (i := 11) rfl))) (mvT hZ (hw _ (List.mem_of_getElem? (i := 5) rfl))) (mvT hZ (hw _ (List.mem_of_getElem? (i := 12) rfl))) (by decide) (backOf (W := 0) (rm3 l Z a0 hw [] ((p1.toUInt32 >>> ((4 : Int32) &&& 31).toUInt32).toInt32) T4.heap n0 Z4) hZ (hw _ (List.mem_of_getElem? (i := 12) rfl)) (hw _ (List.mem_of_getElem? (i := 5) rfl)) (by decide) (by decide)) (g := (mkF m 16 #[.val (.int p1), .val (.int p2), .val (.int (own_len p1 p2)), .val (.int (own_c ((p1.toUInt32 >>> ((2 : Int32) &&& 31).toUInt32).toInt32))), .unset, .unset] [(.int ((p1.toUInt32 >>> ((4 : Int32) &&& 31).toUInt32).toInt32))])) rfl (by rw [hml]; rfl) (argsL := [(.int ((p1.toUInt32 >>> ((4 : Int32) &&& 31).toUInt32).toInt32))]) (rest := []) (lenOf pd_1_2 rfl) rfl (by show 2 * 0 + _ ≤ _; exact Nat.le_of_eq rfl) (hb hby d1_16) (fun _ _ => ⟨rfl, rfl, (by decide : 0 + 0 ≤ _), (by decide : 0 + 0 ≤ _)⟩)
  dsimp only [Pt.U, Pt.locs, Pt.cells, Pt.slots] at X5 l5 y5 z5 st5 hQ5
  subst l5 y5 z5
  obtain ⟨rfl, N5q, E5q⟩ := hQ5
  have K5q : Keep T4.heap T5.heap [] := by rw [E5q]; exact Keep.refl _ _
  have KK5 : Keep h0 T5.heap [] := (KK4).trans K5q all0
  have Z5 : n0 ≤ T5.heap.size := Nat.le_trans Z4 K5q.1
  have N5 := Fr.app N4 N5q
  obtain ⟨_, _, ⟨T6, L6, k6, n6⟩, -, X6, ⟨Lc6, hQ6, l6, y6, z6⟩, st6⟩ := Jvm.LawKit.callS X5 hx (y := (⟨"com/example/nto1/nto1/IdentityEqualsPinLaw", "ch", "(I)C"⟩ : MethodName)) hown (mvT hZ (hw _ (List.mem_of_getElem? (i := 10) rfl))) (mvT hZ (hw _ (List.mem_of_getElem? (i := 11) rfl))) (mvT hZ (hw _ (List.mem_of_getElem? (i := 5) rfl))) (mvT hZ (hw _ (List.mem_of_getElem? (i := 12) rfl))) (by decide) (backOf (W := 0) (rm3 l Z a0 hw [] ((p1.toUInt32 >>> ((6 : Int32) &&& 31).toUInt32).toInt32) T5.heap n0 Z5) hZ (hw _ (List.mem_of_getElem? (i := 12) rfl)) (hw _ (List.mem_of_getElem? (i := 5) rfl)) (by decide) (by decide)) (g := (mkF m 25 #[.val (.int p1), .val (.int p2), .val (.int (own_len p1 p2)), .val (.int (own_c ((p1.toUInt32 >>> ((2 : Int32) &&& 31).toUInt32).toInt32))), .val (.int (own_c ((p1.toUInt32 >>> ((4 : Int32) &&& 31).toUInt32).toInt32))), .unset] [(.int ((p1.toUInt32 >>> ((6 : Int32) &&& 31).toUInt32).toInt32))])) rfl (by rw [hml]; rfl) (argsL := [(.int ((p1.toUInt32 >>> ((6 : Int32) &&& 31).toUInt32).toInt32))]) (rest := []) (lenOf pd_1_2 rfl) rfl (by show 2 * 0 + _ ≤ _; exact Nat.le_of_eq rfl) (hb hby d1_25) (fun _ _ => ⟨rfl, rfl, (by decide : 0 + 0 ≤ _), (by decide : 0 + 0 ≤ _)⟩)
  dsimp only [Pt.U, Pt.locs, Pt.cells, Pt.slots] at X6 l6 y6 z6 st6 hQ6
  subst l6 y6 z6
  obtain ⟨rfl, N6q, E6q⟩ := hQ6
  have K6q : Keep T5.heap T6.heap [] := by rw [E6q]; exact Keep.refl _ _
  have KK6 : Keep h0 T6.heap [] := (KK5).trans K6q all0
  have Z6 : n0 ≤ T6.heap.size := Nat.le_trans Z5 K6q.1
  have N6 := Fr.app N5 N6q
  have own_e6 : T6.heap = h0 := E6q.trans (E5q.trans (E4q.trans E3q))
  obtain ⟨T7, h7, X7, e7, E7, A7, D7, -, st7⟩ := newO X6 hx hZ hown (hw _ (List.mem_of_getElem? (i := 21) rfl)) (hw _ (List.mem_of_getElem? (i := 15) rfl)) (hw _ (List.mem_of_getElem? (i := 14) rfl)) rfl (g := (mkF m 42 #[.val (.int p1), .val (.int p2), .val (.int (own_len p1 p2)), .val (.int (own_c ((p1.toUInt32 >>> ((2 : Int32) &&& 31).toUInt32).toInt32))), .val (.int (own_c ((p1.toUInt32 >>> ((4 : Int32) &&& 31).toUInt32).toInt32))), .val (.int (own_c ((p1.toUInt32 >>> ((6 : Int32) &&& 31).toUInt32).toInt32)))] [])) rfl (hb hby d1_42) (by decide) (by decide)
  obtain ⟨b7, g7⟩ : ∃ z, z = T6.heap.size := ⟨_, rfl⟩      -- the fresh object's address
  have Z7 : n0 ≤ h7.size := Nat.le_trans Z6 E7.1
  rw [← g7] at A7 D7 st7      -- A7 : Exa Z h7 b7 "java/lang/String"; E7 : Ext T6.heap h7 (carries every older fact: .ext E7)
  have F_value_b7 : Fld Z h7 b7 "java/lang/String" "value" "[B" .null := D7 (Or.inr (hw _ (List.mem_of_getElem? (i := 17) rfl))) (ty := (.array .byte)) (by decide)
  have F_coder_b7 : Fld Z h7 b7 "java/lang/String" "coder" "B" (.int (0 : Int32)) := D7 (Or.inr (hw _ (List.mem_of_getElem? (i := 18) rfl))) (ty := .byte) (by decide)
  have E_b7 := A7
  have g_b7 : n0 ≤ b7 := Nat.le_trans (Nat.le_trans (Nat.le_trans (Nat.le_trans (Nat.le_trans Z0 K3q.1) K4q.1) K5q.1) K6q.1) (Nat.le_of_eq g7.symm)
  have sz_b7 : h0.size ≤ b7 := (Nat.le_trans (KK6).1 (Nat.le_of_eq g7.symm))
  have K7 : Keep h0 h7 [] := (KK6).ext E7
  obtain ⟨T8, h8, k8, X8, e8, E8, A8, st8⟩ := newP X7 hx hZ (hw _ (List.mem_of_getElem? (i := 22) rfl)) e7 (g := (mkF m 47 #[.val (.int p1), .val (.int p2), .val (.int (own_len p1 p2)), .val (.int (own_c ((p1.toUInt32 >>> ((2 : Int32) &&& 31).toUInt32).toInt32))), .val (.int (own_c ((p1.toUInt32 >>> ((4 : Int32) &&& 31).toUInt32).toInt32))), .val (.int (own_c ((p1.toUInt32 >>> ((6 : Int32) &&& 31).toUInt32).toInt32)))] [(.int (1 : Int32)), (.ref b7), (.ref b7)])) rfl (hb hby d1_47) rfl (by decide) (cap := 1) (by decide) (by decide) (by decide) (by decide)
  obtain ⟨b8, g8⟩ : ∃ z, z = h7.size := ⟨_, rfl⟩      -- the fresh array's address
  have Z8 : n0 ≤ h8.size := Nat.le_trans Z7 E8.1
  rw [← g8] at A8 st8
  have V_b8 : Arv Z h8 b8 k8 .char (1 : Int32) [(.int (0 : Int32))] (.int (0 : Int32)) := (Arv.new A8 (by decide)).pad (pad_rep [] (.int (0 : Int32)) 1)
  have g_b8 : n0 ≤ b8 := Nat.le_trans (Nat.le_trans (Nat.le_trans (Nat.le_trans (Nat.le_trans (Nat.le_trans Z0 K3q.1) K4q.1) K5q.1) K6q.1) E7.1) (Nat.le_of_eq g8.symm)
  have sz_b8 : h0.size ≤ b8 := (Nat.le_trans K7.1 (Nat.le_of_eq g8.symm))
  have K8 : Keep h0 h8 [] := K7.ext E8
  obtain ⟨cl_b8_52, Ar_b8, q_b8, S_b8, N_b8, H_b8, G_b8⟩ := V_b8      -- open the array's fact as it stands now (its cell, kind, length, elements)
  have hin52 : ¬ ((0 : Int32) < 0 ∨ cl_b8_52.slots.size ≤ ((0 : Int32)).toNatClampNeg) := inb_of S_b8 ⟨by decide, by decide⟩
  obtain ⟨T9, h9, X9, e9, W9, st9⟩ := stC X8 hx hZ e8 Ar_b8 (j := (0 : Int32)) hin52 (g := (mkF m 52 #[.val (.int p1), .val (.int p2), .val (.int (own_len p1 p2)), .val (.int (own_c ((p1.toUInt32 >>> ((2 : Int32) &&& 31).toUInt32).toInt32))), .val (.int (own_c ((p1.toUInt32 >>> ((4 : Int32) &&& 31).toUInt32).toInt32))), .val (.int (own_c ((p1.toUInt32 >>> ((6 : Int32) &&& 31).toUInt32).toInt32)))] [(.int (own_c ((p1.toUInt32 >>> ((2 : Int32) &&& 31).toUInt32).toInt32))), (.int (0 : Int32)), (.ref b8), (.ref b8), (.ref b7), (.ref b7)])) rfl rfl (hb hby d1_52)
  have Z9 : n0 ≤ h9.size := Nat.le_trans Z8 (Keep.of_wr W9).1
  have V_b8_9 := Arv.set Ar_b8 q_b8 S_b8 N_b8 H_b8 G_b8 (fits_nar_char _) W9 0 rfl (Nat.le_of_ble_eq_true rfl)      -- the array as it stands now (the place must lie among its first values: Arv.pad with pad_rep lengthens them)
  have K9 : Keep h0 h9 [] := K8.wr W9 (Or.inr sz_b8)
  have N9 := Fr.snoc X9 N6 g_b8
  have CE5_b7 := ((E_b7.ext E8).wr W9)
  have CV5_b8 := V_b8_9
  have hws : ∀ d ∈ StrChars.Road.words, d.before a0 Z = true := fun d hd => hw d ((by decide +kernel : ∀ d ∈ StrChars.Road.words, d ∈ tables_1) d hd)
  have own_ne : b7 ≠ b8 := Nat.ne_of_lt (Nat.lt_of_lt_of_le E_b7.lt (Nat.le_of_eq g8.symm))
  have own_hp : ∀ c ∈ ([nar .char (own_c (own_sh p1 2))] : List Int32), ¬ c < 0 ∧ ¬ (255 : Int32) < c := (fun c hc => by simp only [List.mem_cons, List.not_mem_nil, or_false] at hc; rcases hc with rfl <;> (rw [own_c_nar]; exact own_b_n (own_ok_b (own_c_ok _))))
  obtain ⟨_, _, ⟨T10, L10, k10, n10⟩, -, X10, ⟨Lc10, hQ10, l10, y10, z10⟩, st10⟩ := X9.specialBack hx (y := (⟨"java/lang/String", "<init>", "([C)V"⟩ : MethodName)) rfl hown (mvT hZ (hw _ (List.mem_of_getElem? (i := 23) rfl))) (mvT hZ (hw _ (List.mem_of_getElem? (i := 24) rfl))) (mvT hZ (hw _ (List.mem_of_getElem? (i := 25) rfl))) (by decide) (StrChars.Road.backV (W := 1) hZ hws (kI := 4) (hw _ (List.mem_of_getElem? (i := 15) rfl)) (cs := ([nar .char (own_c (own_sh p1 2))] : List Int32)) (bs := (([nar .char (own_c (own_sh p1 2))] : List Int32)).map (fun c => c.toInt8.toInt32)) (n := 1) g_b7 Z9 CE5_b7 ((F_value_b7.ext E8).other W9 (Or.inl own_ne)) ((F_coder_b7.ext E8).other W9 (Or.inl own_ne)) CV5_b8 (S_C.ext (X00.keep K9 all0).2) hzc rfl rfl (by decide) (by decide) own_hp rfl (by decide) (by decide)) (g := (mkF m 53 #[.val (.int p1), .val (.int p2), .val (.int (own_len p1 p2)), .val (.int (own_c ((p1.toUInt32 >>> ((2 : Int32) &&& 31).toUInt32).toInt32))), .val (.int (own_c ((p1.toUInt32 >>> ((4 : Int32) &&& 31).toUInt32).toInt32))), .val (.int (own_c ((p1.toUInt32 >>> ((6 : Int32) &&& 31).toUInt32).toInt32)))] [(.ref b8), (.ref b7), (.ref b7)])) rfl (by rw [hml]; rfl) (Steps.refl _) (a := b7) (argsL := [(.ref b8)]) (rest := [(.ref b7)]) (lenOf pd_1_3 rfl) rfl (by show 2 * 0 + _ ≤ _; exact Nat.le_of_eq rfl) (hb hby d1_53) (fun _ _ => ⟨rfl, e9, (by decide : 2 + 1 ≤ _), (by decide : 5 + 1 ≤ _)⟩)
  dsimp only [Pt.U, Pt.locs, Pt.cells, Pt.slots] at X10 l10 y10 z10 st10 hQ10
  subst l10 y10 z10
  obtain ⟨rfl, N10q, K10q, A10, C10, tv10, kb10, gv10, sv10, nv10, V10, R10⟩ := hQ10
  have KK10 : Keep h0 T10.heap [] := (K9).trans K10q (allS (Or.inr sz_b7) all0)
  have Z10 : n0 ≤ T10.heap.size := Nat.le_trans Z9 K10q.1
  have KK10x : Keep h0 T10.heap [] := K9.trans K10q (allS (Or.inr sz_b7) all0)
  have N10 := Fr.app N9 N10q
  have CHf : CHr Z consts_1 s.vm h0 T10.vm T10.heap := (CHr.keep KK10 all0 H0).trans (CHv.at X10 hZ hEL (H0.keep KK10 all0))
  obtain ⟨fs, hr, hrun, hended, hRW⟩ := X10.leaveW hS (by exact KK10.1) (v := some (.ref b7)) (fun h => by rw [Bd.returns] at h; cases h)
  refine ⟨_, _, pre0 _ ?_, hrun, hended, _, _, rfl, ?_, (by rw [hh]; exact CHf), ⟨_, rfl⟩, hRW.2.1, hRW.2.2.1, hRW.2.2.2.mono (by decide) (by decide)⟩
  · show Steps p.tables e below (s₁.setTop (mkF m 0 #[.val (.int p1), .val (.int p2), .unset, .unset, .unset, .unset] [])) _
    refine XS.iloadN X0.here hx rfl (hb hby d1_0) rfl ?_
    show Steps p.tables e below (s₁.setTop (mkF m 1 #[.val (.int p1), .val (.int p2), .unset, .unset, .unset, .unset] [(.int p1)])) _
    refine XS.iloadN X0.here hx rfl (hb hby d1_1) rfl ?_
    show Steps p.tables e below (s₁.setTop (mkF m 2 #[.val (.int p1), .val (.int p2), .unset, .unset, .unset, .unset] [(.int p2), (.int p1)])) _
    refine st3 _ ?_
    show Steps p.tables e below (T3.setTop (mkF m 5 #[.val (.int p1), .val (.int p2), .unset, .unset, .unset, .unset] [(.int (own_len p1 p2))])) _
    refine XS.istoreN X3.here hx rfl (hb hby d1_5) rfl (l' := #[.val (.int p1), .val (.int p2), .val (.int (own_len p1 p2)), .unset, .unset, .unset]) rfl ?_
    show Steps p.tables e below (T3.setTop (mkF m 6 #[.val (.int p1), .val (.int p2), .val (.int (own_len p1 p2)), .unset, .unset, .unset] [])) _
    refine XS.iloadN X3.here hx rfl (hb hby d1_6) rfl ?_
    show Steps p.tables e below (T3.setTop (mkF m 7 #[.val (.int p1), .val (.int p2), .val (.int (own_len p1 p2)), .unset, .unset, .unset] [(.int p1)])) _
    refine XS.iconst X3.here hx rfl (hb hby d1_7) ?_
    show Steps p.tables e below (T3.setTop (mkF m 8 #[.val (.int p1), .val (.int p2), .val (.int (own_len p1 p2)), .unset, .unset, .unset] [(.int (2 : Int32)), (.int p1)])) _
    refine XS.iushr X3.here hx rfl (hb hby d1_8) rfl ?_
    show Steps p.tables e below (T3.setTop (mkF m 9 #[.val (.int p1), .val (.int p2), .val (.int (own_len p1 p2)), .unset, .unset, .unset] [(.int ((p1.toUInt32 >>> ((2 : Int32) &&& 31).toUInt32).toInt32))])) _
    refine st4 _ ?_
    show Steps p.tables e below (T4.setTop (mkF m 12 #[.val (.int p1), .val (.int p2), .val (.int (own_len p1 p2)), .unset, .unset, .unset] [(.int (own_c ((p1.toUInt32 >>> ((2 : Int32) &&& 31).toUInt32).toInt32)))])) _
    refine XS.istoreN X4.here hx rfl (hb hby d1_12) rfl (l' := #[.val (.int p1), .val (.int p2), .val (.int (own_len p1 p2)), .val (.int (own_c ((p1.toUInt32 >>> ((2 : Int32) &&& 31).toUInt32).toInt32))), .unset, .unset]) rfl ?_
    show Steps p.tables e below (T4.setTop (mkF m 13 #[.val (.int p1), .val (.int p2), .val (.int (own_len p1 p2)), .val (.int (own_c ((p1.toUInt32 >>> ((2 : Int32) &&& 31).toUInt32).toInt32))), .unset, .unset] [])) _
    refine XS.iloadN X4.here hx rfl (hb hby d1_13) rfl ?_
    show Steps p.tables e below (T4.setTop (mkF m 14 #[.val (.int p1), .val (.int p2), .val (.int (own_len p1 p2)), .val (.int (own_c ((p1.toUInt32 >>> ((2 : Int32) &&& 31).toUInt32).toInt32))), .unset, .unset] [(.int p1)])) _
    refine XS.iconst X4.here hx rfl (hb hby d1_14) ?_
    show Steps p.tables e below (T4.setTop (mkF m 15 #[.val (.int p1), .val (.int p2), .val (.int (own_len p1 p2)), .val (.int (own_c ((p1.toUInt32 >>> ((2 : Int32) &&& 31).toUInt32).toInt32))), .unset, .unset] [(.int (4 : Int32)), (.int p1)])) _
    refine XS.iushr X4.here hx rfl (hb hby d1_15) rfl ?_
    show Steps p.tables e below (T4.setTop (mkF m 16 #[.val (.int p1), .val (.int p2), .val (.int (own_len p1 p2)), .val (.int (own_c ((p1.toUInt32 >>> ((2 : Int32) &&& 31).toUInt32).toInt32))), .unset, .unset] [(.int ((p1.toUInt32 >>> ((4 : Int32) &&& 31).toUInt32).toInt32))])) _
    refine st5 _ ?_
    show Steps p.tables e below (T5.setTop (mkF m 19 #[.val (.int p1), .val (.int p2), .val (.int (own_len p1 p2)), .val (.int (own_c ((p1.toUInt32 >>> ((2 : Int32) &&& 31).toUInt32).toInt32))), .unset, .unset] [(.int (own_c ((p1.toUInt32 >>> ((4 : Int32) &&& 31).toUInt32).toInt32)))])) _
    refine XS.istore X5.here hx rfl (hb hby d1_19) rfl (l' := #[.val (.int p1), .val (.int p2), .val (.int (own_len p1 p2)), .val (.int (own_c ((p1.toUInt32 >>> ((2 : Int32) &&& 31).toUInt32).toInt32))), .val (.int (own_c ((p1.toUInt32 >>> ((4 : Int32) &&& 31).toUInt32).toInt32))), .unset]) rfl ?_
    show Steps p.tables e below (T5.setTop (mkF m 21 #[.val (.int p1), .val (.int p2), .val (.int (own_len p1 p2)), .val (.int (own_c ((p1.toUInt32 >>> ((2 : Int32) &&& 31).toUInt32).toInt32))), .val (.int (own_c ((p1.toUInt32 >>> ((4 : Int32) &&& 31).toUInt32).toInt32))), .unset] [])) _
    refine XS.iloadN X5.here hx rfl (hb hby d1_21) rfl ?_
    show Steps p.tables e below (T5.setTop (mkF m 22 #[.val (.int p1), .val (.int p2), .val (.int (own_len p1 p2)), .val (.int (own_c ((p1.toUInt32 >>> ((2 : Int32) &&& 31).toUInt32).toInt32))), .val (.int (own_c ((p1.toUInt32 >>> ((4 : Int32) &&& 31).toUInt32).toInt32))), .unset] [(.int p1)])) _
    refine XS.bipush X5.here hx rfl (hb hby d1_22) ?_
    show Steps p.tables e below (T5.setTop (mkF m 24 #[.val (.int p1), .val (.int p2), .val (.int (own_len p1 p2)), .val (.int (own_c ((p1.toUInt32 >>> ((2 : Int32) &&& 31).toUInt32).toInt32))), .val (.int (own_c ((p1.toUInt32 >>> ((4 : Int32) &&& 31).toUInt32).toInt32))), .unset] [(.int (6 : Int32)), (.int p1)])) _
    refine XS.iushr X5.here hx rfl (hb hby d1_24) rfl ?_
    show Steps p.tables e below (T5.setTop (mkF m 25 #[.val (.int p1), .val (.int p2), .val (.int (own_len p1 p2)), .val (.int (own_c ((p1.toUInt32 >>> ((2 : Int32) &&& 31).toUInt32).toInt32))), .val (.int (own_c ((p1.toUInt32 >>> ((4 : Int32) &&& 31).toUInt32).toInt32))), .unset] [(.int ((p1.toUInt32 >>> ((6 : Int32) &&& 31).toUInt32).toInt32))])) _
    refine st6 _ ?_
    show Steps p.tables e below (T6.setTop (mkF m 28 #[.val (.int p1), .val (.int p2), .val (.int (own_len p1 p2)), .val (.int (own_c ((p1.toUInt32 >>> ((2 : Int32) &&& 31).toUInt32).toInt32))), .val (.int (own_c ((p1.toUInt32 >>> ((4 : Int32) &&& 31).toUInt32).toInt32))), .unset] [(.int (own_c ((p1.toUInt32 >>> ((6 : Int32) &&& 31).toUInt32).toInt32)))])) _
    refine XS.istore X6.here hx rfl (hb hby d1_28) rfl (l' := #[.val (.int p1), .val (.int p2), .val (.int (own_len p1 p2)), .val (.int (own_c ((p1.toUInt32 >>> ((2 : Int32) &&& 31).toUInt32).toInt32))), .val (.int (own_c ((p1.toUInt32 >>> ((4 : Int32) &&& 31).toUInt32).toInt32))), .val (.int (own_c ((p1.toUInt32 >>> ((6 : Int32) &&& 31).toUInt32).toInt32)))]) rfl ?_
    show Steps p.tables e below (T6.setTop (mkF m 30 #[.val (.int p1), .val (.int p2), .val (.int (own_len p1 p2)), .val (.int (own_c ((p1.toUInt32 >>> ((2 : Int32) &&& 31).toUInt32).toInt32))), .val (.int (own_c ((p1.toUInt32 >>> ((4 : Int32) &&& 31).toUInt32).toInt32))), .val (.int (own_c ((p1.toUInt32 >>> ((6 : Int32) &&& 31).toUInt32).toInt32)))] [])) _
    refine XS.iloadN X6.here hx rfl (hb hby d1_30) rfl ?_
    show Steps p.tables e below (T6.setTop (mkF m 31 #[.val (.int p1), .val (.int p2), .val (.int (own_len p1 p2)), .val (.int (own_c ((p1.toUInt32 >>> ((2 : Int32) &&& 31).toUInt32).toInt32))), .val (.int (own_c ((p1.toUInt32 >>> ((4 : Int32) &&& 31).toUInt32).toInt32))), .val (.int (own_c ((p1.toUInt32 >>> ((6 : Int32) &&& 31).toUInt32).toInt32)))] [(.int (own_len p1 p2))])) _
    refine XS.ifYes X6.here hx rfl (pc0 := 31) (pc' := 37) rfl (hb hby d1_31) rfl ((if0 _ _).trans (feq (q0 : ¬ ((own_len p1 p2) = (0 : Int32)))).2) (by decide) (by decide) ?_
    show Steps p.tables e below (T6.setTop (mkF m 37 #[.val (.int p1), .val (.int p2), .val (.int (own_len p1 p2)), .val (.int (own_c ((p1.toUInt32 >>> ((2 : Int32) &&& 31).toUInt32).toInt32))), .val (.int (own_c ((p1.toUInt32 >>> ((4 : Int32) &&& 31).toUInt32).toInt32))), .val (.int (own_c ((p1.toUInt32 >>> ((6 : Int32) &&& 31).toUInt32).toInt32)))] [])) _
    refine XS.iloadN X6.here hx rfl (hb hby d1_37) rfl ?_
    show Steps p.tables e below (T6.setTop (mkF m 38 #[.val (.int p1), .val (.int p2), .val (.int (own_len p1 p2)), .val (.int (own_c ((p1.toUInt32 >>> ((2 : Int32) &&& 31).toUInt32).toInt32))), .val (.int (own_c ((p1.toUInt32 >>> ((4 : Int32) &&& 31).toUInt32).toInt32))), .val (.int (own_c ((p1.toUInt32 >>> ((6 : Int32) &&& 31).toUInt32).toInt32)))] [(.int (own_len p1 p2))])) _
    refine XS.iconst X6.here hx rfl (hb hby d1_38) ?_
    show Steps p.tables e below (T6.setTop (mkF m 39 #[.val (.int p1), .val (.int p2), .val (.int (own_len p1 p2)), .val (.int (own_c ((p1.toUInt32 >>> ((2 : Int32) &&& 31).toUInt32).toInt32))), .val (.int (own_c ((p1.toUInt32 >>> ((4 : Int32) &&& 31).toUInt32).toInt32))), .val (.int (own_c ((p1.toUInt32 >>> ((6 : Int32) &&& 31).toUInt32).toInt32)))] [(.int (1 : Int32)), (.int (own_len p1 p2))])) _
    refine XS.icmpNo X6.here hx rfl (hb hby d1_39) rfl (teq (q1 : (own_len p1 p2) = (1 : Int32))).2 ?_
    show Steps p.tables e below (T6.setTop (mkF m 42 #[.val (.int p1), .val (.int p2), .val (.int (own_len p1 p2)), .val (.int (own_c ((p1.toUInt32 >>> ((2 : Int32) &&& 31).toUInt32).toInt32))), .val (.int (own_c ((p1.toUInt32 >>> ((4 : Int32) &&& 31).toUInt32).toInt32))), .val (.int (own_c ((p1.toUInt32 >>> ((6 : Int32) &&& 31).toUInt32).toInt32)))] [])) _
    refine st7 _ ?_
    show Steps p.tables e below (T7.setTop (mkF m 45 #[.val (.int p1), .val (.int p2), .val (.int (own_len p1 p2)), .val (.int (own_c ((p1.toUInt32 >>> ((2 : Int32) &&& 31).toUInt32).toInt32))), .val (.int (own_c ((p1.toUInt32 >>> ((4 : Int32) &&& 31).toUInt32).toInt32))), .val (.int (own_c ((p1.toUInt32 >>> ((6 : Int32) &&& 31).toUInt32).toInt32)))] [(.ref b7)])) _
    refine XS.dup X7.here hx rfl (hb hby d1_45) rfl rfl ?_
    show Steps p.tables e below (T7.setTop (mkF m 46 #[.val (.int p1), .val (.int p2), .val (.int (own_len p1 p2)), .val (.int (own_c ((p1.toUInt32 >>> ((2 : Int32) &&& 31).toUInt32).toInt32))), .val (.int (own_c ((p1.toUInt32 >>> ((4 : Int32) &&& 31).toUInt32).toInt32))), .val (.int (own_c ((p1.toUInt32 >>> ((6 : Int32) &&& 31).toUInt32).toInt32)))] [(.ref b7), (.ref b7)])) _
    refine XS.iconst X7.here hx rfl (hb hby d1_46) ?_
    show Steps p.tables e below (T7.setTop (mkF m 47 #[.val (.int p1), .val (.int p2), .val (.int (own_len p1 p2)), .val (.int (own_c ((p1.toUInt32 >>> ((2 : Int32) &&& 31).toUInt32).toInt32))), .val (.int (own_c ((p1.toUInt32 >>> ((4 : Int32) &&& 31).toUInt32).toInt32))), .val (.int (own_c ((p1.toUInt32 >>> ((6 : Int32) &&& 31).toUInt32).toInt32)))] [(.int (1 : Int32)), (.ref b7), (.ref b7)])) _
    refine st8 _ ?_
    show Steps p.tables e below (T8.setTop (mkF m 49 #[.val (.int p1), .val (.int p2), .val (.int (own_len p1 p2)), .val (.int (own_c ((p1.toUInt32 >>> ((2 : Int32) &&& 31).toUInt32).toInt32))), .val (.int (own_c ((p1.toUInt32 >>> ((4 : Int32) &&& 31).toUInt32).toInt32))), .val (.int (own_c ((p1.toUInt32 >>> ((6 : Int32) &&& 31).toUInt32).toInt32)))] [(.ref b8), (.ref b7), (.ref b7)])) _
    refine XS.dup X8.here hx rfl (hb hby d1_49) rfl rfl ?_
    show Steps p.tables e below (T8.setTop (mkF m 50 #[.val (.int p1), .val (.int p2), .val (.int (own_len p1 p2)), .val (.int (own_c ((p1.toUInt32 >>> ((2 : Int32) &&& 31).toUInt32).toInt32))), .val (.int (own_c ((p1.toUInt32 >>> ((4 : Int32) &&& 31).toUInt32).toInt32))), .val (.int (own_c ((p1.toUInt32 >>> ((6 : Int32) &&& 31).toUInt32).toInt32)))] [(.ref b8), (.ref b8), (.ref b7), (.ref b7)])) _
    refine XS.iconst X8.here hx rfl (hb hby d1_50) ?_
    show Steps p.tables e below (T8.setTop (mkF m 51 #[.val (.int p1), .val (.int p2), .val (.int (own_len p1 p2)), .val (.int (own_c ((p1.toUInt32 >>> ((2 : Int32) &&& 31).toUInt32).toInt32))), .val (.int (own_c ((p1.toUInt32 >>> ((4 : Int32) &&& 31).toUInt32).toInt32))), .val (.int (own_c ((p1.toUInt32 >>> ((6 : Int32) &&& 31).toUInt32).toInt32)))] [(.int (0 : Int32)), (.ref b8), (.ref b8), (.ref b7), (.ref b7)])) _
    refine XS.iloadN X8.here hx rfl (hb hby d1_51) rfl ?_
    show Steps p.tables e below (T8.setTop (mkF m 52 #[.val (.int p1), .val (.int p2), .val (.int (own_len p1 p2)), .val (.int (own_c ((p1.toUInt32 >>> ((2 : Int32) &&& 31).toUInt32).toInt32))), .val (.int (own_c ((p1.toUInt32 >>> ((4 : Int32) &&& 31).toUInt32).toInt32))), .val (.int (own_c ((p1.toUInt32 >>> ((6 : Int32) &&& 31).toUInt32).toInt32)))] [(.int (own_c ((p1.toUInt32 >>> ((2 : Int32) &&& 31).toUInt32).toInt32))), (.int (0 : Int32)), (.ref b8), (.ref b8), (.ref b7), (.ref b7)])) _
    refine st9 _ ?_
    show Steps p.tables e below (T9.setTop (mkF m 53 #[.val (.int p1), .val (.int p2), .val (.int (own_len p1 p2)), .val (.int (own_c ((p1.toUInt32 >>> ((2 : Int32) &&& 31).toUInt32).toInt32))), .val (.int (own_c ((p1.toUInt32 >>> ((4 : Int32) &&& 31).toUInt32).toInt32))), .val (.int (own_c ((p1.toUInt32 >>> ((6 : Int32) &&& 31).toUInt32).toInt32)))] [(.ref b8), (.ref b7), (.ref b7)])) _
    refine st10.trans ?_
    show Steps p.tables e below (T10.setTop (mkF m 56 #[.val (.int p1), .val (.int p2), .val (.int (own_len p1 p2)), .val (.int (own_c ((p1.toUInt32 >>> ((2 : Int32) &&& 31).toUInt32).toInt32))), .val (.int (own_c ((p1.toUInt32 >>> ((4 : Int32) &&& 31).toUInt32).toInt32))), .val (.int (own_c ((p1.toUInt32 >>> ((6 : Int32) &&& 31).toUInt32).toInt32)))] [(.ref b7)])) _
    jvm_step X10.here [X10.here.top, hx, (hb hby d1_56), X10.method', Bd.returns, Value.isRef, FieldType.isReference]
    first | (intro acts; rw [hr _ acts rfl rfl rfl]) | rw [hr _ _ rfl rfl rfl]
    exact Steps.refl _
  · show Q1 Z p1 p2 h0 n0 _ T10.heap _
    exact ⟨b7, rfl, N10, KK10, by rw [show own_part p1 p2 = [nar .char (own_c (own_sh p1 2))] from by rw [own_c_nar]; exact (if_neg q0).trans (if_pos q1)]; exact own_Str_of (n := 1) rfl rfl own_hp (by decide) A10 V10 C10 R10⟩
theorem d1_57 : decode method_5_code 57 = .ok (.iload_n 2, 1) := by decide +kernel
theorem d1_58 : decode method_5_code 58 = .ok (.iconst 2, 1) := by decide +kernel
theorem d1_59 : decode method_5_code 59 = .ok (.if_icmp .ne 23, 3) := by decide +kernel
theorem d1_62 : decode method_5_code 62 = .ok (.new 36, 3) := by decide +kernel
theorem d1_65 : decode method_5_code 65 = .ok (.dup, 1) := by decide +kernel
theorem d1_66 : decode method_5_code 66 = .ok (.iconst 2, 1) := by decide +kernel
theorem d1_67 : decode method_5_code 67 = .ok (.newarray .char, 2) := by decide +kernel
theorem d1_69 : decode method_5_code 69 = .ok (.dup, 1) := by decide +kernel
theorem d1_70 : decode method_5_code 70 = .ok (.iconst 0, 1) := by decide +kernel
theorem d1_71 : decode method_5_code 71 = .ok (.iload_n 3, 1) := by decide +kernel
theorem d1_72 : decode method_5_code 72 = .ok (.castore, 1) := by decide +kernel
theorem d1_73 : decode method_5_code 73 = .ok (.dup, 1) := by decide +kernel
theorem d1_74 : decode method_5_code 74 = .ok (.iconst 1, 1) := by decide +kernel
theorem d1_75 : decode method_5_code 75 = .ok (.iload 4, 2) := by decide +kernel
theorem d1_77 : decode method_5_code 77 = .ok (.castore, 1) := by decide +kernel
theorem d1_78 : decode method_5_code 78 = .ok (.invokespecial 38, 3) := by decide +kernel
theorem d1_81 : decode method_5_code 81 = .ok (.areturn, 1) := by decide +kernel
set_option maxRecDepth 65536 in
set_option maxHeartbeats 40000000 in
theorem rm1c (l : Launch) (Z : State) (a0 : Array Value) (hw : ∀ d ∈ tables_1, d.before a0 Z = true) (ws : List Jvm.Cond) (p1 : Int32) (p2 : Int32) (h0 : Heap) (n0 : Nat) (Z0 : n0 ≤ h0.size) (zc : Int32) (S_C : Sta Z Z.heap "java/lang/String" "COMPACT_STRINGS" "Z" (.int zc)) (hzc : ¬ zc = 0) (X00 : Old Z n0 h0) (q0 : ¬ own_len p1 p2 = 0) (q1 : ¬ own_len p1 p2 = 1) (q2 : own_len p1 p2 = 2) :
    MetFree l (⟨"com/example/nto1/nto1/IdentityEqualsPinLaw", "part", "(II)Ljava/lang/String;"⟩ : MethodName) (head1 (Jvm.Cond.code (⟨"com/example/nto1/nto1/IdentityEqualsPinLaw", "part", "(II)Ljava/lang/String;"⟩ : MethodName) method_5_code 6 (some (.object "java/lang/String")) :: ws) ({ frames := 4, cells := 3, slots := 10, locals := 66 } : Room)) (fun a U => a = #[(.int p1), (.int p2)] ∧ Z.Warmed39 U.vm ∧ U.heap = h0 ∧ CHv Z consts_1 U.vm h0 ∧ True) (fun _ _ _ _ _ => True) (fun _ U o U' => ∃ v L, o = .returned v ∧ Q1 Z p1 p2 h0 n0 v U'.heap L ∧ CHr Z consts_1 U.vm U.heap U'.vm U'.heap ∧ ReturnedEndW U o U' L ({ frames := 4, cells := 3, slots := 10, locals := 66 } : Room).cells ({ frames := 4, cells := 3, slots := 10, locals := 66 } : Room).slots) := by
  refine MetFree.of_bodySF (plainFor_of_name pn_1) hisR ?_
  intro p e s m args below meth c s₁ Bd hml0 hP hK
  obtain ⟨rfl, hZ, hh, H0, Sf0⟩ := hP
  have hx := Bd.exec
  have hby := Bd.bytes
  have hml : c.maxLocals = 6 := hml0
  have hown : s.vm.findClass "com/example/nto1/nto1/IdentityEqualsPinLaw" = some m.cls := findClass_of_methodNamed Bd.named
  have hnm := (name_of_methodNamed Bd.named Bd.method).1
  have X0 : Stand p l e ({ frames := 4, cells := 3, slots := 10, locals := 66 } : Room) (s.setVm s.vm) m #[(.int p1), (.int p2)] below meth c s₁ [] 0 0 := Stand.of_body Bd
  have e0 : s₁.heap = h0 := by rw [← hh, Bd.state]; rfl
  have N0 := Fr.nil n0
  have hS : s.Since s.vm h0.size := (State.WarmedH.refl s).since h0.size
  have hwS : ∀ a ∈ Bundle.stringAtoms, a.before a0 Z = true := fun d hd => hw d ((by decide +kernel : ∀ d ∈ Bundle.stringAtoms, d ∈ tables_1) d hd)
  have hEL := own_EL hw
  have hZ0 := hZ
  have hown0 := hown
  have pre0 : ∀ t, Steps p.tables e below (s₁.setTop (mkF m 0 #[.val (.int p1), .val (.int p2), .unset, .unset, .unset, .unset] [])) t → Steps p.tables e below (s₁.setTop (entryFrame m #[(.int p1), (.int p2)] 6)) t := fun t k => castTop (ef_1 m p1 p2) k
  obtain ⟨_, _, ⟨T3, L3, k3, n3⟩, -, X3, ⟨Lc3, hQ3, l3, y3, z3⟩, st3⟩ := Jvm.LawKit.callS X0 hx (y := (⟨"com/example/nto1/nto1/IdentityEqualsPinLaw", "len", "(II)I"⟩ : MethodName)) hown (mvT hZ (hw _ (List.mem_of_getElem? (i := 7) rfl))) (mvT hZ (hw _ (List.mem_of_getElem? (i := 8) rfl))) (mvT hZ (hw _ (List.mem_of_getElem? (i := 5) rfl))) (mvT hZ (hw _ (List.mem_of_getElem? (i := 9) rfl))) (by decide) (backOf (W := 0) (rm2 l Z a0 hw [] p1 p2 h0 n0 Z0) hZ (hw _ (List.mem_of_getElem? (i := 9) rfl)) (hw _ (List.mem_of_getElem? (i := 5) rfl)) (by decide) (by decide)) (g := (mkF m 2 #[.val (.int p1), .val (.int p2), .unset, .unset, .unset, .unset] [(.int p2), (.int p1)])) rfl (by rw [hml]; rfl) (argsL := [(.int p1), (.int p2)]) (rest := []) (lenOf pd_1_1 rfl) rfl (by show 2 * 0 + _ ≤ _; exact Nat.le_of_eq rfl) (hb hby d1_2) (fun _ _ => ⟨rfl, e0, (by decide : 0 + 0 ≤ _), (by decide : 0 + 0 ≤ _)⟩)
  dsimp only [Pt.U, Pt.locs, Pt.cells, Pt.slots] at X3 l3 y3 z3 st3 hQ3
  subst l3 y3 z3
  obtain ⟨rfl, N3q, E3q⟩ := hQ3
  have K3q : Keep h0 T3.heap [] := by rw [E3q]; exact Keep.refl _ _
  have KK3 : Keep h0 T3.heap [] := (Keep.refl _ _).trans K3q all0
  have Z3 : n0 ≤ T3.heap.size := Nat.le_trans Z0 K3q.1
  have N3 := Fr.app N0 N3q
  obtain ⟨_, _, ⟨T4, L4, k4, n4⟩, -, X4, ⟨Lc4, hQ4, l4, y4, z4⟩, st4⟩ := Jvm.LawKit.callS X3 hx (y := (⟨"com/example/nto1/nto1/IdentityEqualsPinLaw", "ch", "(I)C"⟩ : MethodName)) hown (mvT hZ (hw _ (List.mem_of_getElem? (i := 10) rfl))) (mvT hZ (hw _ (List.mem_of_getElem? (i := 11) rfl))) (mvT hZ (hw _ (List.mem_of_getElem? (i := 5) rfl))) (mvT hZ (hw _ (List.mem_of_getElem? (i := 12) rfl))) (by decide) (backOf (W := 0) (rm3 l Z a0 hw [] ((p1.toUInt32 >>> ((2 : Int32) &&& 31).toUInt32).toInt32) T3.heap n0 Z3) hZ (hw _ (List.mem_of_getElem? (i := 12) rfl)) (hw _ (List.mem_of_getElem? (i := 5) rfl)) (by decide) (by decide)) (g := (mkF m 9 #[.val (.int p1), .val (.int p2), .val (.int (own_len p1 p2)), .unset, .unset, .unset] [(.int ((p1.toUInt32 >>> ((2 : Int32) &&& 31).toUInt32).toInt32))])) rfl (by rw [hml]; rfl) (argsL := [(.int ((p1.toUInt32 >>> ((2 : Int32) &&& 31).toUInt32).toInt32))]) (rest := []) (lenOf pd_1_2 rfl) rfl (by show 2 * 0 + _ ≤ _; exact Nat.le_of_eq rfl) (hb hby d1_9) (fun _ _ => ⟨rfl, rfl, (by decide : 0 + 0 ≤ _), (by decide : 0 + 0 ≤ _)⟩)
  dsimp only [Pt.U, Pt.locs, Pt.cells, Pt.slots] at X4 l4 y4 z4 st4 hQ4
  subst l4 y4 z4
  obtain ⟨rfl, N4q, E4q⟩ := hQ4
  have K4q : Keep T3.heap T4.heap [] := by rw [E4q]; exact Keep.refl _ _
  have KK4 : Keep h0 T4.heap [] := (KK3).trans K4q all0
  have Z4 : n0 ≤ T4.heap.size := Nat.le_trans Z3 K4q.1
  have N4 := Fr.app N3 N4q
  obtain ⟨_, _, ⟨T5, L5, k5, n5⟩, -, X5, ⟨Lc5, hQ5, l5, y5, z5⟩, st5⟩ := Jvm.LawKit.callS X4 hx (y := (⟨"com/example/nto1/nto1/IdentityEqualsPinLaw", "ch", "(I)C"⟩ : MethodName)) hown (mvT hZ (hw _ (List.mem_of_getElem? (i := 10) rfl))) (mvT hZ (hw _ (List.mem_of_getElem? (i := 11) rfl))) (mvT hZ (hw _ (List.mem_of_getElem? (i := 5) rfl))) (mvT hZ (hw _ (List.mem_of_getElem? (i := 12) rfl))) (by decide) (backOf (W := 0) (rm3 l Z a0 hw [] ((p1.toUInt32 >>> ((4 : Int32) &&& 31).toUInt32).toInt32) T4.heap n0 Z4) hZ (hw _ (List.mem_of_getElem? (i := 12) rfl)) (hw _ (List.mem_of_getElem? (i := 5) rfl)) (by decide) (by decide)) (g := (mkF m 16 #[.val (.int p1), .val (.int p2), .val (.int (own_len p1 p2)), .val (.int (own_c ((p1.toUInt32 >>> ((2 : Int32) &&& 31).toUInt32).toInt32))), .unset, .unset] [(.int ((p1.toUInt32 >>> ((4 : Int32) &&& 31).toUInt32).toInt32))])) rfl (by rw [hml]; rfl) (argsL := [(.int ((p1.toUInt32 >>> ((4 : Int32) &&& 31).toUInt32).toInt32))]) (rest := []) (lenOf pd_1_2 rfl) rfl (by show 2 * 0 + _ ≤ _; exact Nat.le_of_eq rfl) (hb hby d1_16) (fun _ _ => ⟨rfl, rfl, (by decide : 0 + 0 ≤ _), (by decide : 0 + 0 ≤ _)⟩)
  dsimp only [Pt.U, Pt.locs, Pt.cells, Pt.slots] at X5 l5 y5 z5 st5 hQ5
  subst l5 y5 z5
  obtain ⟨rfl, N5q, E5q⟩ := hQ5
  have K5q : Keep T4.heap T5.heap [] := by rw [E5q]; exact Keep.refl _ _
  have KK5 : Keep h0 T5.heap [] := (KK4).trans K5q all0
  have Z5 : n0 ≤ T5.heap.size := Nat.le_trans Z4 K5q.1
  have N5 := Fr.app N4 N5q
  obtain ⟨_, _, ⟨T6, L6, k6, n6⟩, -, X6, ⟨Lc6, hQ6, l6, y6, z6⟩, st6⟩ := Jvm.LawKit.callS X5 hx (y := (⟨"com/example/nto1/nto1/IdentityEqualsPinLaw", "ch", "(I)C"⟩ : MethodName)) hown (mvT hZ (hw _ (List.mem_of_getElem? (i := 10) rfl))) (mvT hZ (hw _ (List.mem_of_getElem? (i := 11) rfl))) (mvT hZ (hw _ (List.mem_of_getElem? (i := 5) rfl))) (mvT hZ (hw _ (List.mem_of_getElem? (i := 12) rfl))) (by decide) (backOf (W := 0) (rm3 l Z a0 hw [] ((p1.toUInt32 >>> ((6 : Int32) &&& 31).toUInt32).toInt32) T5.heap n0 Z5) hZ (hw _ (List.mem_of_getElem? (i := 12) rfl)) (hw _ (List.mem_of_getElem? (i := 5) rfl)) (by decide) (by decide)) (g := (mkF m 25 #[.val (.int p1), .val (.int p2), .val (.int (own_len p1 p2)), .val (.int (own_c ((p1.toUInt32 >>> ((2 : Int32) &&& 31).toUInt32).toInt32))), .val (.int (own_c ((p1.toUInt32 >>> ((4 : Int32) &&& 31).toUInt32).toInt32))), .unset] [(.int ((p1.toUInt32 >>> ((6 : Int32) &&& 31).toUInt32).toInt32))])) rfl (by rw [hml]; rfl) (argsL := [(.int ((p1.toUInt32 >>> ((6 : Int32) &&& 31).toUInt32).toInt32))]) (rest := []) (lenOf pd_1_2 rfl) rfl (by show 2 * 0 + _ ≤ _; exact Nat.le_of_eq rfl) (hb hby d1_25) (fun _ _ => ⟨rfl, rfl, (by decide : 0 + 0 ≤ _), (by decide : 0 + 0 ≤ _)⟩)
  dsimp only [Pt.U, Pt.locs, Pt.cells, Pt.slots] at X6 l6 y6 z6 st6 hQ6
  subst l6 y6 z6
  obtain ⟨rfl, N6q, E6q⟩ := hQ6
  have K6q : Keep T5.heap T6.heap [] := by rw [E6q]; exact Keep.refl _ _
  have KK6 : Keep h0 T6.heap [] := (KK5).trans K6q all0
  have Z6 : n0 ≤ T6.heap.size := Nat.le_trans Z5 K6q.1
  have N6 := Fr.app N5 N6q
  have own_e6 : T6.heap = h0 := E6q.trans (E5q.trans (E4q.trans E3q))
  obtain ⟨T7, h7, X7, e7, E7, A7, D7, -, st7⟩ := newO X6 hx hZ hown (hw _ (List.mem_of_getElem? (i := 21) rfl)) (hw _ (List.mem_of_getElem? (i := 15) rfl)) (hw _ (List.mem_of_getElem? (i := 14) rfl)) rfl (g := (mkF m 62 #[.val (.int p1), .val (.int p2), .val (.int (own_len p1 p2)), .val (.int (own_c ((p1.toUInt32 >>> ((2 : Int32) &&& 31).toUInt32).toInt32))), .val (.int (own_c ((p1.toUInt32 >>> ((4 : Int32) &&& 31).toUInt32).toInt32))), .val (.int (own_c ((p1.toUInt32 >>> ((6 : Int32) &&& 31).toUInt32).toInt32)))] [])) rfl (hb hby d1_62) (by decide) (by decide)
  obtain ⟨b7, g7⟩ : ∃ z, z = T6.heap.size := ⟨_, rfl⟩      -- the fresh object's address
  have Z7 : n0 ≤ h7.size := Nat.le_trans Z6 E7.1
  rw [← g7] at A7 D7 st7      -- A7 : Exa Z h7 b7 "java/lang/String"; E7 : Ext T6.heap h7 (carries every older fact: .ext E7)
  have F_value_b7 : Fld Z h7 b7 "java/lang/String" "value" "[B" .null := D7 (Or.inr (hw _ (List.mem_of_getElem? (i := 17) rfl))) (ty := (.array .byte)) (by decide)
  have F_coder_b7 : Fld Z h7 b7 "java/lang/String" "coder" "B" (.int (0 : Int32)) := D7 (Or.inr (hw _ (List.mem_of_getElem? (i := 18) rfl))) (ty := .byte) (by decide)
  have E_b7 := A7
  have g_b7 : n0 ≤ b7 := Nat.le_trans (Nat.le_trans (Nat.le_trans (Nat.le_trans (Nat.le_trans Z0 K3q.1) K4q.1) K5q.1) K6q.1) (Nat.le_of_eq g7.symm)
  have sz_b7 : h0.size ≤ b7 := (Nat.le_trans (KK6).1 (Nat.le_of_eq g7.symm))
  have K7 : Keep h0 h7 [] := (KK6).ext E7
  obtain ⟨T8, h8, k8, X8, e8, E8, A8, st8⟩ := newP X7 hx hZ (hw _ (List.mem_of_getElem? (i := 22) rfl)) e7 (g := (mkF m 67 #[.val (.int p1), .val (.int p2), .val (.int (own_len p1 p2)), .val (.int (own_c ((p1.toUInt32 >>> ((2 : Int32) &&& 31).toUInt32).toInt32))), .val (.int (own_c ((p1.toUInt32 >>> ((4 : Int32) &&& 31).toUInt32).toInt32))), .val (.int (own_c ((p1.toUInt32 >>> ((6 : Int32) &&& 31).toUInt32).toInt32)))] [(.int (2 : Int32)), (.ref b7), (.ref b7)])) rfl (hb hby d1_67) rfl (by decide) (cap := 2) (by decide) (by decide) (by decide) (by decide)
  obtain ⟨b8, g8⟩ : ∃ z, z = h7.size := ⟨_, rfl⟩      -- the fresh array's address
  have Z8 : n0 ≤ h8.size := Nat.le_trans Z7 E8.1
  rw [← g8] at A8 st8
  have V_b8 : Arv Z h8 b8 k8 .char (2 : Int32) [(.int (0 : Int32)), (.int (0 : Int32))] (.int (0 : Int32)) := (Arv.new A8 (by decide)).pad (pad_rep [] (.int (0 : Int32)) 2)
  have g_b8 : n0 ≤ b8 := Nat.le_trans (Nat.le_trans (Nat.le_trans (Nat.le_trans (Nat.le_trans (Nat.le_trans Z0 K3q.1) K4q.1) K5q.1) K6q.1) E7.1) (Nat.le_of_eq g8.symm)
  have sz_b8 : h0.size ≤ b8 := (Nat.le_trans K7.1 (Nat.le_of_eq g8.symm))
  have K8 : Keep h0 h8 [] := K7.ext E8
  obtain ⟨cl_b8_72, Ar_b8, q_b8, S_b8, N_b8, H_b8, G_b8⟩ := V_b8      -- open the array's fact as it stands now (its cell, kind, length, elements)
  have hin72 : ¬ ((0 : Int32) < 0 ∨ cl_b8_72.slots.size ≤ ((0 : Int32)).toNatClampNeg) := inb_of S_b8 ⟨by decide, by decide⟩
  obtain ⟨T9, h9, X9, e9, W9, st9⟩ := stC X8 hx hZ e8 Ar_b8 (j := (0 : Int32)) hin72 (g := (mkF m 72 #[.val (.int p1), .val (.int p2), .val (.int (own_len p1 p2)), .val (.int (own_c ((p1.toUInt32 >>> ((2 : Int32) &&& 31).toUInt32).toInt32))), .val (.int (own_c ((p1.toUInt32 >>> ((4 : Int32) &&& 31).toUInt32).toInt32))), .val (.int (own_c ((p1.toUInt32 >>> ((6 : Int32) &&& 31).toUInt32).toInt32)))] [(.int (own_c ((p1.toUInt32 >>> ((2 : Int32) &&& 31).toUInt32).toInt32))), (.int (0 : Int32)), (.ref b8), (.ref b8), (.ref b7), (.ref b7)])) rfl rfl (hb hby d1_72)
  have Z9 : n0 ≤ h9.size := Nat.le_trans Z8 (Keep.of_wr W9).1
  have V_b8_9 := Arv.set Ar_b8 q_b8 S_b8 N_b8 H_b8 G_b8 (fits_nar_char _) W9 0 rfl (Nat.le_of_ble_eq_true rfl)      -- the array as it stands now (the place must lie among its first values: Arv.pad with pad_rep lengthens them)
  have K9 : Keep h0 h9 [] := K8.wr W9 (Or.inr sz_b8)
  have N9 := Fr.snoc X9 N6 g_b8
  obtain ⟨cl_b8_77, Ar_b8, q_b8, S_b8, N_b8, H_b8, G_b8⟩ := V_b8_9      -- open the array's fact as it stands now (its cell, kind, length, elements)
  have hin77 : ¬ ((1 : Int32) < 0 ∨ cl_b8_77.slots.size ≤ ((1 : Int32)).toNatClampNeg) := inb_of S_b8 ⟨by decide, by decide⟩
  obtain ⟨T10, h10, X10, e10, W10, st10⟩ := stC X9 hx hZ e9 Ar_b8 (j := (1 : Int32)) hin77 (g := (mkF m 77 #[.val (.int p1), .val (.int p2), .val (.int (own_len p1 p2)), .val (.int (own_c ((p1.toUInt32 >>> ((2 : Int32) &&& 31).toUInt32).toInt32))), .val (.int (own_c ((p1.toUInt32 >>> ((4 : Int32) &&& 31).toUInt32).toInt32))), .val (.int (own_c ((p1.toUInt32 >>> ((6 : Int32) &&& 31).toUInt32).toInt32)))] [(.int (own_c ((p1.toUInt32 >>> ((4 : Int32) &&& 31).toUInt32).toInt32))), (.int (1 : Int32)), (.ref b8), (.ref b8), (.ref b7), (.ref b7)])) rfl rfl (hb hby d1_77)
  have Z10 : n0 ≤ h10.size := Nat.le_trans Z9 (Keep.of_wr W10).1
  have V_b8_10 := Arv.set Ar_b8 q_b8 S_b8 N_b8 H_b8 G_b8 (fits_nar_char _) W10 1 rfl (Nat.le_of_ble_eq_true rfl)      -- the array as it stands now (the place must lie among its first values: Arv.pad with pad_rep lengthens them)
  have K10 : Keep h0 h10 [] := K9.wr W10 (Or.inr sz_b8)
  have N10 := Fr.snoc X10 N9 g_b8
  have CE5_b7 := (((E_b7.ext E8).wr W9).wr W10)
  have CV5_b8 := V_b8_10
  have hws : ∀ d ∈ StrChars.Road.words, d.before a0 Z = true := fun d hd => hw d ((by decide +kernel : ∀ d ∈ StrChars.Road.words, d ∈ tables_1) d hd)
  have own_ne : b7 ≠ b8 := Nat.ne_of_lt (Nat.lt_of_lt_of_le E_b7.lt (Nat.le_of_eq g8.symm))
  have own_hp : ∀ c ∈ ([nar .char (own_c (own_sh p1 2)), nar .char (own_c (own_sh p1 4))] : List Int32), ¬ c < 0 ∧ ¬ (255 : Int32) < c := (fun c hc => by simp only [List.mem_cons, List.not_mem_nil, or_false] at hc; rcases hc with rfl | rfl <;> (rw [own_c_nar]; exact own_b_n (own_ok_b (own_c_ok _))))
  obtain ⟨_, _, ⟨T11, L11, k11, n11⟩, -, X11, ⟨Lc11, hQ11, l11, y11, z11⟩, st11⟩ := X10.specialBack hx (y := (⟨"java/lang/String", "<init>", "([C)V"⟩ : MethodName)) rfl hown (mvT hZ (hw _ (List.mem_of_getElem? (i := 23) rfl))) (mvT hZ (hw _ (List.mem_of_getElem? (i := 24) rfl))) (mvT hZ (hw _ (List.mem_of_getElem? (i := 25) rfl))) (by decide) (StrChars.Road.backV (W := 1) hZ hws (kI := 4) (hw _ (List.mem_of_getElem? (i := 15) rfl)) (cs := ([nar .char (own_c (own_sh p1 2)), nar .char (own_c (own_sh p1 4))] : List Int32)) (bs := (([nar .char (own_c (own_sh p1 2)), nar .char (own_c (own_sh p1 4))] : List Int32)).map (fun c => c.toInt8.toInt32)) (n := 2) g_b7 Z10 CE5_b7 (((F_value_b7.ext E8).other W9 (Or.inl own_ne)).other W10 (Or.inl own_ne)) (((F_coder_b7.ext E8).other W9 (Or.inl own_ne)).other W10 (Or.inl own_ne)) CV5_b8 (S_C.ext (X00.keep K10 all0).2) hzc rfl rfl (by decide) (by decide) own_hp rfl (by decide) (by decide)) (g := (mkF m 78 #[.val (.int p1), .val (.int p2), .val (.int (own_len p1 p2)), .val (.int (own_c ((p1.toUInt32 >>> ((2 : Int32) &&& 31).toUInt32).toInt32))), .val (.int (own_c ((p1.toUInt32 >>> ((4 : Int32) &&& 31).toUInt32).toInt32))), .val (.int (own_c ((p1.toUInt32 >>> ((6 : Int32) &&& 31).toUInt32).toInt32)))] [(.ref b8), (.ref b7), (.ref b7)])) rfl (by rw [hml]; rfl) (Steps.refl _) (a := b7) (argsL := [(.ref b8)]) (rest := [(.ref b7)]) (lenOf pd_1_3 rfl) rfl (by show 2 * 0 + _ ≤ _; exact Nat.le_of_eq rfl) (hb hby d1_78) (fun _ _ => ⟨rfl, e10, (by decide : 2 + 1 ≤ _), (by decide : 6 + 2 ≤ _)⟩)
  dsimp only [Pt.U, Pt.locs, Pt.cells, Pt.slots] at X11 l11 y11 z11 st11 hQ11
  subst l11 y11 z11
  obtain ⟨rfl, N11q, K11q, A11, C11, tv11, kb11, gv11, sv11, nv11, V11, R11⟩ := hQ11
  have KK11 : Keep h0 T11.heap [] := (K10).trans K11q (allS (Or.inr sz_b7) all0)
  have Z11 : n0 ≤ T11.heap.size := Nat.le_trans Z10 K11q.1
  have KK11x : Keep h0 T11.heap [] := K10.trans K11q (allS (Or.inr sz_b7) all0)
  have N11 := Fr.app N10 N11q
  have CHf : CHr Z consts_1 s.vm h0 T11.vm T11.heap := (CHr.keep KK11 all0 H0).trans (CHv.at X11 hZ hEL (H0.keep KK11 all0))
  obtain ⟨fs, hr, hrun, hended, hRW⟩ := X11.leaveW hS (by exact KK11.1) (v := some (.ref b7)) (fun h => by rw [Bd.returns] at h; cases h)
  refine ⟨_, _, pre0 _ ?_, hrun, hended, _, _, rfl, ?_, (by rw [hh]; exact CHf), ⟨_, rfl⟩, hRW.2.1, hRW.2.2.1, hRW.2.2.2.mono (by decide) (by decide)⟩
  · show Steps p.tables e below (s₁.setTop (mkF m 0 #[.val (.int p1), .val (.int p2), .unset, .unset, .unset, .unset] [])) _
    refine XS.iloadN X0.here hx rfl (hb hby d1_0) rfl ?_
    show Steps p.tables e below (s₁.setTop (mkF m 1 #[.val (.int p1), .val (.int p2), .unset, .unset, .unset, .unset] [(.int p1)])) _
    refine XS.iloadN X0.here hx rfl (hb hby d1_1) rfl ?_
    show Steps p.tables e below (s₁.setTop (mkF m 2 #[.val (.int p1), .val (.int p2), .unset, .unset, .unset, .unset] [(.int p2), (.int p1)])) _
    refine st3 _ ?_
    show Steps p.tables e below (T3.setTop (mkF m 5 #[.val (.int p1), .val (.int p2), .unset, .unset, .unset, .unset] [(.int (own_len p1 p2))])) _
    refine XS.istoreN X3.here hx rfl (hb hby d1_5) rfl (l' := #[.val (.int p1), .val (.int p2), .val (.int (own_len p1 p2)), .unset, .unset, .unset]) rfl ?_
    show Steps p.tables e below (T3.setTop (mkF m 6 #[.val (.int p1), .val (.int p2), .val (.int (own_len p1 p2)), .unset, .unset, .unset] [])) _
    refine XS.iloadN X3.here hx rfl (hb hby d1_6) rfl ?_
    show Steps p.tables e below (T3.setTop (mkF m 7 #[.val (.int p1), .val (.int p2), .val (.int (own_len p1 p2)), .unset, .unset, .unset] [(.int p1)])) _
    refine XS.iconst X3.here hx rfl (hb hby d1_7) ?_
    show Steps p.tables e below (T3.setTop (mkF m 8 #[.val (.int p1), .val (.int p2), .val (.int (own_len p1 p2)), .unset, .unset, .unset] [(.int (2 : Int32)), (.int p1)])) _
    refine XS.iushr X3.here hx rfl (hb hby d1_8) rfl ?_
    show Steps p.tables e below (T3.setTop (mkF m 9 #[.val (.int p1), .val (.int p2), .val (.int (own_len p1 p2)), .unset, .unset, .unset] [(.int ((p1.toUInt32 >>> ((2 : Int32) &&& 31).toUInt32).toInt32))])) _
    refine st4 _ ?_
    show Steps p.tables e below (T4.setTop (mkF m 12 #[.val (.int p1), .val (.int p2), .val (.int (own_len p1 p2)), .unset, .unset, .unset] [(.int (own_c ((p1.toUInt32 >>> ((2 : Int32) &&& 31).toUInt32).toInt32)))])) _
    refine XS.istoreN X4.here hx rfl (hb hby d1_12) rfl (l' := #[.val (.int p1), .val (.int p2), .val (.int (own_len p1 p2)), .val (.int (own_c ((p1.toUInt32 >>> ((2 : Int32) &&& 31).toUInt32).toInt32))), .unset, .unset]) rfl ?_
    show Steps p.tables e below (T4.setTop (mkF m 13 #[.val (.int p1), .val (.int p2), .val (.int (own_len p1 p2)), .val (.int (own_c ((p1.toUInt32 >>> ((2 : Int32) &&& 31).toUInt32).toInt32))), .unset, .unset] [])) _
    refine XS.iloadN X4.here hx rfl (hb hby d1_13) rfl ?_
    show Steps p.tables e below (T4.setTop (mkF m 14 #[.val (.int p1), .val (.int p2), .val (.int (own_len p1 p2)), .val (.int (own_c ((p1.toUInt32 >>> ((2 : Int32) &&& 31).toUInt32).toInt32))), .unset, .unset] [(.int p1)])) _
    refine XS.iconst X4.here hx rfl (hb hby d1_14) ?_
    show Steps p.tables e below (T4.setTop (mkF m 15 #[.val (.int p1), .val (.int p2), .val (.int (own_len p1 p2)), .val (.int (own_c ((p1.toUInt32 >>> ((2 : Int32) &&& 31).toUInt32).toInt32))), .unset, .unset] [(.int (4 : Int32)), (.int p1)])) _
    refine XS.iushr X4.here hx rfl (hb hby d1_15) rfl ?_
    show Steps p.tables e below (T4.setTop (mkF m 16 #[.val (.int p1), .val (.int p2), .val (.int (own_len p1 p2)), .val (.int (own_c ((p1.toUInt32 >>> ((2 : Int32) &&& 31).toUInt32).toInt32))), .unset, .unset] [(.int ((p1.toUInt32 >>> ((4 : Int32) &&& 31).toUInt32).toInt32))])) _
    refine st5 _ ?_
    show Steps p.tables e below (T5.setTop (mkF m 19 #[.val (.int p1), .val (.int p2), .val (.int (own_len p1 p2)), .val (.int (own_c ((p1.toUInt32 >>> ((2 : Int32) &&& 31).toUInt32).toInt32))), .unset, .unset] [(.int (own_c ((p1.toUInt32 >>> ((4 : Int32) &&& 31).toUInt32).toInt32)))])) _
    refine XS.istore X5.here hx rfl (hb hby d1_19) rfl (l' := #[.val (.int p1), .val (.int p2), .val (.int (own_len p1 p2)), .val (.int (own_c ((p1.toUInt32 >>> ((2 : Int32) &&& 31).toUInt32).toInt32))), .val (.int (own_c ((p1.toUInt32 >>> ((4 : Int32) &&& 31).toUInt32).toInt32))), .unset]) rfl ?_
    show Steps p.tables e below (T5.setTop (mkF m 21 #[.val (.int p1), .val (.int p2), .val (.int (own_len p1 p2)), .val (.int (own_c ((p1.toUInt32 >>> ((2 : Int32) &&& 31).toUInt32).toInt32))), .val (.int (own_c ((p1.toUInt32 >>> ((4 : Int32) &&& 31).toUInt32).toInt32))), .unset] [])) _
    refine XS.iloadN X5.here hx rfl (hb hby d1_21) rfl ?_
    show Steps p.tables e below (T5.setTop (mkF m 22 #[.val (.int p1), .val (.int p2), .val (.int (own_len p1 p2)), .val (.int (own_c ((p1.toUInt32 >>> ((2 : Int32) &&& 31).toUInt32).toInt32))), .val (.int (own_c ((p1.toUInt32 >>> ((4 : Int32) &&& 31).toUInt32).toInt32))), .unset] [(.int p1)])) _
    refine XS.bipush X5.here hx rfl (hb hby d1_22) ?_
    show Steps p.tables e below (T5.setTop (mkF m 24 #[.val (.int p1), .val (.int p2), .val (.int (own_len p1 p2)), .val (.int (own_c ((p1.toUInt32 >>> ((2 : Int32) &&& 31).toUInt32).toInt32))), .val (.int (own_c ((p1.toUInt32 >>> ((4 : Int32) &&& 31).toUInt32).toInt32))), .unset] [(.int (6 : Int32)), (.int p1)])) _
    refine XS.iushr X5.here hx rfl (hb hby d1_24) rfl ?_
    show Steps p.tables e below (T5.setTop (mkF m 25 #[.val (.int p1), .val (.int p2), .val (.int (own_len p1 p2)), .val (.int (own_c ((p1.toUInt32 >>> ((2 : Int32) &&& 31).toUInt32).toInt32))), .val (.int (own_c ((p1.toUInt32 >>> ((4 : Int32) &&& 31).toUInt32).toInt32))), .unset] [(.int ((p1.toUInt32 >>> ((6 : Int32) &&& 31).toUInt32).toInt32))])) _
    refine st6 _ ?_
    show Steps p.tables e below (T6.setTop (mkF m 28 #[.val (.int p1), .val (.int p2), .val (.int (own_len p1 p2)), .val (.int (own_c ((p1.toUInt32 >>> ((2 : Int32) &&& 31).toUInt32).toInt32))), .val (.int (own_c ((p1.toUInt32 >>> ((4 : Int32) &&& 31).toUInt32).toInt32))), .unset] [(.int (own_c ((p1.toUInt32 >>> ((6 : Int32) &&& 31).toUInt32).toInt32)))])) _
    refine XS.istore X6.here hx rfl (hb hby d1_28) rfl (l' := #[.val (.int p1), .val (.int p2), .val (.int (own_len p1 p2)), .val (.int (own_c ((p1.toUInt32 >>> ((2 : Int32) &&& 31).toUInt32).toInt32))), .val (.int (own_c ((p1.toUInt32 >>> ((4 : Int32) &&& 31).toUInt32).toInt32))), .val (.int (own_c ((p1.toUInt32 >>> ((6 : Int32) &&& 31).toUInt32).toInt32)))]) rfl ?_
    show Steps p.tables e below (T6.setTop (mkF m 30 #[.val (.int p1), .val (.int p2), .val (.int (own_len p1 p2)), .val (.int (own_c ((p1.toUInt32 >>> ((2 : Int32) &&& 31).toUInt32).toInt32))), .val (.int (own_c ((p1.toUInt32 >>> ((4 : Int32) &&& 31).toUInt32).toInt32))), .val (.int (own_c ((p1.toUInt32 >>> ((6 : Int32) &&& 31).toUInt32).toInt32)))] [])) _
    refine XS.iloadN X6.here hx rfl (hb hby d1_30) rfl ?_
    show Steps p.tables e below (T6.setTop (mkF m 31 #[.val (.int p1), .val (.int p2), .val (.int (own_len p1 p2)), .val (.int (own_c ((p1.toUInt32 >>> ((2 : Int32) &&& 31).toUInt32).toInt32))), .val (.int (own_c ((p1.toUInt32 >>> ((4 : Int32) &&& 31).toUInt32).toInt32))), .val (.int (own_c ((p1.toUInt32 >>> ((6 : Int32) &&& 31).toUInt32).toInt32)))] [(.int (own_len p1 p2))])) _
    refine XS.ifYes X6.here hx rfl (pc0 := 31) (pc' := 37) rfl (hb hby d1_31) rfl ((if0 _ _).trans (feq (q0 : ¬ ((own_len p1 p2) = (0 : Int32)))).2) (by decide) (by decide) ?_
    show Steps p.tables e below (T6.setTop (mkF m 37 #[.val (.int p1), .val (.int p2), .val (.int (own_len p1 p2)), .val (.int (own_c ((p1.toUInt32 >>> ((2 : Int32) &&& 31).toUInt32).toInt32))), .val (.int (own_c ((p1.toUInt32 >>> ((4 : Int32) &&& 31).toUInt32).toInt32))), .val (.int (own_c ((p1.toUInt32 >>> ((6 : Int32) &&& 31).toUInt32).toInt32)))] [])) _
    refine XS.iloadN X6.here hx rfl (hb hby d1_37) rfl ?_
    show Steps p.tables e below (T6.setTop (mkF m 38 #[.val (.int p1), .val (.int p2), .val (.int (own_len p1 p2)), .val (.int (own_c ((p1.toUInt32 >>> ((2 : Int32) &&& 31).toUInt32).toInt32))), .val (.int (own_c ((p1.toUInt32 >>> ((4 : Int32) &&& 31).toUInt32).toInt32))), .val (.int (own_c ((p1.toUInt32 >>> ((6 : Int32) &&& 31).toUInt32).toInt32)))] [(.int (own_len p1 p2))])) _
    refine XS.iconst X6.here hx rfl (hb hby d1_38) ?_
    show Steps p.tables e below (T6.setTop (mkF m 39 #[.val (.int p1), .val (.int p2), .val (.int (own_len p1 p2)), .val (.int (own_c ((p1.toUInt32 >>> ((2 : Int32) &&& 31).toUInt32).toInt32))), .val (.int (own_c ((p1.toUInt32 >>> ((4 : Int32) &&& 31).toUInt32).toInt32))), .val (.int (own_c ((p1.toUInt32 >>> ((6 : Int32) &&& 31).toUInt32).toInt32)))] [(.int (1 : Int32)), (.int (own_len p1 p2))])) _
    refine XS.icmpYes X6.here hx rfl (pc0 := 39) (pc' := 57) rfl (hb hby d1_39) rfl (feq (q1 : ¬ ((own_len p1 p2) = (1 : Int32)))).2 (by decide) (by decide) ?_
    show Steps p.tables e below (T6.setTop (mkF m 57 #[.val (.int p1), .val (.int p2), .val (.int (own_len p1 p2)), .val (.int (own_c ((p1.toUInt32 >>> ((2 : Int32) &&& 31).toUInt32).toInt32))), .val (.int (own_c ((p1.toUInt32 >>> ((4 : Int32) &&& 31).toUInt32).toInt32))), .val (.int (own_c ((p1.toUInt32 >>> ((6 : Int32) &&& 31).toUInt32).toInt32)))] [])) _
    refine XS.iloadN X6.here hx rfl (hb hby d1_57) rfl ?_
    show Steps p.tables e below (T6.setTop (mkF m 58 #[.val (.int p1), .val (.int p2), .val (.int (own_len p1 p2)), .val (.int (own_c ((p1.toUInt32 >>> ((2 : Int32) &&& 31).toUInt32).toInt32))), .val (.int (own_c ((p1.toUInt32 >>> ((4 : Int32) &&& 31).toUInt32).toInt32))), .val (.int (own_c ((p1.toUInt32 >>> ((6 : Int32) &&& 31).toUInt32).toInt32)))] [(.int (own_len p1 p2))])) _
    refine XS.iconst X6.here hx rfl (hb hby d1_58) ?_
    show Steps p.tables e below (T6.setTop (mkF m 59 #[.val (.int p1), .val (.int p2), .val (.int (own_len p1 p2)), .val (.int (own_c ((p1.toUInt32 >>> ((2 : Int32) &&& 31).toUInt32).toInt32))), .val (.int (own_c ((p1.toUInt32 >>> ((4 : Int32) &&& 31).toUInt32).toInt32))), .val (.int (own_c ((p1.toUInt32 >>> ((6 : Int32) &&& 31).toUInt32).toInt32)))] [(.int (2 : Int32)), (.int (own_len p1 p2))])) _
    refine XS.icmpNo X6.here hx rfl (hb hby d1_59) rfl (teq (q2 : (own_len p1 p2) = (2 : Int32))).2 ?_
    show Steps p.tables e below (T6.setTop (mkF m 62 #[.val (.int p1), .val (.int p2), .val (.int (own_len p1 p2)), .val (.int (own_c ((p1.toUInt32 >>> ((2 : Int32) &&& 31).toUInt32).toInt32))), .val (.int (own_c ((p1.toUInt32 >>> ((4 : Int32) &&& 31).toUInt32).toInt32))), .val (.int (own_c ((p1.toUInt32 >>> ((6 : Int32) &&& 31).toUInt32).toInt32)))] [])) _
    refine st7 _ ?_
    show Steps p.tables e below (T7.setTop (mkF m 65 #[.val (.int p1), .val (.int p2), .val (.int (own_len p1 p2)), .val (.int (own_c ((p1.toUInt32 >>> ((2 : Int32) &&& 31).toUInt32).toInt32))), .val (.int (own_c ((p1.toUInt32 >>> ((4 : Int32) &&& 31).toUInt32).toInt32))), .val (.int (own_c ((p1.toUInt32 >>> ((6 : Int32) &&& 31).toUInt32).toInt32)))] [(.ref b7)])) _
    refine XS.dup X7.here hx rfl (hb hby d1_65) rfl rfl ?_
    show Steps p.tables e below (T7.setTop (mkF m 66 #[.val (.int p1), .val (.int p2), .val (.int (own_len p1 p2)), .val (.int (own_c ((p1.toUInt32 >>> ((2 : Int32) &&& 31).toUInt32).toInt32))), .val (.int (own_c ((p1.toUInt32 >>> ((4 : Int32) &&& 31).toUInt32).toInt32))), .val (.int (own_c ((p1.toUInt32 >>> ((6 : Int32) &&& 31).toUInt32).toInt32)))] [(.ref b7), (.ref b7)])) _
    refine XS.iconst X7.here hx rfl (hb hby d1_66) ?_
    show Steps p.tables e below (T7.setTop (mkF m 67 #[.val (.int p1), .val (.int p2), .val (.int (own_len p1 p2)), .val (.int (own_c ((p1.toUInt32 >>> ((2 : Int32) &&& 31).toUInt32).toInt32))), .val (.int (own_c ((p1.toUInt32 >>> ((4 : Int32) &&& 31).toUInt32).toInt32))), .val (.int (own_c ((p1.toUInt32 >>> ((6 : Int32) &&& 31).toUInt32).toInt32)))] [(.int (2 : Int32)), (.ref b7), (.ref b7)])) _
    refine st8 _ ?_
    show Steps p.tables e below (T8.setTop (mkF m 69 #[.val (.int p1), .val (.int p2), .val (.int (own_len p1 p2)), .val (.int (own_c ((p1.toUInt32 >>> ((2 : Int32) &&& 31).toUInt32).toInt32))), .val (.int (own_c ((p1.toUInt32 >>> ((4 : Int32) &&& 31).toUInt32).toInt32))), .val (.int (own_c ((p1.toUInt32 >>> ((6 : Int32) &&& 31).toUInt32).toInt32)))] [(.ref b8), (.ref b7), (.ref b7)])) _
    refine XS.dup X8.here hx rfl (hb hby d1_69) rfl rfl ?_
    show Steps p.tables e below (T8.setTop (mkF m 70 #[.val (.int p1), .val (.int p2), .val (.int (own_len p1 p2)), .val (.int (own_c ((p1.toUInt32 >>> ((2 : Int32) &&& 31).toUInt32).toInt32))), .val (.int (own_c ((p1.toUInt32 >>> ((4 : Int32) &&& 31).toUInt32).toInt32))), .val (.int (own_c ((p1.toUInt32 >>> ((6 : Int32) &&& 31).toUInt32).toInt32)))] [(.ref b8), (.ref b8), (.ref b7), (.ref b7)])) _
    refine XS.iconst X8.here hx rfl (hb hby d1_70) ?_
    show Steps p.tables e below (T8.setTop (mkF m 71 #[.val (.int p1), .val (.int p2), .val (.int (own_len p1 p2)), .val (.int (own_c ((p1.toUInt32 >>> ((2 : Int32) &&& 31).toUInt32).toInt32))), .val (.int (own_c ((p1.toUInt32 >>> ((4 : Int32) &&& 31).toUInt32).toInt32))), .val (.int (own_c ((p1.toUInt32 >>> ((6 : Int32) &&& 31).toUInt32).toInt32)))] [(.int (0 : Int32)), (.ref b8), (.ref b8), (.ref b7), (.ref b7)])) _
    refine XS.iloadN X8.here hx rfl (hb hby d1_71) rfl ?_
    show Steps p.tables e below (T8.setTop (mkF m 72 #[.val (.int p1), .val (.int p2), .val (.int (own_len p1 p2)), .val (.int (own_c ((p1.toUInt32 >>> ((2 : Int32) &&& 31).toUInt32).toInt32))), .val (.int (own_c ((p1.toUInt32 >>> ((4 : Int32) &&& 31).toUInt32).toInt32))), .val (.int (own_c ((p1.toUInt32 >>> ((6 : Int32) &&& 31).toUInt32).toInt32)))] [(.int (own_c ((p1.toUInt32 >>> ((2 : Int32) &&& 31).toUInt32).toInt32))), (.int (0 : Int32)), (.ref b8), (.ref b8), (.ref b7), (.ref b7)])) _
    refine st9 _ ?_
    show Steps p.tables e below (T9.setTop (mkF m 73 #[.val (.int p1), .val (.int p2), .val (.int (own_len p1 p2)), .val (.int (own_c ((p1.toUInt32 >>> ((2 : Int32) &&& 31).toUInt32).toInt32))), .val (.int (own_c ((p1.toUInt32 >>> ((4 : Int32) &&& 31).toUInt32).toInt32))), .val (.int (own_c ((p1.toUInt32 >>> ((6 : Int32) &&& 31).toUInt32).toInt32)))] [(.ref b8), (.ref b7), (.ref b7)])) _
    refine XS.dup X9.here hx rfl (hb hby d1_73) rfl rfl ?_
    show Steps p.tables e below (T9.setTop (mkF m 74 #[.val (.int p1), .val (.int p2), .val (.int (own_len p1 p2)), .val (.int (own_c ((p1.toUInt32 >>> ((2 : Int32) &&& 31).toUInt32).toInt32))), .val (.int (own_c ((p1.toUInt32 >>> ((4 : Int32) &&& 31).toUInt32).toInt32))), .val (.int (own_c ((p1.toUInt32 >>> ((6 : Int32) &&& 31).toUInt32).toInt32)))] [(.ref b8), (.ref b8), (.ref b7), (.ref b7)])) _
    refine XS.iconst X9.here hx rfl (hb hby d1_74) ?_
    show Steps p.tables e below (T9.setTop (mkF m 75 #[.val (.int p1), .val (.int p2), .val (.int (own_len p1 p2)), .val (.int (own_c ((p1.toUInt32 >>> ((2 : Int32) &&& 31).toUInt32).toInt32))), .val (.int (own_c ((p1.toUInt32 >>> ((4 : Int32) &&& 31).toUInt32).toInt32))), .val (.int (own_c ((p1.toUInt32 >>> ((6 : Int32) &&& 31).toUInt32).toInt32)))] [(.int (1 : Int32)), (.ref b8), (.ref b8), (.ref b7), (.ref b7)])) _
    refine XS.iload X9.here hx rfl (hb hby d1_75) rfl ?_
    show Steps p.tables e below (T9.setTop (mkF m 77 #[.val (.int p1), .val (.int p2), .val (.int (own_len p1 p2)), .val (.int (own_c ((p1.toUInt32 >>> ((2 : Int32) &&& 31).toUInt32).toInt32))), .val (.int (own_c ((p1.toUInt32 >>> ((4 : Int32) &&& 31).toUInt32).toInt32))), .val (.int (own_c ((p1.toUInt32 >>> ((6 : Int32) &&& 31).toUInt32).toInt32)))] [(.int (own_c ((p1.toUInt32 >>> ((4 : Int32) &&& 31).toUInt32).toInt32))), (.int (1 : Int32)), (.ref b8), (.ref b8), (.ref b7), (.ref b7)])) _
    refine st10 _ ?_
    show Steps p.tables e below (T10.setTop (mkF m 78 #[.val (.int p1), .val (.int p2), .val (.int (own_len p1 p2)), .val (.int (own_c ((p1.toUInt32 >>> ((2 : Int32) &&& 31).toUInt32).toInt32))), .val (.int (own_c ((p1.toUInt32 >>> ((4 : Int32) &&& 31).toUInt32).toInt32))), .val (.int (own_c ((p1.toUInt32 >>> ((6 : Int32) &&& 31).toUInt32).toInt32)))] [(.ref b8), (.ref b7), (.ref b7)])) _
    refine st11.trans ?_
    show Steps p.tables e below (T11.setTop (mkF m 81 #[.val (.int p1), .val (.int p2), .val (.int (own_len p1 p2)), .val (.int (own_c ((p1.toUInt32 >>> ((2 : Int32) &&& 31).toUInt32).toInt32))), .val (.int (own_c ((p1.toUInt32 >>> ((4 : Int32) &&& 31).toUInt32).toInt32))), .val (.int (own_c ((p1.toUInt32 >>> ((6 : Int32) &&& 31).toUInt32).toInt32)))] [(.ref b7)])) _
    jvm_step X11.here [X11.here.top, hx, (hb hby d1_81), X11.method', Bd.returns, Value.isRef, FieldType.isReference]
    first | (intro acts; rw [hr _ acts rfl rfl rfl]) | rw [hr _ _ rfl rfl rfl]
    exact Steps.refl _
  · show Q1 Z p1 p2 h0 n0 _ T11.heap _
    exact ⟨b7, rfl, N11, KK11, by rw [show own_part p1 p2 = [nar .char (own_c (own_sh p1 2)), nar .char (own_c (own_sh p1 4))] from by simp only [own_c_nar]; exact (if_neg q0).trans ((if_neg q1).trans (if_pos q2))]; exact own_Str_of (n := 2) rfl rfl own_hp (by decide) A11 V11 C11 R11⟩
theorem d1_82 : decode method_5_code 82 = .ok (.new 36, 3) := by decide +kernel
theorem d1_85 : decode method_5_code 85 = .ok (.dup, 1) := by decide +kernel
theorem d1_86 : decode method_5_code 86 = .ok (.iconst 3, 1) := by decide +kernel
theorem d1_87 : decode method_5_code 87 = .ok (.newarray .char, 2) := by decide +kernel
theorem d1_89 : decode method_5_code 89 = .ok (.dup, 1) := by decide +kernel
theorem d1_90 : decode method_5_code 90 = .ok (.iconst 0, 1) := by decide +kernel
theorem d1_91 : decode method_5_code 91 = .ok (.iload_n 3, 1) := by decide +kernel
theorem d1_92 : decode method_5_code 92 = .ok (.castore, 1) := by decide +kernel
theorem d1_93 : decode method_5_code 93 = .ok (.dup, 1) := by decide +kernel
theorem d1_94 : decode method_5_code 94 = .ok (.iconst 1, 1) := by decide +kernel
theorem d1_95 : decode method_5_code 95 = .ok (.iload 4, 2) := by decide +kernel
theorem d1_97 : decode method_5_code 97 = .ok (.castore, 1) := by decide +kernel
theorem d1_98 : decode method_5_code 98 = .ok (.dup, 1) := by decide +kernel
theorem d1_99 : decode method_5_code 99 = .ok (.iconst 2, 1) := by decide +kernel
theorem d1_100 : decode method_5_code 100 = .ok (.iload 5, 2) := by decide +kernel
theorem d1_102 : decode method_5_code 102 = .ok (.castore, 1) := by decide +kernel
theorem d1_103 : decode method_5_code 103 = .ok (.invokespecial 38, 3) := by decide +kernel
theorem d1_106 : decode method_5_code 106 = .ok (.areturn, 1) := by decide +kernel
set_option maxRecDepth 65536 in
set_option maxHeartbeats 40000000 in
theorem rm1d (l : Launch) (Z : State) (a0 : Array Value) (hw : ∀ d ∈ tables_1, d.before a0 Z = true) (ws : List Jvm.Cond) (p1 : Int32) (p2 : Int32) (h0 : Heap) (n0 : Nat) (Z0 : n0 ≤ h0.size) (zc : Int32) (S_C : Sta Z Z.heap "java/lang/String" "COMPACT_STRINGS" "Z" (.int zc)) (hzc : ¬ zc = 0) (X00 : Old Z n0 h0) (q0 : ¬ own_len p1 p2 = 0) (q1 : ¬ own_len p1 p2 = 1) (q2 : ¬ own_len p1 p2 = 2) :
    MetFree l (⟨"com/example/nto1/nto1/IdentityEqualsPinLaw", "part", "(II)Ljava/lang/String;"⟩ : MethodName) (head1 (Jvm.Cond.code (⟨"com/example/nto1/nto1/IdentityEqualsPinLaw", "part", "(II)Ljava/lang/String;"⟩ : MethodName) method_5_code 6 (some (.object "java/lang/String")) :: ws) ({ frames := 4, cells := 3, slots := 10, locals := 66 } : Room)) (fun a U => a = #[(.int p1), (.int p2)] ∧ Z.Warmed39 U.vm ∧ U.heap = h0 ∧ CHv Z consts_1 U.vm h0 ∧ True) (fun _ _ _ _ _ => True) (fun _ U o U' => ∃ v L, o = .returned v ∧ Q1 Z p1 p2 h0 n0 v U'.heap L ∧ CHr Z consts_1 U.vm U.heap U'.vm U'.heap ∧ ReturnedEndW U o U' L ({ frames := 4, cells := 3, slots := 10, locals := 66 } : Room).cells ({ frames := 4, cells := 3, slots := 10, locals := 66 } : Room).slots) := by
  refine MetFree.of_bodySF (plainFor_of_name pn_1) hisR ?_
  intro p e s m args below meth c s₁ Bd hml0 hP hK
  obtain ⟨rfl, hZ, hh, H0, Sf0⟩ := hP
  have hx := Bd.exec
  have hby := Bd.bytes
  have hml : c.maxLocals = 6 := hml0
  have hown : s.vm.findClass "com/example/nto1/nto1/IdentityEqualsPinLaw" = some m.cls := findClass_of_methodNamed Bd.named
  have hnm := (name_of_methodNamed Bd.named Bd.method).1
  have X0 : Stand p l e ({ frames := 4, cells := 3, slots := 10, locals := 66 } : Room) (s.setVm s.vm) m #[(.int p1), (.int p2)] below meth c s₁ [] 0 0 := Stand.of_body Bd
  have e0 : s₁.heap = h0 := by rw [← hh, Bd.state]; rfl
  have N0 := Fr.nil n0
  have hS : s.Since s.vm h0.size := (State.WarmedH.refl s).since h0.size
  have hwS : ∀ a ∈ Bundle.stringAtoms, a.before a0 Z = true := fun d hd => hw d ((by decide +kernel : ∀ d ∈ Bundle.stringAtoms, d ∈ tables_1) d hd)
  have hEL := own_EL hw
  have hZ0 := hZ
  have hown0 := hown
  have pre0 : ∀ t, Steps p.tables e below (s₁.setTop (mkF m 0 #[.val (.int p1), .val (.int p2), .unset, .unset, .unset, .unset] [])) t → Steps p.tables e below (s₁.setTop (entryFrame m #[(.int p1), (.int p2)] 6)) t := fun t k => castTop (ef_1 m p1 p2) k
  obtain ⟨_, _, ⟨T3, L3, k3, n3⟩, -, X3, ⟨Lc3, hQ3, l3, y3, z3⟩, st3⟩ := Jvm.LawKit.callS X0 hx (y := (⟨"com/example/nto1/nto1/IdentityEqualsPinLaw", "len", "(II)I"⟩ : MethodName)) hown (mvT hZ (hw _ (List.mem_of_getElem? (i := 7) rfl))) (mvT hZ (hw _ (List.mem_of_getElem? (i := 8) rfl))) (mvT hZ (hw _ (List.mem_of_getElem? (i := 5) rfl))) (mvT hZ (hw _ (List.mem_of_getElem? (i := 9) rfl))) (by decide) (backOf (W := 0) (rm2 l Z a0 hw [] p1 p2 h0 n0 Z0) hZ (hw _ (List.mem_of_getElem? (i := 9) rfl)) (hw _ (List.mem_of_getElem? (i := 5) rfl)) (by decide) (by decide)) (g := (mkF m 2 #[.val (.int p1), .val (.int p2), .unset, .unset, .unset, .unset] [(.int p2), (.int p1)])) rfl (by rw [hml]; rfl) (argsL := [(.int p1), (.int p2)]) (rest := []) (lenOf pd_1_1 rfl) rfl (by show 2 * 0 + _ ≤ _; exact Nat.le_of_eq rfl) (hb hby d1_2) (fun _ _ => ⟨rfl, e0, (by decide : 0 + 0 ≤ _), (by decide : 0 + 0 ≤ _)⟩)
  dsimp only [Pt.U, Pt.locs, Pt.cells, Pt.slots] at X3 l3 y3 z3 st3 hQ3
  subst l3 y3 z3
  obtain ⟨rfl, N3q, E3q⟩ := hQ3
  have K3q : Keep h0 T3.heap [] := by rw [E3q]; exact Keep.refl _ _
  have KK3 : Keep h0 T3.heap [] := (Keep.refl _ _).trans K3q all0
  have Z3 : n0 ≤ T3.heap.size := Nat.le_trans Z0 K3q.1
  have N3 := Fr.app N0 N3q
  obtain ⟨_, _, ⟨T4, L4, k4, n4⟩, -, X4, ⟨Lc4, hQ4, l4, y4, z4⟩, st4⟩ := Jvm.LawKit.callS X3 hx (y := (⟨"com/example/nto1/nto1/IdentityEqualsPinLaw", "ch", "(I)C"⟩ : MethodName)) hown (mvT hZ (hw _ (List.mem_of_getElem? (i := 10) rfl))) (mvT hZ (hw _ (List.mem_of_getElem? (i := 11) rfl))) (mvT hZ (hw _ (List.mem_of_getElem? (i := 5) rfl))) (mvT hZ (hw _ (List.mem_of_getElem? (i := 12) rfl))) (by decide) (backOf (W := 0) (rm3 l Z a0 hw [] ((p1.toUInt32 >>> ((2 : Int32) &&& 31).toUInt32).toInt32) T3.heap n0 Z3) hZ (hw _ (List.mem_of_getElem? (i := 12) rfl)) (hw _ (List.mem_of_getElem? (i := 5) rfl)) (by decide) (by decide)) (g := (mkF m 9 #[.val (.int p1), .val (.int p2), .val (.int (own_len p1 p2)), .unset, .unset, .unset] [(.int ((p1.toUInt32 >>> ((2 : Int32) &&& 31).toUInt32).toInt32))])) rfl (by rw [hml]; rfl) (argsL := [(.int ((p1.toUInt32 >>> ((2 : Int32) &&& 31).toUInt32).toInt32))]) (rest := []) (lenOf pd_1_2 rfl) rfl (by show 2 * 0 + _ ≤ _; exact Nat.le_of_eq rfl) (hb hby d1_9) (fun _ _ => ⟨rfl, rfl, (by decide : 0 + 0 ≤ _), (by decide : 0 + 0 ≤ _)⟩)
  dsimp only [Pt.U, Pt.locs, Pt.cells, Pt.slots] at X4 l4 y4 z4 st4 hQ4
  subst l4 y4 z4
  obtain ⟨rfl, N4q, E4q⟩ := hQ4
  have K4q : Keep T3.heap T4.heap [] := by rw [E4q]; exact Keep.refl _ _
  have KK4 : Keep h0 T4.heap [] := (KK3).trans K4q all0
  have Z4 : n0 ≤ T4.heap.size := Nat.le_trans Z3 K4q.1
  have N4 := Fr.app N3 N4q
  obtain ⟨_, _, ⟨T5, L5, k5, n5⟩, -, X5, ⟨Lc5, hQ5, l5, y5, z5⟩, st5⟩ := Jvm.LawKit.callS X4 hx (y := (⟨"com/example/nto1/nto1/IdentityEqualsPinLaw", "ch", "(I)C"⟩ : MethodName)) hown (mvT hZ (hw _ (List.mem_of_getElem? (i := 10) rfl))) (mvT hZ (hw _ (List.mem_of_getElem? (i := 11) rfl))) (mvT hZ (hw _ (List.mem_of_getElem? (i := 5) rfl))) (mvT hZ (hw _ (List.mem_of_getElem? (i := 12) rfl))) (by decide) (backOf (W := 0) (rm3 l Z a0 hw [] ((p1.toUInt32 >>> ((4 : Int32) &&& 31).toUInt32).toInt32) T4.heap n0 Z4) hZ (hw _ (List.mem_of_getElem? (i := 12) rfl)) (hw _ (List.mem_of_getElem? (i := 5) rfl)) (by decide) (by decide)) (g := (mkF m 16 #[.val (.int p1), .val (.int p2), .val (.int (own_len p1 p2)), .val (.int (own_c ((p1.toUInt32 >>> ((2 : Int32) &&& 31).toUInt32).toInt32))), .unset, .unset] [(.int ((p1.toUInt32 >>> ((4 : Int32) &&& 31).toUInt32).toInt32))])) rfl (by rw [hml]; rfl) (argsL := [(.int ((p1.toUInt32 >>> ((4 : Int32) &&& 31).toUInt32).toInt32))]) (rest := []) (lenOf pd_1_2 rfl) rfl (by show 2 * 0 + _ ≤ _; exact Nat.le_of_eq rfl) (hb hby d1_16) (fun _ _ => ⟨rfl, rfl, (by decide : 0 + 0 ≤ _), (by decide : 0 + 0 ≤ _)⟩)
  dsimp only [Pt.U, Pt.locs, Pt.cells, Pt.slots] at X5 l5 y5 z5 st5 hQ5
  subst l5 y5 z5
  obtain ⟨rfl, N5q, E5q⟩ := hQ5
  have K5q : Keep T4.heap T5.heap [] := by rw [E5q]; exact Keep.refl _ _
  have KK5 : Keep h0 T5.heap [] := (KK4).trans K5q all0
  have Z5 : n0 ≤ T5.heap.size := Nat.le_trans Z4 K5q.1
  have N5 := Fr.app N4 N5q
  obtain ⟨_, _, ⟨T6, L6, k6, n6⟩, -, X6, ⟨Lc6, hQ6, l6, y6, z6⟩, st6⟩ := Jvm.LawKit.callS X5 hx (y := (⟨"com/example/nto1/nto1/IdentityEqualsPinLaw", "ch", "(I)C"⟩ : MethodName)) hown (mvT hZ (hw _ (List.mem_of_getElem? (i := 10) rfl))) (mvT hZ (hw _ (List.mem_of_getElem? (i := 11) rfl))) (mvT hZ (hw _ (List.mem_of_getElem? (i := 5) rfl))) (mvT hZ (hw _ (List.mem_of_getElem? (i := 12) rfl))) (by decide) (backOf (W := 0) (rm3 l Z a0 hw [] ((p1.toUInt32 >>> ((6 : Int32) &&& 31).toUInt32).toInt32) T5.heap n0 Z5) hZ (hw _ (List.mem_of_getElem? (i := 12) rfl)) (hw _ (List.mem_of_getElem? (i := 5) rfl)) (by decide) (by decide)) (g := (mkF m 25 #[.val (.int p1), .val (.int p2), .val (.int (own_len p1 p2)), .val (.int (own_c ((p1.toUInt32 >>> ((2 : Int32) &&& 31).toUInt32).toInt32))), .val (.int (own_c ((p1.toUInt32 >>> ((4 : Int32) &&& 31).toUInt32).toInt32))), .unset] [(.int ((p1.toUInt32 >>> ((6 : Int32) &&& 31).toUInt32).toInt32))])) rfl (by rw [hml]; rfl) (argsL := [(.int ((p1.toUInt32 >>> ((6 : Int32) &&& 31).toUInt32).toInt32))]) (rest := []) (lenOf pd_1_2 rfl) rfl (by show 2 * 0 + _ ≤ _; exact Nat.le_of_eq rfl) (hb hby d1_25) (fun _ _ => ⟨rfl, rfl, (by decide : 0 + 0 ≤ _), (by decide : 0 + 0 ≤ _)⟩)
  dsimp only [Pt.U, Pt.locs, Pt.cells, Pt.slots] at X6 l6 y6 z6 st6 hQ6
  subst l6 y6 z6
  obtain ⟨rfl, N6q, E6q⟩ := hQ6
  have K6q : Keep T5.heap T6.heap [] := by rw [E6q]; exact Keep.refl _ _
  have KK6 : Keep h0 T6.heap [] := (KK5).trans K6q all0
  have Z6 : n0 ≤ T6.heap.size := Nat.le_trans Z5 K6q.1
  have N6 := Fr.app N5 N6q
  have own_e6 : T6.heap = h0 := E6q.trans (E5q.trans (E4q.trans E3q))
  obtain ⟨T7, h7, X7, e7, E7, A7, D7, -, st7⟩ := newO X6 hx hZ hown (hw _ (List.mem_of_getElem? (i := 21) rfl)) (hw _ (List.mem_of_getElem? (i := 15) rfl)) (hw _ (List.mem_of_getElem? (i := 14) rfl)) rfl (g := (mkF m 82 #[.val (.int p1), .val (.int p2), .val (.int (own_len p1 p2)), .val (.int (own_c ((p1.toUInt32 >>> ((2 : Int32) &&& 31).toUInt32).toInt32))), .val (.int (own_c ((p1.toUInt32 >>> ((4 : Int32) &&& 31).toUInt32).toInt32))), .val (.int (own_c ((p1.toUInt32 >>> ((6 : Int32) &&& 31).toUInt32).toInt32)))] [])) rfl (hb hby d1_82) (by decide) (by decide)
  obtain ⟨b7, g7⟩ : ∃ z, z = T6.heap.size := ⟨_, rfl⟩      -- the fresh object's address
  have Z7 : n0 ≤ h7.size := Nat.le_trans Z6 E7.1
  rw [← g7] at A7 D7 st7      -- A7 : Exa Z h7 b7 "java/lang/String"; E7 : Ext T6.heap h7 (carries every older fact: .ext E7)
  have F_value_b7 : Fld Z h7 b7 "java/lang/String" "value" "[B" .null := D7 (Or.inr (hw _ (List.mem_of_getElem? (i := 17) rfl))) (ty := (.array .byte)) (by decide)
  have F_coder_b7 : Fld Z h7 b7 "java/lang/String" "coder" "B" (.int (0 : Int32)) := D7 (Or.inr (hw _ (List.mem_of_getElem? (i := 18) rfl))) (ty := .byte) (by decide)
  have E_b7 := A7
  have g_b7 : n0 ≤ b7 := Nat.le_trans (Nat.le_trans (Nat.le_trans (Nat.le_trans (Nat.le_trans Z0 K3q.1) K4q.1) K5q.1) K6q.1) (Nat.le_of_eq g7.symm)
  have sz_b7 : h0.size ≤ b7 := (Nat.le_trans (KK6).1 (Nat.le_of_eq g7.symm))
  have K7 : Keep h0 h7 [] := (KK6).ext E7
  obtain ⟨T8, h8, k8, X8, e8, E8, A8, st8⟩ := newP X7 hx hZ (hw _ (List.mem_of_getElem? (i := 22) rfl)) e7 (g := (mkF m 87 #[.val (.int p1), .val (.int p2), .val (.int (own_len p1 p2)), .val (.int (own_c ((p1.toUInt32 >>> ((2 : Int32) &&& 31).toUInt32).toInt32))), .val (.int (own_c ((p1.toUInt32 >>> ((4 : Int32) &&& 31).toUInt32).toInt32))), .val (.int (own_c ((p1.toUInt32 >>> ((6 : Int32) &&& 31).toUInt32).toInt32)))] [(.int (3 : Int32)), (.ref b7), (.ref b7)])) rfl (hb hby d1_87) rfl (by decide) (cap := 3) (by decide) (by decide) (by decide) (by decide)
  obtain ⟨b8, g8⟩ : ∃ z, z = h7.size := ⟨_, rfl⟩      -- the fresh array's address
  have Z8 : n0 ≤ h8.size := Nat.le_trans Z7 E8.1
  rw [← g8] at A8 st8
  have V_b8 : Arv Z h8 b8 k8 .char (3 : Int32) [(.int (0 : Int32)), (.int (0 : Int32)), (.int (0 : Int32))] (.int (0 : Int32)) := (Arv.new A8 (by decide)).pad (pad_rep [] (.int (0 : Int32)) 3)
  have g_b8 : n0 ≤ b8 := Nat.le_trans (Nat.le_trans (Nat.le_trans (Nat.le_trans (Nat.le_trans (Nat.le_trans Z0 K3q.1) K4q.1) K5q.1) K6q.1) E7.1) (Nat.le_of_eq g8.symm)
  have sz_b8 : h0.size ≤ b8 := (Nat.le_trans K7.1 (Nat.le_of_eq g8.symm))
  have K8 : Keep h0 h8 [] := K7.ext E8
  obtain ⟨cl_b8_92, Ar_b8, q_b8, S_b8, N_b8, H_b8, G_b8⟩ := V_b8      -- open the array's fact as it stands now (its cell, kind, length, elements)
  have hin92 : ¬ ((0 : Int32) < 0 ∨ cl_b8_92.slots.size ≤ ((0 : Int32)).toNatClampNeg) := inb_of S_b8 ⟨by decide, by decide⟩
  obtain ⟨T9, h9, X9, e9, W9, st9⟩ := stC X8 hx hZ e8 Ar_b8 (j := (0 : Int32)) hin92 (g := (mkF m 92 #[.val (.int p1), .val (.int p2), .val (.int (own_len p1 p2)), .val (.int (own_c ((p1.toUInt32 >>> ((2 : Int32) &&& 31).toUInt32).toInt32))), .val (.int (own_c ((p1.toUInt32 >>> ((4 : Int32) &&& 31).toUInt32).toInt32))), .val (.int (own_c ((p1.toUInt32 >>> ((6 : Int32) &&& 31).toUInt32).toInt32)))] [(.int (own_c ((p1.toUInt32 >>> ((2 : Int32) &&& 31).toUInt32).toInt32))), (.int (0 : Int32)), (.ref b8), (.ref b8), (.ref b7), (.ref b7)])) rfl rfl (hb hby d1_92)
  have Z9 : n0 ≤ h9.size := Nat.le_trans Z8 (Keep.of_wr W9).1
  have V_b8_9 := Arv.set Ar_b8 q_b8 S_b8 N_b8 H_b8 G_b8 (fits_nar_char _) W9 0 rfl (Nat.le_of_ble_eq_true rfl)      -- the array as it stands now (the place must lie among its first values: Arv.pad with pad_rep lengthens them)
  have K9 : Keep h0 h9 [] := K8.wr W9 (Or.inr sz_b8)
  have N9 := Fr.snoc X9 N6 g_b8
  obtain ⟨cl_b8_97, Ar_b8, q_b8, S_b8, N_b8, H_b8, G_b8⟩ := V_b8_9      -- open the array's fact as it stands now (its cell, kind, length, elements)
  have hin97 : ¬ ((1 : Int32) < 0 ∨ cl_b8_97.slots.size ≤ ((1 : Int32)).toNatClampNeg) := inb_of S_b8 ⟨by decide, by decide⟩
  obtain ⟨T10, h10, X10, e10, W10, st10⟩ := stC X9 hx hZ e9 Ar_b8 (j := (1 : Int32)) hin97 (g := (mkF m 97 #[.val (.int p1), .val (.int p2), .val (.int (own_len p1 p2)), .val (.int (own_c ((p1.toUInt32 >>> ((2 : Int32) &&& 31).toUInt32).toInt32))), .val (.int (own_c ((p1.toUInt32 >>> ((4 : Int32) &&& 31).toUInt32).toInt32))), .val (.int (own_c ((p1.toUInt32 >>> ((6 : Int32) &&& 31).toUInt32).toInt32)))] [(.int (own_c ((p1.toUInt32 >>> ((4 : Int32) &&& 31).toUInt32).toInt32))), (.int (1 : Int32)), (.ref b8), (.ref b8), (.ref b7), (.ref b7)])) rfl rfl (hb hby d1_97)
  have Z10 : n0 ≤ h10.size := Nat.le_trans Z9 (Keep.of_wr W10).1
  have V_b8_10 := Arv.set Ar_b8 q_b8 S_b8 N_b8 H_b8 G_b8 (fits_nar_char _) W10 1 rfl (Nat.le_of_ble_eq_true rfl)      -- the array as it stands now (the place must lie among its first values: Arv.pad with pad_rep lengthens them)
  have K10 : Keep h0 h10 [] := K9.wr W10 (Or.inr sz_b8)
  have N10 := Fr.snoc X10 N9 g_b8
  obtain ⟨cl_b8_102, Ar_b8, q_b8, S_b8, N_b8, H_b8, G_b8⟩ := V_b8_10      -- open the array's fact as it stands now (its cell, kind, length, elements)
  have hin102 : ¬ ((2 : Int32) < 0 ∨ cl_b8_102.slots.size ≤ ((2 : Int32)).toNatClampNeg) := inb_of S_b8 ⟨by decide, by decide⟩
  obtain ⟨T11, h11, X11, e11, W11, st11⟩ := stC X10 hx hZ e10 Ar_b8 (j := (2 : Int32)) hin102 (g := (mkF m 102 #[.val (.int p1), .val (.int p2), .val (.int (own_len p1 p2)), .val (.int (own_c ((p1.toUInt32 >>> ((2 : Int32) &&& 31).toUInt32).toInt32))), .val (.int (own_c ((p1.toUInt32 >>> ((4 : Int32) &&& 31).toUInt32).toInt32))), .val (.int (own_c ((p1.toUInt32 >>> ((6 : Int32) &&& 31).toUInt32).toInt32)))] [(.int (own_c ((p1.toUInt32 >>> ((6 : Int32) &&& 31).toUInt32).toInt32))), (.int (2 : Int32)), (.ref b8), (.ref b8), (.ref b7), (.ref b7)])) rfl rfl (hb hby d1_102)
  have Z11 : n0 ≤ h11.size := Nat.le_trans Z10 (Keep.of_wr W11).1
  have V_b8_11 := Arv.set Ar_b8 q_b8 S_b8 N_b8 H_b8 G_b8 (fits_nar_char _) W11 2 rfl (Nat.le_of_ble_eq_true rfl)      -- the array as it stands now (the place must lie among its first values: Arv.pad with pad_rep lengthens them)
  have K11 : Keep h0 h11 [] := K10.wr W11 (Or.inr sz_b8)
  have N11 := Fr.snoc X11 N10 g_b8
  have CE5_b7 := ((((E_b7.ext E8).wr W9).wr W10).wr W11)
  have CV5_b8 := V_b8_11
  have hws : ∀ d ∈ StrChars.Road.words, d.before a0 Z = true := fun d hd => hw d ((by decide +kernel : ∀ d ∈ StrChars.Road.words, d ∈ tables_1) d hd)
  have own_ne : b7 ≠ b8 := Nat.ne_of_lt (Nat.lt_of_lt_of_le E_b7.lt (Nat.le_of_eq g8.symm))
  have own_hp : ∀ c ∈ ([nar .char (own_c (own_sh p1 2)), nar .char (own_c (own_sh p1 4)), nar .char (own_c (own_sh p1 6))] : List Int32), ¬ c < 0 ∧ ¬ (255 : Int32) < c := (fun c hc => by simp only [List.mem_cons, List.not_mem_nil, or_false] at hc; rcases hc with rfl | rfl | rfl <;> (rw [own_c_nar]; exact own_b_n (own_ok_b (own_c_ok _))))
  obtain ⟨_, _, ⟨T12, L12, k12, n12⟩, -, X12, ⟨Lc12, hQ12, l12, y12, z12⟩, st12⟩ := X11.specialBack hx (y := (⟨"java/lang/String", "<init>", "([C)V"⟩ : MethodName)) rfl hown (mvT hZ (hw _ (List.mem_of_getElem? (i := 23) rfl))) (mvT hZ (hw _ (List.mem_of_getElem? (i := 24) rfl))) (mvT hZ (hw _ (List.mem_of_getElem? (i := 25) rfl))) (by decide) (StrChars.Road.backV (W := 1) hZ hws (kI := 4) (hw _ (List.mem_of_getElem? (i := 15) rfl)) (cs := ([nar .char (own_c (own_sh p1 2)), nar .char (own_c (own_sh p1 4)), nar .char (own_c (own_sh p1 6))] : List Int32)) (bs := (([nar .char (own_c (own_sh p1 2)), nar .char (own_c (own_sh p1 4)), nar .char (own_c (own_sh p1 6))] : List Int32)).map (fun c => c.toInt8.toInt32)) (n := 3) g_b7 Z11 CE5_b7 ((((F_value_b7.ext E8).other W9 (Or.inl own_ne)).other W10 (Or.inl own_ne)).other W11 (Or.inl own_ne)) ((((F_coder_b7.ext E8).other W9 (Or.inl own_ne)).other W10 (Or.inl own_ne)).other W11 (Or.inl own_ne)) CV5_b8 (S_C.ext (X00.keep K11 all0).2) hzc rfl rfl (by decide) (by decide) own_hp rfl (by decide) (by decide)) (g := (mkF m 103 #[.val (.int p1), .val (.int p2), .val (.int (own_len p1 p2)), .val (.int (own_c ((p1.toUInt32 >>> ((2 : Int32) &&& 31).toUInt32).toInt32))), .val (.int (own_c ((p1.toUInt32 >>> ((4 : Int32) &&& 31).toUInt32).toInt32))), .val (.int (own_c ((p1.toUInt32 >>> ((6 : Int32) &&& 31).toUInt32).toInt32)))] [(.ref b8), (.ref b7), (.ref b7)])) rfl (by rw [hml]; rfl) (Steps.refl _) (a := b7) (argsL := [(.ref b8)]) (rest := [(.ref b7)]) (lenOf pd_1_3 rfl) rfl (by show 2 * 0 + _ ≤ _; exact Nat.le_of_eq rfl) (hb hby d1_103) (fun _ _ => ⟨rfl, e11, (by decide : 2 + 1 ≤ _), (by decide : 7 + 3 ≤ _)⟩)
  dsimp only [Pt.U, Pt.locs, Pt.cells, Pt.slots] at X12 l12 y12 z12 st12 hQ12
  subst l12 y12 z12
  obtain ⟨rfl, N12q, K12q, A12, C12, tv12, kb12, gv12, sv12, nv12, V12, R12⟩ := hQ12
  have KK12 : Keep h0 T12.heap [] := (K11).trans K12q (allS (Or.inr sz_b7) all0)
  have Z12 : n0 ≤ T12.heap.size := Nat.le_trans Z11 K12q.1
  have KK12x : Keep h0 T12.heap [] := K11.trans K12q (allS (Or.inr sz_b7) all0)
  have N12 := Fr.app N11 N12q
  have CHf : CHr Z consts_1 s.vm h0 T12.vm T12.heap := (CHr.keep KK12 all0 H0).trans (CHv.at X12 hZ hEL (H0.keep KK12 all0))
  obtain ⟨fs, hr, hrun, hended, hRW⟩ := X12.leaveW hS (by exact KK12.1) (v := some (.ref b7)) (fun h => by rw [Bd.returns] at h; cases h)
  refine ⟨_, _, pre0 _ ?_, hrun, hended, _, _, rfl, ?_, (by rw [hh]; exact CHf), ⟨_, rfl⟩, hRW.2.1, hRW.2.2.1, hRW.2.2.2.mono (by decide) (by decide)⟩
  · show Steps p.tables e below (s₁.setTop (mkF m 0 #[.val (.int p1), .val (.int p2), .unset, .unset, .unset, .unset] [])) _
    refine XS.iloadN X0.here hx rfl (hb hby d1_0) rfl ?_
    show Steps p.tables e below (s₁.setTop (mkF m 1 #[.val (.int p1), .val (.int p2), .unset, .unset, .unset, .unset] [(.int p1)])) _
    refine XS.iloadN X0.here hx rfl (hb hby d1_1) rfl ?_
    show Steps p.tables e below (s₁.setTop (mkF m 2 #[.val (.int p1), .val (.int p2), .unset, .unset, .unset, .unset] [(.int p2), (.int p1)])) _
    refine st3 _ ?_
    show Steps p.tables e below (T3.setTop (mkF m 5 #[.val (.int p1), .val (.int p2), .unset, .unset, .unset, .unset] [(.int (own_len p1 p2))])) _
    refine XS.istoreN X3.here hx rfl (hb hby d1_5) rfl (l' := #[.val (.int p1), .val (.int p2), .val (.int (own_len p1 p2)), .unset, .unset, .unset]) rfl ?_
    show Steps p.tables e below (T3.setTop (mkF m 6 #[.val (.int p1), .val (.int p2), .val (.int (own_len p1 p2)), .unset, .unset, .unset] [])) _
    refine XS.iloadN X3.here hx rfl (hb hby d1_6) rfl ?_
    show Steps p.tables e below (T3.setTop (mkF m 7 #[.val (.int p1), .val (.int p2), .val (.int (own_len p1 p2)), .unset, .unset, .unset] [(.int p1)])) _
    refine XS.iconst X3.here hx rfl (hb hby d1_7) ?_
    show Steps p.tables e below (T3.setTop (mkF m 8 #[.val (.int p1), .val (.int p2), .val (.int (own_len p1 p2)), .unset, .unset, .unset] [(.int (2 : Int32)), (.int p1)])) _
    refine XS.iushr X3.here hx rfl (hb hby d1_8) rfl ?_
    show Steps p.tables e below (T3.setTop (mkF m 9 #[.val (.int p1), .val (.int p2), .val (.int (own_len p1 p2)), .unset, .unset, .unset] [(.int ((p1.toUInt32 >>> ((2 : Int32) &&& 31).toUInt32).toInt32))])) _
    refine st4 _ ?_
    show Steps p.tables e below (T4.setTop (mkF m 12 #[.val (.int p1), .val (.int p2), .val (.int (own_len p1 p2)), .unset, .unset, .unset] [(.int (own_c ((p1.toUInt32 >>> ((2 : Int32) &&& 31).toUInt32).toInt32)))])) _
    refine XS.istoreN X4.here hx rfl (hb hby d1_12) rfl (l' := #[.val (.int p1), .val (.int p2), .val (.int (own_len p1 p2)), .val (.int (own_c ((p1.toUInt32 >>> ((2 : Int32) &&& 31).toUInt32).toInt32))), .unset, .unset]) rfl ?_
    show Steps p.tables e below (T4.setTop (mkF m 13 #[.val (.int p1), .val (.int p2), .val (.int (own_len p1 p2)), .val (.int (own_c ((p1.toUInt32 >>> ((2 : Int32) &&& 31).toUInt32).toInt32))), .unset, .unset] [])) _
    refine XS.iloadN X4.here hx rfl (hb hby d1_13) rfl ?_
    show Steps p.tables e below (T4.setTop (mkF m 14 #[.val (.int p1), .val (.int p2), .val (.int (own_len p1 p2)), .val (.int (own_c ((p1.toUInt32 >>> ((2 : Int32) &&& 31).toUInt32).toInt32))), .unset, .unset] [(.int p1)])) _
    refine XS.iconst X4.here hx rfl (hb hby d1_14) ?_
    show Steps p.tables e below (T4.setTop (mkF m 15 #[.val (.int p1), .val (.int p2), .val (.int (own_len p1 p2)), .val (.int (own_c ((p1.toUInt32 >>> ((2 : Int32) &&& 31).toUInt32).toInt32))), .unset, .unset] [(.int (4 : Int32)), (.int p1)])) _
    refine XS.iushr X4.here hx rfl (hb hby d1_15) rfl ?_
    show Steps p.tables e below (T4.setTop (mkF m 16 #[.val (.int p1), .val (.int p2), .val (.int (own_len p1 p2)), .val (.int (own_c ((p1.toUInt32 >>> ((2 : Int32) &&& 31).toUInt32).toInt32))), .unset, .unset] [(.int ((p1.toUInt32 >>> ((4 : Int32) &&& 31).toUInt32).toInt32))])) _
    refine st5 _ ?_
    show Steps p.tables e below (T5.setTop (mkF m 19 #[.val (.int p1), .val (.int p2), .val (.int (own_len p1 p2)), .val (.int (own_c ((p1.toUInt32 >>> ((2 : Int32) &&& 31).toUInt32).toInt32))), .unset, .unset] [(.int (own_c ((p1.toUInt32 >>> ((4 : Int32) &&& 31).toUInt32).toInt32)))])) _
    refine XS.istore X5.here hx rfl (hb hby d1_19) rfl (l' := #[.val (.int p1), .val (.int p2), .val (.int (own_len p1 p2)), .val (.int (own_c ((p1.toUInt32 >>> ((2 : Int32) &&& 31).toUInt32).toInt32))), .val (.int (own_c ((p1.toUInt32 >>> ((4 : Int32) &&& 31).toUInt32).toInt32))), .unset]) rfl ?_
    show Steps p.tables e below (T5.setTop (mkF m 21 #[.val (.int p1), .val (.int p2), .val (.int (own_len p1 p2)), .val (.int (own_c ((p1.toUInt32 >>> ((2 : Int32) &&& 31).toUInt32).toInt32))), .val (.int (own_c ((p1.toUInt32 >>> ((4 : Int32) &&& 31).toUInt32).toInt32))), .unset] [])) _
    refine XS.iloadN X5.here hx rfl (hb hby d1_21) rfl ?_
    show Steps p.tables e below (T5.setTop (mkF m 22 #[.val (.int p1), .val (.int p2), .val (.int (own_len p1 p2)), .val (.int (own_c ((p1.toUInt32 >>> ((2 : Int32) &&& 31).toUInt32).toInt32))), .val (.int (own_c ((p1.toUInt32 >>> ((4 : Int32) &&& 31).toUInt32).toInt32))), .unset] [(.int p1)])) _
    refine XS.bipush X5.here hx rfl (hb hby d1_22) ?_
    show Steps p.tables e below (T5.setTop (mkF m 24 #[.val (.int p1), .val (.int p2), .val (.int (own_len p1 p2)), .val (.int (own_c ((p1.toUInt32 >>> ((2 : Int32) &&& 31).toUInt32).toInt32))), .val (.int (own_c ((p1.toUInt32 >>> ((4 : Int32) &&& 31).toUInt32).toInt32))), .unset] [(.int (6 : Int32)), (.int p1)])) _
    refine XS.iushr X5.here hx rfl (hb hby d1_24) rfl ?_
    show Steps p.tables e below (T5.setTop (mkF m 25 #[.val (.int p1), .val (.int p2), .val (.int (own_len p1 p2)), .val (.int (own_c ((p1.toUInt32 >>> ((2 : Int32) &&& 31).toUInt32).toInt32))), .val (.int (own_c ((p1.toUInt32 >>> ((4 : Int32) &&& 31).toUInt32).toInt32))), .unset] [(.int ((p1.toUInt32 >>> ((6 : Int32) &&& 31).toUInt32).toInt32))])) _
    refine st6 _ ?_
    show Steps p.tables e below (T6.setTop (mkF m 28 #[.val (.int p1), .val (.int p2), .val (.int (own_len p1 p2)), .val (.int (own_c ((p1.toUInt32 >>> ((2 : Int32) &&& 31).toUInt32).toInt32))), .val (.int (own_c ((p1.toUInt32 >>> ((4 : Int32) &&& 31).toUInt32).toInt32))), .unset] [(.int (own_c ((p1.toUInt32 >>> ((6 : Int32) &&& 31).toUInt32).toInt32)))])) _
    refine XS.istore X6.here hx rfl (hb hby d1_28) rfl (l' := #[.val (.int p1), .val (.int p2), .val (.int (own_len p1 p2)), .val (.int (own_c ((p1.toUInt32 >>> ((2 : Int32) &&& 31).toUInt32).toInt32))), .val (.int (own_c ((p1.toUInt32 >>> ((4 : Int32) &&& 31).toUInt32).toInt32))), .val (.int (own_c ((p1.toUInt32 >>> ((6 : Int32) &&& 31).toUInt32).toInt32)))]) rfl ?_
    show Steps p.tables e below (T6.setTop (mkF m 30 #[.val (.int p1), .val (.int p2), .val (.int (own_len p1 p2)), .val (.int (own_c ((p1.toUInt32 >>> ((2 : Int32) &&& 31).toUInt32).toInt32))), .val (.int (own_c ((p1.toUInt32 >>> ((4 : Int32) &&& 31).toUInt32).toInt32))), .val (.int (own_c ((p1.toUInt32 >>> ((6 : Int32) &&& 31).toUInt32).toInt32)))] [])) _
    refine XS.iloadN X6.here hx rfl (hb hby d1_30) rfl ?_
    show Steps p.tables e below (T6.setTop (mkF m 31 #[.val (.int p1), .val (.int p2), .val (.int (own_len p1 p2)), .val (.int (own_c ((p1.toUInt32 >>> ((2 : Int32) &&& 31).toUInt32).toInt32))), .val (.int (own_c ((p1.toUInt32 >>> ((4 : Int32) &&& 31).toUInt32).toInt32))), .val (.int (own_c ((p1.toUInt32 >>> ((6 : Int32) &&& 31).toUInt32).toInt32)))] [(.int (own_len p1 p2))])) _
    refine XS.ifYes X6.here hx rfl (pc0 := 31) (pc' := 37) rfl (hb hby d1_31) rfl ((if0 _ _).trans (feq (q0 : ¬ ((own_len p1 p2) = (0 : Int32)))).2) (by decide) (by decide) ?_
    show Steps p.tables e below (T6.setTop (mkF m 37 #[.val (.int p1), .val (.int p2), .val (.int (own_len p1 p2)), .val (.int (own_c ((p1.toUInt32 >>> ((2 : Int32) &&& 31).toUInt32).toInt32))), .val (.int (own_c ((p1.toUInt32 >>> ((4 : Int32) &&& 31).toUInt32).toInt32))), .val (.int (own_c ((p1.toUInt32 >>> ((6 : Int32) &&& 31).toUInt32).toInt32)))] [])) _
    refine XS.iloadN X6.here hx rfl (hb hby d1_37) rfl ?_
    show Steps p.tables e below (T6.setTop (mkF m 38 #[.val (.int p1), .val (.int p2), .val (.int (own_len p1 p2)), .val (.int (own_c ((p1.toUInt32 >>> ((2 : Int32) &&& 31).toUInt32).toInt32))), .val (.int (own_c ((p1.toUInt32 >>> ((4 : Int32) &&& 31).toUInt32).toInt32))), .val (.int (own_c ((p1.toUInt32 >>> ((6 : Int32) &&& 31).toUInt32).toInt32)))] [(.int (own_len p1 p2))])) _
    refine XS.iconst X6.here hx rfl (hb hby d1_38) ?_
    show Steps p.tables e below (T6.setTop (mkF m 39 #[.val (.int p1), .val (.int p2), .val (.int (own_len p1 p2)), .val (.int (own_c ((p1.toUInt32 >>> ((2 : Int32) &&& 31).toUInt32).toInt32))), .val (.int (own_c ((p1.toUInt32 >>> ((4 : Int32) &&& 31).toUInt32).toInt32))), .val (.int (own_c ((p1.toUInt32 >>> ((6 : Int32) &&& 31).toUInt32).toInt32)))] [(.int (1 : Int32)), (.int (own_len p1 p2))])) _
    refine XS.icmpYes X6.here hx rfl (pc0 := 39) (pc' := 57) rfl (hb hby d1_39) rfl (feq (q1 : ¬ ((own_len p1 p2) = (1 : Int32)))).2 (by decide) (by decide) ?_
    show Steps p.tables e below (T6.setTop (mkF m 57 #[.val (.int p1), .val (.int p2), .val (.int (own_len p1 p2)), .val (.int (own_c ((p1.toUInt32 >>> ((2 : Int32) &&& 31).toUInt32).toInt32))), .val (.int (own_c ((p1.toUInt32 >>> ((4 : Int32) &&& 31).toUInt32).toInt32))), .val (.int (own_c ((p1.toUInt32 >>> ((6 : Int32) &&& 31).toUInt32).toInt32)))] [])) _
    refine XS.iloadN X6.here hx rfl (hb hby d1_57) rfl ?_
    show Steps p.tables e below (T6.setTop (mkF m 58 #[.val (.int p1), .val (.int p2), .val (.int (own_len p1 p2)), .val (.int (own_c ((p1.toUInt32 >>> ((2 : Int32) &&& 31).toUInt32).toInt32))), .val (.int (own_c ((p1.toUInt32 >>> ((4 : Int32) &&& 31).toUInt32).toInt32))), .val (.int (own_c ((p1.toUInt32 >>> ((6 : Int32) &&& 31).toUInt32).toInt32)))] [(.int (own_len p1 p2))])) _
    refine XS.iconst X6.here hx rfl (hb hby d1_58) ?_
    show Steps p.tables e below (T6.setTop (mkF m 59 #[.val (.int p1), .val (.int p2), .val (.int (own_len p1 p2)), .val (.int (own_c ((p1.toUInt32 >>> ((2 : Int32) &&& 31).toUInt32).toInt32))), .val (.int (own_c ((p1.toUInt32 >>> ((4 : Int32) &&& 31).toUInt32).toInt32))), .val (.int (own_c ((p1.toUInt32 >>> ((6 : Int32) &&& 31).toUInt32).toInt32)))] [(.int (2 : Int32)), (.int (own_len p1 p2))])) _
    refine XS.icmpYes X6.here hx rfl (pc0 := 59) (pc' := 82) rfl (hb hby d1_59) rfl (feq (q2 : ¬ ((own_len p1 p2) = (2 : Int32)))).2 (by decide) (by decide) ?_
    show Steps p.tables e below (T6.setTop (mkF m 82 #[.val (.int p1), .val (.int p2), .val (.int (own_len p1 p2)), .val (.int (own_c ((p1.toUInt32 >>> ((2 : Int32) &&& 31).toUInt32).toInt32))), .val (.int (own_c ((p1.toUInt32 >>> ((4 : Int32) &&& 31).toUInt32).toInt32))), .val (.int (own_c ((p1.toUInt32 >>> ((6 : Int32) &&& 31).toUInt32).toInt32)))] [])) _
    refine st7 _ ?_
    show Steps p.tables e below (T7.setTop (mkF m 85 #[.val (.int p1), .val (.int p2), .val (.int (own_len p1 p2)), .val (.int (own_c ((p1.toUInt32 >>> ((2 : Int32) &&& 31).toUInt32).toInt32))), .val (.int (own_c ((p1.toUInt32 >>> ((4 : Int32) &&& 31).toUInt32).toInt32))), .val (.int (own_c ((p1.toUInt32 >>> ((6 : Int32) &&& 31).toUInt32).toInt32)))] [(.ref b7)])) _
    refine XS.dup X7.here hx rfl (hb hby d1_85) rfl rfl ?_
    show Steps p.tables e below (T7.setTop (mkF m 86 #[.val (.int p1), .val (.int p2), .val (.int (own_len p1 p2)), .val (.int (own_c ((p1.toUInt32 >>> ((2 : Int32) &&& 31).toUInt32).toInt32))), .val (.int (own_c ((p1.toUInt32 >>> ((4 : Int32) &&& 31).toUInt32).toInt32))), .val (.int (own_c ((p1.toUInt32 >>> ((6 : Int32) &&& 31).toUInt32).toInt32)))] [(.ref b7), (.ref b7)])) _
    refine XS.iconst X7.here hx rfl (hb hby d1_86) ?_
    show Steps p.tables e below (T7.setTop (mkF m 87 #[.val (.int p1), .val (.int p2), .val (.int (own_len p1 p2)), .val (.int (own_c ((p1.toUInt32 >>> ((2 : Int32) &&& 31).toUInt32).toInt32))), .val (.int (own_c ((p1.toUInt32 >>> ((4 : Int32) &&& 31).toUInt32).toInt32))), .val (.int (own_c ((p1.toUInt32 >>> ((6 : Int32) &&& 31).toUInt32).toInt32)))] [(.int (3 : Int32)), (.ref b7), (.ref b7)])) _
    refine st8 _ ?_
    show Steps p.tables e below (T8.setTop (mkF m 89 #[.val (.int p1), .val (.int p2), .val (.int (own_len p1 p2)), .val (.int (own_c ((p1.toUInt32 >>> ((2 : Int32) &&& 31).toUInt32).toInt32))), .val (.int (own_c ((p1.toUInt32 >>> ((4 : Int32) &&& 31).toUInt32).toInt32))), .val (.int (own_c ((p1.toUInt32 >>> ((6 : Int32) &&& 31).toUInt32).toInt32)))] [(.ref b8), (.ref b7), (.ref b7)])) _
    refine XS.dup X8.here hx rfl (hb hby d1_89) rfl rfl ?_
    show Steps p.tables e below (T8.setTop (mkF m 90 #[.val (.int p1), .val (.int p2), .val (.int (own_len p1 p2)), .val (.int (own_c ((p1.toUInt32 >>> ((2 : Int32) &&& 31).toUInt32).toInt32))), .val (.int (own_c ((p1.toUInt32 >>> ((4 : Int32) &&& 31).toUInt32).toInt32))), .val (.int (own_c ((p1.toUInt32 >>> ((6 : Int32) &&& 31).toUInt32).toInt32)))] [(.ref b8), (.ref b8), (.ref b7), (.ref b7)])) _
    refine XS.iconst X8.here hx rfl (hb hby d1_90) ?_
    show Steps p.tables e below (T8.setTop (mkF m 91 #[.val (.int p1), .val (.int p2), .val (.int (own_len p1 p2)), .val (.int (own_c ((p1.toUInt32 >>> ((2 : Int32) &&& 31).toUInt32).toInt32))), .val (.int (own_c ((p1.toUInt32 >>> ((4 : Int32) &&& 31).toUInt32).toInt32))), .val (.int (own_c ((p1.toUInt32 >>> ((6 : Int32) &&& 31).toUInt32).toInt32)))] [(.int (0 : Int32)), (.ref b8), (.ref b8), (.ref b7), (.ref b7)])) _
    refine XS.iloadN X8.here hx rfl (hb hby d1_91) rfl ?_
    show Steps p.tables e below (T8.setTop (mkF m 92 #[.val (.int p1), .val (.int p2), .val (.int (own_len p1 p2)), .val (.int (own_c ((p1.toUInt32 >>> ((2 : Int32) &&& 31).toUInt32).toInt32))), .val (.int (own_c ((p1.toUInt32 >>> ((4 : Int32) &&& 31).toUInt32).toInt32))), .val (.int (own_c ((p1.toUInt32 >>> ((6 : Int32) &&& 31).toUInt32).toInt32)))] [(.int (own_c ((p1.toUInt32 >>> ((2 : Int32) &&& 31).toUInt32).toInt32))), (.int (0 : Int32)), (.ref b8), (.ref b8), (.ref b7), (.ref b7)])) _
    refine st9 _ ?_
    show Steps p.tables e below (T9.setTop (mkF m 93 #[.val (.int p1), .val (.int p2), .val (.int (own_len p1 p2)), .val (.int (own_c ((p1.toUInt32 >>> ((2 : Int32) &&& 31).toUInt32).toInt32))), .val (.int (own_c ((p1.toUInt32 >>> ((4 : Int32) &&& 31).toUInt32).toInt32))), .val (.int (own_c ((p1.toUInt32 >>> ((6 : Int32) &&& 31).toUInt32).toInt32)))] [(.ref b8), (.ref b7), (.ref b7)])) _
    refine XS.dup X9.here hx rfl (hb hby d1_93) rfl rfl ?_
    show Steps p.tables e below (T9.setTop (mkF m 94 #[.val (.int p1), .val (.int p2), .val (.int (own_len p1 p2)), .val (.int (own_c ((p1.toUInt32 >>> ((2 : Int32) &&& 31).toUInt32).toInt32))), .val (.int (own_c ((p1.toUInt32 >>> ((4 : Int32) &&& 31).toUInt32).toInt32))), .val (.int (own_c ((p1.toUInt32 >>> ((6 : Int32) &&& 31).toUInt32).toInt32)))] [(.ref b8), (.ref b8), (.ref b7), (.ref b7)])) _
    refine XS.iconst X9.here hx rfl (hb hby d1_94) ?_
    show Steps p.tables e below (T9.setTop (mkF m 95 #[.val (.int p1), .val (.int p2), .val (.int (own_len p1 p2)), .val (.int (own_c ((p1.toUInt32 >>> ((2 : Int32) &&& 31).toUInt32).toInt32))), .val (.int (own_c ((p1.toUInt32 >>> ((4 : Int32) &&& 31).toUInt32).toInt32))), .val (.int (own_c ((p1.toUInt32 >>> ((6 : Int32) &&& 31).toUInt32).toInt32)))] [(.int (1 : Int32)), (.ref b8), (.ref b8), (.ref b7), (.ref b7)])) _
    refine XS.iload X9.here hx rfl (hb hby d1_95) rfl ?_
    show Steps p.tables e below (T9.setTop (mkF m 97 #[.val (.int p1), .val (.int p2), .val (.int (own_len p1 p2)), .val (.int (own_c ((p1.toUInt32 >>> ((2 : Int32) &&& 31).toUInt32).toInt32))), .val (.int (own_c ((p1.toUInt32 >>> ((4 : Int32) &&& 31).toUInt32).toInt32))), .val (.int (own_c ((p1.toUInt32 >>> ((6 : Int32) &&& 31).toUInt32).toInt32)))] [(.int (own_c ((p1.toUInt32 >>> ((4 : Int32) &&& 31).toUInt32).toInt32))), (.int (1 : Int32)), (.ref b8), (.ref b8), (.ref b7), (.ref b7)])) _
    refine st10 _ ?_
    show Steps p.tables e below (T10.setTop (mkF m 98 #[.val (.int p1), .val (.int p2), .val (.int (own_len p1 p2)), .val (.int (own_c ((p1.toUInt32 >>> ((2 : Int32) &&& 31).toUInt32).toInt32))), .val (.int (own_c ((p1.toUInt32 >>> ((4 : Int32) &&& 31).toUInt32).toInt32))), .val (.int (own_c ((p1.toUInt32 >>> ((6 : Int32) &&& 31).toUInt32).toInt32)))] [(.ref b8), (.ref b7), (.ref b7)])) _
    refine XS.dup X10.here hx rfl (hb hby d1_98) rfl rfl ?_
    show Steps p.tables e below (T10.setTop (mkF m 99 #[.val (.int p1), .val (.int p2), .val (.int (own_len p1 p2)), .val (.int (own_c ((p1.toUInt32 >>> ((2 : Int32) &&& 31).toUInt32).toInt32))), .val (.int (own_c ((p1.toUInt32 >>> ((4 : Int32) &&& 31).toUInt32).toInt32))), .val (.int (own_c ((p1.toUInt32 >>> ((6 : Int32) &&& 31).toUInt32).toInt32)))] [(.ref b8), (.ref b8), (.ref b7), (.ref b7)])) _
    refine XS.iconst X10.here hx rfl (hb hby d1_99) ?_
    show Steps p.tables e below (T10.setTop (mkF m 100 #[.val (.int p1), .val (.int p2), .val (.int (own_len p1 p2)), .val (.int (own_c ((p1.toUInt32 >>> ((2 : Int32) &&& 31).toUInt32).toInt32))), .val (.int (own_c ((p1.toUInt32 >>> ((4 : Int32) &&& 31).toUInt32).toInt32))), .val (.int (own_c ((p1.toUInt32 >>> ((6 : Int32) &&& 31).toUInt32).toInt32)))] [(.int (2 : Int32)), (.ref b8), (.ref b8), (.ref b7), (.ref b7)])) _
    refine XS.iload X10.here hx rfl (hb hby d1_100) rfl ?_
    show Steps p.tables e below (T10.setTop (mkF m 102 #[.val (.int p1), .val (.int p2), .val (.int (own_len p1 p2)), .val (.int (own_c ((p1.toUInt32 >>> ((2 : Int32) &&& 31).toUInt32).toInt32))), .val (.int (own_c ((p1.toUInt32 >>> ((4 : Int32) &&& 31).toUInt32).toInt32))), .val (.int (own_c ((p1.toUInt32 >>> ((6 : Int32) &&& 31).toUInt32).toInt32)))] [(.int (own_c ((p1.toUInt32 >>> ((6 : Int32) &&& 31).toUInt32).toInt32))), (.int (2 : Int32)), (.ref b8), (.ref b8), (.ref b7), (.ref b7)])) _
    refine st11 _ ?_
    show Steps p.tables e below (T11.setTop (mkF m 103 #[.val (.int p1), .val (.int p2), .val (.int (own_len p1 p2)), .val (.int (own_c ((p1.toUInt32 >>> ((2 : Int32) &&& 31).toUInt32).toInt32))), .val (.int (own_c ((p1.toUInt32 >>> ((4 : Int32) &&& 31).toUInt32).toInt32))), .val (.int (own_c ((p1.toUInt32 >>> ((6 : Int32) &&& 31).toUInt32).toInt32)))] [(.ref b8), (.ref b7), (.ref b7)])) _
    refine st12.trans ?_
    show Steps p.tables e below (T12.setTop (mkF m 106 #[.val (.int p1), .val (.int p2), .val (.int (own_len p1 p2)), .val (.int (own_c ((p1.toUInt32 >>> ((2 : Int32) &&& 31).toUInt32).toInt32))), .val (.int (own_c ((p1.toUInt32 >>> ((4 : Int32) &&& 31).toUInt32).toInt32))), .val (.int (own_c ((p1.toUInt32 >>> ((6 : Int32) &&& 31).toUInt32).toInt32)))] [(.ref b7)])) _
    jvm_step X12.here [X12.here.top, hx, (hb hby d1_106), X12.method', Bd.returns, Value.isRef, FieldType.isReference]
    first | (intro acts; rw [hr _ acts rfl rfl rfl]) | rw [hr _ _ rfl rfl rfl]
    exact Steps.refl _
  · show Q1 Z p1 p2 h0 n0 _ T12.heap _
    exact ⟨b7, rfl, N12, KK12, by rw [show own_part p1 p2 = [nar .char (own_c (own_sh p1 2)), nar .char (own_c (own_sh p1 4)), nar .char (own_c (own_sh p1 6))] from by simp only [own_c_nar]; exact (if_neg q0).trans ((if_neg q1).trans (if_neg q2))]; exact own_Str_of (n := 3) rfl rfl own_hp (by decide) A12 V12 C12 R12⟩
theorem rm1 (l : Launch) (Z : State) (a0 : Array Value) (hw : ∀ d ∈ tables_1, d.before a0 Z = true) (ws : List Jvm.Cond) (p1 p2 : Int32) (h0 : Heap) (n0 : Nat) (Z0 : n0 ≤ h0.size) (zc : Int32) (S_C : Sta Z Z.heap "java/lang/String" "COMPACT_STRINGS" "Z" (.int zc)) (hzc : ¬ zc = 0) (X00 : Old Z n0 h0) : MetFree l (⟨"com/example/nto1/nto1/IdentityEqualsPinLaw", "part", "(II)Ljava/lang/String;"⟩ : MethodName) (head1 (Jvm.Cond.code (⟨"com/example/nto1/nto1/IdentityEqualsPinLaw", "part", "(II)Ljava/lang/String;"⟩ : MethodName) method_5_code 6 (some (.object "java/lang/String")) :: ws) ({ frames := 4, cells := 3, slots := 10, locals := 66 } : Room)) (fun a U => a = #[(.int p1), (.int p2)] ∧ Z.Warmed39 U.vm ∧ U.heap = h0 ∧ CHv Z consts_1 U.vm h0 ∧ True) (fun _ _ _ _ _ => True) (fun _ U o U' => ∃ v L, o = .returned v ∧ Q1 Z p1 p2 h0 n0 v U'.heap L ∧ CHr Z consts_1 U.vm U.heap U'.vm U'.heap ∧ ReturnedEndW U o U' L ({ frames := 4, cells := 3, slots := 10, locals := 66 } : Room).cells ({ frames := 4, cells := 3, slots := 10, locals := 66 } : Room).slots) := by
  by_cases q0 : own_len p1 p2 = 0
  · exact rm1a l Z a0 hw ws p1 p2 h0 n0 Z0 zc S_C hzc X00 q0
  · by_cases q1 : own_len p1 p2 = 1
    · exact rm1b l Z a0 hw ws p1 p2 h0 n0 Z0 zc S_C hzc X00 q0 q1
    · by_cases q2 : own_len p1 p2 = 2
      · exact rm1c l Z a0 hw ws p1 p2 h0 n0 Z0 zc S_C hzc X00 q0 q1 q2
      · exact rm1d l Z a0 hw ws p1 p2 h0 n0 Z0 zc S_C hzc X00 q0 q1 q2
theorem d24_0 : decode method_6_code 0 = .ok (.iload_n 0, 1) := by decide +kernel
theorem d24_1 : decode method_6_code 1 = .ok (.iload_n 2, 1) := by decide +kernel
theorem d24_2 : decode method_6_code 2 = .ok (.invokestatic 26, 3) := by decide +kernel
theorem d24_5 : decode method_6_code 5 = .ok (.istore_n 3, 1) := by decide +kernel
theorem d24_6 : decode method_6_code 6 = .ok (.iload_n 3, 1) := by decide +kernel
theorem d24_7 : decode method_6_code 7 = .ok (.iload_n 1, 1) := by decide +kernel
theorem d24_8 : decode method_6_code 8 = .ok (.iload_n 2, 1) := by decide +kernel
theorem d24_9 : decode method_6_code 9 = .ok (.invokestatic 26, 3) := by decide +kernel
theorem d24_12 : decode method_6_code 12 = .ok (.if_icmp .eq 5, 3) := by decide +kernel
theorem d24_15 : decode method_6_code 15 = .ok (.iconst 0, 1) := by decide +kernel
theorem d24_16 : decode method_6_code 16 = .ok (.ireturn, 1) := by decide +kernel
theorem pn_24 : plainName "com/example/nto1/nto1/IdentityEqualsPinLaw" = true := by first | (simp [plainName, overriddenIn]; done) | decide +kernel
theorem pd_24_1 : parseMethodDescriptor "(II)I" = some ⟨[.int, .int], some .int⟩ := by decide +kernel
theorem ef_24 (m : MethodId) (x0 : Int32) (x1 : Int32) (x2 : Int32) : entryFrame m #[(.int x0), (.int x1), (.int x2)] 5 = mkF m 0 #[.val (.int x0), .val (.int x1), .val (.int x2), .unset, .unset] [] := by first | (simp [entryFrame, mkF, argsToLocals, Value.category]; done) | rfl
def Q24 (Z : State) (p1 : Int32) (p2 : Int32) (p3 : Int32) (h0 : Heap) (n0 : Nat) (v : Option Value) (h : Heap) (L : List Loc) : Prop := v = some (.int (own_same p1 p2 p3)) ∧ Fr n0 L ∧ h = h0
set_option maxRecDepth 65536 in
set_option maxHeartbeats 40000000 in
theorem rm24a (l : Launch) (Z : State) (a0 : Array Value) (hw : ∀ d ∈ tables_1, d.before a0 Z = true) (ws : List Jvm.Cond) (p1 : Int32) (p2 : Int32) (p3 : Int32) (h0 : Heap) (n0 : Nat) (Z0 : n0 ≤ h0.size) (q0 : ¬ own_len p1 p3 = own_len p2 p3) :
    MetFree l (⟨"com/example/nto1/nto1/IdentityEqualsPinLaw", "same", "(III)Z"⟩ : MethodName) (head1 (Jvm.Cond.code (⟨"com/example/nto1/nto1/IdentityEqualsPinLaw", "same", "(III)Z"⟩ : MethodName) method_6_code 5 (some .boolean) :: ws) ({ frames := 1, cells := 0, slots := 0, locals := 15 } : Room)) (fun a U => a = #[(.int p1), (.int p2), (.int p3)] ∧ Z.Warmed39 U.vm ∧ U.heap = h0) (fun _ _ _ _ _ => True) (fun _ U o U' => ∃ v L, o = .returned v ∧ Q24 Z p1 p2 p3 h0 n0 v U'.heap L ∧ FrameEnd U o U' L ({ frames := 1, cells := 0, slots := 0, locals := 15 } : Room).cells ({ frames := 1, cells := 0, slots := 0, locals := 15 } : Room).slots) := by
  refine MetFree.of_bodySF (plainFor_of_name pn_24) hisR ?_
  intro p e s m args below meth c s₁ Bd hml0 hP hK
  obtain ⟨rfl, hZ, hh⟩ := hP
  have hx := Bd.exec
  have hby := Bd.bytes
  have hml : c.maxLocals = 5 := hml0
  have hown : s.vm.findClass "com/example/nto1/nto1/IdentityEqualsPinLaw" = some m.cls := findClass_of_methodNamed Bd.named
  have hnm := (name_of_methodNamed Bd.named Bd.method).1
  have X0 : Stand p l e ({ frames := 1, cells := 0, slots := 0, locals := 15 } : Room) s m #[(.int p1), (.int p2), (.int p3)] below meth c s₁ [] 0 0 := Stand.of_body Bd
  have e0 : s₁.heap = h0 := by rw [← hh, Bd.state]; rfl
  have N0 := Fr.nil n0
  have pre0 : ∀ t, Steps p.tables e below (s₁.setTop (mkF m 0 #[.val (.int p1), .val (.int p2), .val (.int p3), .unset, .unset] [])) t → Steps p.tables e below (s₁.setTop (entryFrame m #[(.int p1), (.int p2), (.int p3)] 5)) t := fun t k => castTop (ef_24 m p1 p2 p3) k
  obtain ⟨_, _, ⟨T4, L4, k4, n4⟩, -, X4, ⟨Lc4, hQ4, l4, y4, z4⟩, st4⟩ := Jvm.LawKit.callS X0 hx (y := (⟨"com/example/nto1/nto1/IdentityEqualsPinLaw", "len", "(II)I"⟩ : MethodName)) hown (mvT hZ (hw _ (List.mem_of_getElem? (i := 7) rfl))) (mvT hZ (hw _ (List.mem_of_getElem? (i := 8) rfl))) (mvT hZ (hw _ (List.mem_of_getElem? (i := 5) rfl))) (mvT hZ (hw _ (List.mem_of_getElem? (i := 9) rfl))) (by decide) (backOf (W := 0) (rm2 l Z a0 hw [] p1 p3 h0 n0 Z0) hZ (hw _ (List.mem_of_getElem? (i := 9) rfl)) (hw _ (List.mem_of_getElem? (i := 5) rfl)) (by decide) (by decide)) (g := (mkF m 2 #[.val (.int p1), .val (.int p2), .val (.int p3), .unset, .unset] [(.int p3), (.int p1)])) rfl (by rw [hml]; rfl) (argsL := [(.int p1), (.int p3)]) (rest := []) (lenOf pd_24_1 rfl) rfl (by show 2 * 0 + _ ≤ _; exact Nat.le_of_eq rfl) (hb hby d24_2) (fun _ _ => ⟨rfl, e0, (by decide : 0 + 0 ≤ _), (by decide : 0 + 0 ≤ _)⟩)
  dsimp only [Pt.U, Pt.locs, Pt.cells, Pt.slots] at X4 l4 y4 z4 st4 hQ4
  subst l4 y4 z4
  obtain ⟨rfl, N4q, E4q⟩ := hQ4
  have K4q : Keep h0 T4.heap [] := by rw [E4q]; exact Keep.refl _ _
  have Z4 : n0 ≤ T4.heap.size := Nat.le_trans Z0 K4q.1
  have N4 := Fr.app N0 N4q
  obtain ⟨_, _, ⟨T5, L5, k5, n5⟩, -, X5, ⟨Lc5, hQ5, l5, y5, z5⟩, st5⟩ := Jvm.LawKit.callS X4 hx (y := (⟨"com/example/nto1/nto1/IdentityEqualsPinLaw", "len", "(II)I"⟩ : MethodName)) hown (mvT hZ (hw _ (List.mem_of_getElem? (i := 7) rfl))) (mvT hZ (hw _ (List.mem_of_getElem? (i := 8) rfl))) (mvT hZ (hw _ (List.mem_of_getElem? (i := 5) rfl))) (mvT hZ (hw _ (List.mem_of_getElem? (i := 9) rfl))) (by decide) (backOf (W := 1) (rm2 l Z a0 hw [] p2 p3 T4.heap n0 Z4) hZ (hw _ (List.mem_of_getElem? (i := 9) rfl)) (hw _ (List.mem_of_getElem? (i := 5) rfl)) (by decide) (by decide)) (g := (mkF m 9 #[.val (.int p1), .val (.int p2), .val (.int p3), .val (.int (own_len p1 p3)), .unset] [(.int p3), (.int p2), (.int (own_len p1 p3))])) rfl (by rw [hml]; rfl) (argsL := [(.int p2), (.int p3)]) (rest := [(.int (own_len p1 p3))]) (lenOf pd_24_1 rfl) rfl (by show 2 * 0 + _ ≤ _; exact Nat.le_of_eq rfl) (hb hby d24_9) (fun _ _ => ⟨rfl, rfl, (by decide : 0 + 0 ≤ _), (by decide : 0 + 0 ≤ _)⟩)
  dsimp only [Pt.U, Pt.locs, Pt.cells, Pt.slots] at X5 l5 y5 z5 st5 hQ5
  subst l5 y5 z5
  obtain ⟨rfl, N5q, E5q⟩ := hQ5
  have K5q : Keep T4.heap T5.heap [] := by rw [E5q]; exact Keep.refl _ _
  have Z5 : n0 ≤ T5.heap.size := Nat.le_trans Z4 K5q.1
  have N5 := Fr.app N4 N5q
  obtain ⟨fs, hr, hrun, hended, hW, hsame⟩ := X5.leave (v := some (.int (0 : Int32))) (fun h => by rw [Bd.returns] at h; cases h)
  refine ⟨_, _, pre0 _ ?_, hrun, hended, _, _, rfl, ?_, ⟨_, rfl⟩, hW, hsame.mono (by decide) (by decide)⟩
  · show Steps p.tables e below (s₁.setTop (mkF m 0 #[.val (.int p1), .val (.int p2), .val (.int p3), .unset, .unset] [])) _
    refine XS.iloadN X0.here hx rfl (hb hby d24_0) rfl ?_
    show Steps p.tables e below (s₁.setTop (mkF m 1 #[.val (.int p1), .val (.int p2), .val (.int p3), .unset, .unset] [(.int p1)])) _
    refine XS.iloadN X0.here hx rfl (hb hby d24_1) rfl ?_
    show Steps p.tables e below (s₁.setTop (mkF m 2 #[.val (.int p1), .val (.int p2), .val (.int p3), .unset, .unset] [(.int p3), (.int p1)])) _
    refine st4 _ ?_
    show Steps p.tables e below (T4.setTop (mkF m 5 #[.val (.int p1), .val (.int p2), .val (.int p3), .unset, .unset] [(.int (own_len p1 p3))])) _
    refine XS.istoreN X4.here hx rfl (hb hby d24_5) rfl (l' := #[.val (.int p1), .val (.int p2), .val (.int p3), .val (.int (own_len p1 p3)), .unset]) rfl ?_
    show Steps p.tables e below (T4.setTop (mkF m 6 #[.val (.int p1), .val (.int p2), .val (.int p3), .val (.int (own_len p1 p3)), .unset] [])) _
    refine XS.iloadN X4.here hx rfl (hb hby d24_6) rfl ?_
    show Steps p.tables e below (T4.setTop (mkF m 7 #[.val (.int p1), .val (.int p2), .val (.int p3), .val (.int (own_len p1 p3)), .unset] [(.int (own_len p1 p3))])) _
    refine XS.iloadN X4.here hx rfl (hb hby d24_7) rfl ?_
    show Steps p.tables e below (T4.setTop (mkF m 8 #[.val (.int p1), .val (.int p2), .val (.int p3), .val (.int (own_len p1 p3)), .unset] [(.int p2), (.int (own_len p1 p3))])) _
    refine XS.iloadN X4.here hx rfl (hb hby d24_8) rfl ?_
    show Steps p.tables e below (T4.setTop (mkF m 9 #[.val (.int p1), .val (.int p2), .val (.int p3), .val (.int (own_len p1 p3)), .unset] [(.int p3), (.int p2), (.int (own_len p1 p3))])) _
    refine st5 _ ?_
    show Steps p.tables e below (T5.setTop (mkF m 12 #[.val (.int p1), .val (.int p2), .val (.int p3), .val (.int (own_len p1 p3)), .unset] [(.int (own_len p2 p3)), (.int (own_len p1 p3))])) _
    refine XS.icmpNo X5.here hx rfl (hb hby d24_12) rfl (feq (q0 : ¬ ((own_len p1 p3) = (own_len p2 p3)))).1 ?_
    show Steps p.tables e below (T5.setTop (mkF m 15 #[.val (.int p1), .val (.int p2), .val (.int p3), .val (.int (own_len p1 p3)), .unset] [])) _
    refine XS.iconst X5.here hx rfl (hb hby d24_15) ?_
    show Steps p.tables e below (T5.setTop (mkF m 16 #[.val (.int p1), .val (.int p2), .val (.int p3), .val (.int (own_len p1 p3)), .unset] [(.int (0 : Int32))])) _
    exact retN X5 hx (t := .boolean) Bd.returns (by simp) (hb hby d24_16) hr
  · show Q24 Z p1 p2 p3 h0 n0 _ T5.heap _
    exact ⟨congrArg (fun z => some (Value.int z)) (show _ = own_same p1 p2 p3 from by unfold own_same own_used; rw [if_neg q0]), N5, E5q.trans E4q⟩
theorem d24_17 : decode method_6_code 17 = .ok (.iload_n 3, 1) := by decide +kernel
theorem d24_18 : decode method_6_code 18 = .ok (.ifCond .ne 7, 3) := by decide +kernel
theorem d24_21 : decode method_6_code 21 = .ok (.iconst 0, 1) := by decide +kernel
theorem d24_22 : decode method_6_code 22 = .ok (.goto 26, 3) := by decide +kernel
theorem d24_48 : decode method_6_code 48 = .ok (.istore 4, 2) := by decide +kernel
theorem d24_50 : decode method_6_code 50 = .ok (.iload_n 0, 1) := by decide +kernel
theorem d24_51 : decode method_6_code 51 = .ok (.iload_n 1, 1) := by decide +kernel
theorem d24_52 : decode method_6_code 52 = .ok (.ixor, 1) := by decide +kernel
theorem d24_53 : decode method_6_code 53 = .ok (.iload 4, 2) := by decide +kernel
theorem d24_55 : decode method_6_code 55 = .ok (.iand, 1) := by decide +kernel
theorem d24_56 : decode method_6_code 56 = .ok (.ifCond .ne 7, 3) := by decide +kernel
theorem d24_59 : decode method_6_code 59 = .ok (.iconst 1, 1) := by decide +kernel
theorem d24_60 : decode method_6_code 60 = .ok (.goto 4, 3) := by decide +kernel
theorem d24_64 : decode method_6_code 64 = .ok (.ireturn, 1) := by decide +kernel
set_option maxRecDepth 65536 in
set_option maxHeartbeats 40000000 in
theorem rm24b (l : Launch) (Z : State) (a0 : Array Value) (hw : ∀ d ∈ tables_1, d.before a0 Z = true) (ws : List Jvm.Cond) (p1 : Int32) (p2 : Int32) (p3 : Int32) (h0 : Heap) (n0 : Nat) (Z0 : n0 ≤ h0.size) (hc56 : ((p1 ^^^ p2) &&& (0 : Int32)) = (0 : Int32)) (q0 : own_len p1 p3 = own_len p2 p3) (qa : own_len p1 p3 = 0) :
    MetFree l (⟨"com/example/nto1/nto1/IdentityEqualsPinLaw", "same", "(III)Z"⟩ : MethodName) (head1 (Jvm.Cond.code (⟨"com/example/nto1/nto1/IdentityEqualsPinLaw", "same", "(III)Z"⟩ : MethodName) method_6_code 5 (some .boolean) :: ws) ({ frames := 1, cells := 0, slots := 0, locals := 15 } : Room)) (fun a U => a = #[(.int p1), (.int p2), (.int p3)] ∧ Z.Warmed39 U.vm ∧ U.heap = h0) (fun _ _ _ _ _ => True) (fun _ U o U' => ∃ v L, o = .returned v ∧ Q24 Z p1 p2 p3 h0 n0 v U'.heap L ∧ FrameEnd U o U' L ({ frames := 1, cells := 0, slots := 0, locals := 15 } : Room).cells ({ frames := 1, cells := 0, slots := 0, locals := 15 } : Room).slots) := by
  refine MetFree.of_bodySF (plainFor_of_name pn_24) hisR ?_
  intro p e s m args below meth c s₁ Bd hml0 hP hK
  obtain ⟨rfl, hZ, hh⟩ := hP
  have hx := Bd.exec
  have hby := Bd.bytes
  have hml : c.maxLocals = 5 := hml0
  have hown : s.vm.findClass "com/example/nto1/nto1/IdentityEqualsPinLaw" = some m.cls := findClass_of_methodNamed Bd.named
  have hnm := (name_of_methodNamed Bd.named Bd.method).1
  have X0 : Stand p l e ({ frames := 1, cells := 0, slots := 0, locals := 15 } : Room) s m #[(.int p1), (.int p2), (.int p3)] below meth c s₁ [] 0 0 := Stand.of_body Bd
  have e0 : s₁.heap = h0 := by rw [← hh, Bd.state]; rfl
  have N0 := Fr.nil n0
  have pre0 : ∀ t, Steps p.tables e below (s₁.setTop (mkF m 0 #[.val (.int p1), .val (.int p2), .val (.int p3), .unset, .unset] [])) t → Steps p.tables e below (s₁.setTop (entryFrame m #[(.int p1), (.int p2), (.int p3)] 5)) t := fun t k => castTop (ef_24 m p1 p2 p3) k
  obtain ⟨_, _, ⟨T4, L4, k4, n4⟩, -, X4, ⟨Lc4, hQ4, l4, y4, z4⟩, st4⟩ := Jvm.LawKit.callS X0 hx (y := (⟨"com/example/nto1/nto1/IdentityEqualsPinLaw", "len", "(II)I"⟩ : MethodName)) hown (mvT hZ (hw _ (List.mem_of_getElem? (i := 7) rfl))) (mvT hZ (hw _ (List.mem_of_getElem? (i := 8) rfl))) (mvT hZ (hw _ (List.mem_of_getElem? (i := 5) rfl))) (mvT hZ (hw _ (List.mem_of_getElem? (i := 9) rfl))) (by decide) (backOf (W := 0) (rm2 l Z a0 hw [] p1 p3 h0 n0 Z0) hZ (hw _ (List.mem_of_getElem? (i := 9) rfl)) (hw _ (List.mem_of_getElem? (i := 5) rfl)) (by decide) (by decide)) (g := (mkF m 2 #[.val (.int p1), .val (.int p2), .val (.int p3), .unset, .unset] [(.int p3), (.int p1)])) rfl (by rw [hml]; rfl) (argsL := [(.int p1), (.int p3)]) (rest := []) (lenOf pd_24_1 rfl) rfl (by show 2 * 0 + _ ≤ _; exact Nat.le_of_eq rfl) (hb hby d24_2) (fun _ _ => ⟨rfl, e0, (by decide : 0 + 0 ≤ _), (by decide : 0 + 0 ≤ _)⟩)
  dsimp only [Pt.U, Pt.locs, Pt.cells, Pt.slots] at X4 l4 y4 z4 st4 hQ4
  subst l4 y4 z4
  obtain ⟨rfl, N4q, E4q⟩ := hQ4
  have K4q : Keep h0 T4.heap [] := by rw [E4q]; exact Keep.refl _ _
  have Z4 : n0 ≤ T4.heap.size := Nat.le_trans Z0 K4q.1
  have N4 := Fr.app N0 N4q
  obtain ⟨_, _, ⟨T5, L5, k5, n5⟩, -, X5, ⟨Lc5, hQ5, l5, y5, z5⟩, st5⟩ := Jvm.LawKit.callS X4 hx (y := (⟨"com/example/nto1/nto1/IdentityEqualsPinLaw", "len", "(II)I"⟩ : MethodName)) hown (mvT hZ (hw _ (List.mem_of_getElem? (i := 7) rfl))) (mvT hZ (hw _ (List.mem_of_getElem? (i := 8) rfl))) (mvT hZ (hw _ (List.mem_of_getElem? (i := 5) rfl))) (mvT hZ (hw _ (List.mem_of_getElem? (i := 9) rfl))) (by decide) (backOf (W := 1) (rm2 l Z a0 hw [] p2 p3 T4.heap n0 Z4) hZ (hw _ (List.mem_of_getElem? (i := 9) rfl)) (hw _ (List.mem_of_getElem? (i := 5) rfl)) (by decide) (by decide)) (g := (mkF m 9 #[.val (.int p1), .val (.int p2), .val (.int p3), .val (.int (own_len p1 p3)), .unset] [(.int p3), (.int p2), (.int (own_len p1 p3))])) rfl (by rw [hml]; rfl) (argsL := [(.int p2), (.int p3)]) (rest := [(.int (own_len p1 p3))]) (lenOf pd_24_1 rfl) rfl (by show 2 * 0 + _ ≤ _; exact Nat.le_of_eq rfl) (hb hby d24_9) (fun _ _ => ⟨rfl, rfl, (by decide : 0 + 0 ≤ _), (by decide : 0 + 0 ≤ _)⟩)
  dsimp only [Pt.U, Pt.locs, Pt.cells, Pt.slots] at X5 l5 y5 z5 st5 hQ5
  subst l5 y5 z5
  obtain ⟨rfl, N5q, E5q⟩ := hQ5
  have K5q : Keep T4.heap T5.heap [] := by rw [E5q]; exact Keep.refl _ _
  have Z5 : n0 ≤ T5.heap.size := Nat.le_trans Z4 K5q.1
  have N5 := Fr.app N4 N5q
  obtain ⟨fs, hr, hrun, hended, hW, hsame⟩ := X5.leave (v := some (.int (1 : Int32))) (fun h => by rw [Bd.returns] at h; cases h)
  refine ⟨_, _, pre0 _ ?_, hrun, hended, _, _, rfl, ?_, ⟨_, rfl⟩, hW, hsame.mono (by decide) (by decide)⟩
  · show Steps p.tables e below (s₁.setTop (mkF m 0 #[.val (.int p1), .val (.int p2), .val (.int p3), .unset, .unset] [])) _
    refine XS.iloadN X0.here hx rfl (hb hby d24_0) rfl ?_
    show Steps p.tables e below (s₁.setTop (mkF m 1 #[.val (.int p1), .val (.int p2), .val (.int p3), .unset, .unset] [(.int p1)])) _
    refine XS.iloadN X0.here hx rfl (hb hby d24_1) rfl ?_
    show Steps p.tables e below (s₁.setTop (mkF m 2 #[.val (.int p1), .val (.int p2), .val (.int p3), .unset, .unset] [(.int p3), (.int p1)])) _
    refine st4 _ ?_
    show Steps p.tables e below (T4.setTop (mkF m 5 #[.val (.int p1), .val (.int p2), .val (.int p3), .unset, .unset] [(.int (own_len p1 p3))])) _
    refine XS.istoreN X4.here hx rfl (hb hby d24_5) rfl (l' := #[.val (.int p1), .val (.int p2), .val (.int p3), .val (.int (own_len p1 p3)), .unset]) rfl ?_
    show Steps p.tables e below (T4.setTop (mkF m 6 #[.val (.int p1), .val (.int p2), .val (.int p3), .val (.int (own_len p1 p3)), .unset] [])) _
    refine XS.iloadN X4.here hx rfl (hb hby d24_6) rfl ?_
    show Steps p.tables e below (T4.setTop (mkF m 7 #[.val (.int p1), .val (.int p2), .val (.int p3), .val (.int (own_len p1 p3)), .unset] [(.int (own_len p1 p3))])) _
    refine XS.iloadN X4.here hx rfl (hb hby d24_7) rfl ?_
    show Steps p.tables e below (T4.setTop (mkF m 8 #[.val (.int p1), .val (.int p2), .val (.int p3), .val (.int (own_len p1 p3)), .unset] [(.int p2), (.int (own_len p1 p3))])) _
    refine XS.iloadN X4.here hx rfl (hb hby d24_8) rfl ?_
    show Steps p.tables e below (T4.setTop (mkF m 9 #[.val (.int p1), .val (.int p2), .val (.int p3), .val (.int (own_len p1 p3)), .unset] [(.int p3), (.int p2), (.int (own_len p1 p3))])) _
    refine st5 _ ?_
    show Steps p.tables e below (T5.setTop (mkF m 12 #[.val (.int p1), .val (.int p2), .val (.int p3), .val (.int (own_len p1 p3)), .unset] [(.int (own_len p2 p3)), (.int (own_len p1 p3))])) _
    refine XS.icmpYes X5.here hx rfl (pc0 := 12) (pc' := 17) rfl (hb hby d24_12) rfl (teq (q0 : (own_len p1 p3) = (own_len p2 p3))).1 (by decide) (by decide) ?_
    show Steps p.tables e below (T5.setTop (mkF m 17 #[.val (.int p1), .val (.int p2), .val (.int p3), .val (.int (own_len p1 p3)), .unset] [])) _
    refine XS.iloadN X5.here hx rfl (hb hby d24_17) rfl ?_
    show Steps p.tables e below (T5.setTop (mkF m 18 #[.val (.int p1), .val (.int p2), .val (.int p3), .val (.int (own_len p1 p3)), .unset] [(.int (own_len p1 p3))])) _
    refine XS.ifNo X5.here hx rfl (hb hby d24_18) rfl ((if0 _ _).trans (teq (qa : (own_len p1 p3) = (0 : Int32))).2) ?_
    show Steps p.tables e below (T5.setTop (mkF m 21 #[.val (.int p1), .val (.int p2), .val (.int p3), .val (.int (own_len p1 p3)), .unset] [])) _
    refine XS.iconst X5.here hx rfl (hb hby d24_21) ?_
    show Steps p.tables e below (T5.setTop (mkF m 22 #[.val (.int p1), .val (.int p2), .val (.int p3), .val (.int (own_len p1 p3)), .unset] [(.int (0 : Int32))])) _
    refine XS.goto X5.here hx rfl (pc0 := 22) (pc' := 48) rfl (hb hby d24_22) (by decide) (by decide) ?_
    show Steps p.tables e below (T5.setTop (mkF m 48 #[.val (.int p1), .val (.int p2), .val (.int p3), .val (.int (own_len p1 p3)), .unset] [(.int (0 : Int32))])) _
    refine XS.istore X5.here hx rfl (hb hby d24_48) rfl (l' := #[.val (.int p1), .val (.int p2), .val (.int p3), .val (.int (own_len p1 p3)), .val (.int (0 : Int32))]) rfl ?_
    show Steps p.tables e below (T5.setTop (mkF m 50 #[.val (.int p1), .val (.int p2), .val (.int p3), .val (.int (own_len p1 p3)), .val (.int (0 : Int32))] [])) _
    refine XS.iloadN X5.here hx rfl (hb hby d24_50) rfl ?_
    show Steps p.tables e below (T5.setTop (mkF m 51 #[.val (.int p1), .val (.int p2), .val (.int p3), .val (.int (own_len p1 p3)), .val (.int (0 : Int32))] [(.int p1)])) _
    refine XS.iloadN X5.here hx rfl (hb hby d24_51) rfl ?_
    show Steps p.tables e below (T5.setTop (mkF m 52 #[.val (.int p1), .val (.int p2), .val (.int p3), .val (.int (own_len p1 p3)), .val (.int (0 : Int32))] [(.int p2), (.int p1)])) _
    refine XS.ixor X5.here hx rfl (hb hby d24_52) rfl ?_
    show Steps p.tables e below (T5.setTop (mkF m 53 #[.val (.int p1), .val (.int p2), .val (.int p3), .val (.int (own_len p1 p3)), .val (.int (0 : Int32))] [(.int (p1 ^^^ p2))])) _
    refine XS.iload X5.here hx rfl (hb hby d24_53) rfl ?_
    show Steps p.tables e below (T5.setTop (mkF m 55 #[.val (.int p1), .val (.int p2), .val (.int p3), .val (.int (own_len p1 p3)), .val (.int (0 : Int32))] [(.int (0 : Int32)), (.int (p1 ^^^ p2))])) _
    refine XS.iand X5.here hx rfl (hb hby d24_55) rfl ?_
    show Steps p.tables e below (T5.setTop (mkF m 56 #[.val (.int p1), .val (.int p2), .val (.int p3), .val (.int (own_len p1 p3)), .val (.int (0 : Int32))] [(.int ((p1 ^^^ p2) &&& (0 : Int32)))])) _
    refine XS.ifNo X5.here hx rfl (hb hby d24_56) rfl ((if0 _ _).trans (teq hc56).2) ?_
    show Steps p.tables e below (T5.setTop (mkF m 59 #[.val (.int p1), .val (.int p2), .val (.int p3), .val (.int (own_len p1 p3)), .val (.int (0 : Int32))] [])) _
    refine XS.iconst X5.here hx rfl (hb hby d24_59) ?_
    show Steps p.tables e below (T5.setTop (mkF m 60 #[.val (.int p1), .val (.int p2), .val (.int p3), .val (.int (own_len p1 p3)), .val (.int (0 : Int32))] [(.int (1 : Int32))])) _
    refine XS.goto X5.here hx rfl (pc0 := 60) (pc' := 64) rfl (hb hby d24_60) (by decide) (by decide) ?_
    show Steps p.tables e below (T5.setTop (mkF m 64 #[.val (.int p1), .val (.int p2), .val (.int p3), .val (.int (own_len p1 p3)), .val (.int (0 : Int32))] [(.int (1 : Int32))])) _
    exact retN X5 hx (t := .boolean) Bd.returns (by simp) (hb hby d24_64) hr
  · show Q24 Z p1 p2 p3 h0 n0 _ T5.heap _
    exact ⟨congrArg (fun z => some (Value.int z)) (show _ = own_same p1 p2 p3 from by unfold own_same own_used; rw [if_pos q0, if_pos qa, if_pos hc56]), N5, E5q.trans E4q⟩
theorem d24_25 : decode method_6_code 25 = .ok (.iload_n 3, 1) := by decide +kernel
theorem d24_26 : decode method_6_code 26 = .ok (.iconst 1, 1) := by decide +kernel
theorem d24_27 : decode method_6_code 27 = .ok (.if_icmp .ne 8, 3) := by decide +kernel
theorem d24_30 : decode method_6_code 30 = .ok (.bipush 12, 2) := by decide +kernel
theorem d24_32 : decode method_6_code 32 = .ok (.goto 16, 3) := by decide +kernel
set_option maxRecDepth 65536 in
set_option maxHeartbeats 40000000 in
theorem rm24c1 (l : Launch) (Z : State) (a0 : Array Value) (hw : ∀ d ∈ tables_1, d.before a0 Z = true) (ws : List Jvm.Cond) (p1 : Int32) (p2 : Int32) (p3 : Int32) (h0 : Heap) (n0 : Nat) (Z0 : n0 ≤ h0.size) (hc56 : ((p1 ^^^ p2) &&& (12 : Int32)) = (0 : Int32)) (q0 : own_len p1 p3 = own_len p2 p3) (qa : ¬ own_len p1 p3 = 0) (qb : own_len p1 p3 = 1) :
    MetFree l (⟨"com/example/nto1/nto1/IdentityEqualsPinLaw", "same", "(III)Z"⟩ : MethodName) (head1 (Jvm.Cond.code (⟨"com/example/nto1/nto1/IdentityEqualsPinLaw", "same", "(III)Z"⟩ : MethodName) method_6_code 5 (some .boolean) :: ws) ({ frames := 1, cells := 0, slots := 0, locals := 15 } : Room)) (fun a U => a = #[(.int p1), (.int p2), (.int p3)] ∧ Z.Warmed39 U.vm ∧ U.heap = h0) (fun _ _ _ _ _ => True) (fun _ U o U' => ∃ v L, o = .returned v ∧ Q24 Z p1 p2 p3 h0 n0 v U'.heap L ∧ FrameEnd U o U' L ({ frames := 1, cells := 0, slots := 0, locals := 15 } : Room).cells ({ frames := 1, cells := 0, slots := 0, locals := 15 } : Room).slots) := by
  refine MetFree.of_bodySF (plainFor_of_name pn_24) hisR ?_
  intro p e s m args below meth c s₁ Bd hml0 hP hK
  obtain ⟨rfl, hZ, hh⟩ := hP
  have hx := Bd.exec
  have hby := Bd.bytes
  have hml : c.maxLocals = 5 := hml0
  have hown : s.vm.findClass "com/example/nto1/nto1/IdentityEqualsPinLaw" = some m.cls := findClass_of_methodNamed Bd.named
  have hnm := (name_of_methodNamed Bd.named Bd.method).1
  have X0 : Stand p l e ({ frames := 1, cells := 0, slots := 0, locals := 15 } : Room) s m #[(.int p1), (.int p2), (.int p3)] below meth c s₁ [] 0 0 := Stand.of_body Bd
  have e0 : s₁.heap = h0 := by rw [← hh, Bd.state]; rfl
  have N0 := Fr.nil n0
  have pre0 : ∀ t, Steps p.tables e below (s₁.setTop (mkF m 0 #[.val (.int p1), .val (.int p2), .val (.int p3), .unset, .unset] [])) t → Steps p.tables e below (s₁.setTop (entryFrame m #[(.int p1), (.int p2), (.int p3)] 5)) t := fun t k => castTop (ef_24 m p1 p2 p3) k
  obtain ⟨_, _, ⟨T4, L4, k4, n4⟩, -, X4, ⟨Lc4, hQ4, l4, y4, z4⟩, st4⟩ := Jvm.LawKit.callS X0 hx (y := (⟨"com/example/nto1/nto1/IdentityEqualsPinLaw", "len", "(II)I"⟩ : MethodName)) hown (mvT hZ (hw _ (List.mem_of_getElem? (i := 7) rfl))) (mvT hZ (hw _ (List.mem_of_getElem? (i := 8) rfl))) (mvT hZ (hw _ (List.mem_of_getElem? (i := 5) rfl))) (mvT hZ (hw _ (List.mem_of_getElem? (i := 9) rfl))) (by decide) (backOf (W := 0) (rm2 l Z a0 hw [] p1 p3 h0 n0 Z0) hZ (hw _ (List.mem_of_getElem? (i := 9) rfl)) (hw _ (List.mem_of_getElem? (i := 5) rfl)) (by decide) (by decide)) (g := (mkF m 2 #[.val (.int p1), .val (.int p2), .val (.int p3), .unset, .unset] [(.int p3), (.int p1)])) rfl (by rw [hml]; rfl) (argsL := [(.int p1), (.int p3)]) (rest := []) (lenOf pd_24_1 rfl) rfl (by show 2 * 0 + _ ≤ _; exact Nat.le_of_eq rfl) (hb hby d24_2) (fun _ _ => ⟨rfl, e0, (by decide : 0 + 0 ≤ _), (by decide : 0 + 0 ≤ _)⟩)
  dsimp only [Pt.U, Pt.locs, Pt.cells, Pt.slots] at X4 l4 y4 z4 st4 hQ4
  subst l4 y4 z4
  obtain ⟨rfl, N4q, E4q⟩ := hQ4
  have K4q : Keep h0 T4.heap [] := by rw [E4q]; exact Keep.refl _ _
  have Z4 : n0 ≤ T4.heap.size := Nat.le_trans Z0 K4q.1
  have N4 := Fr.app N0 N4q
  obtain ⟨_, _, ⟨T5, L5, k5, n5⟩, -, X5, ⟨Lc5, hQ5, l5, y5, z5⟩, st5⟩ := Jvm.LawKit.callS X4 hx (y := (⟨"com/example/nto1/nto1/IdentityEqualsPinLaw", "len", "(II)I"⟩ : MethodName)) hown (mvT hZ (hw _ (List.mem_of_getElem? (i := 7) rfl))) (mvT hZ (hw _ (List.mem_of_getElem? (i := 8) rfl))) (mvT hZ (hw _ (List.mem_of_getElem? (i := 5) rfl))) (mvT hZ (hw _ (List.mem_of_getElem? (i := 9) rfl))) (by decide) (backOf (W := 1) (rm2 l Z a0 hw [] p2 p3 T4.heap n0 Z4) hZ (hw _ (List.mem_of_getElem? (i := 9) rfl)) (hw _ (List.mem_of_getElem? (i := 5) rfl)) (by decide) (by decide)) (g := (mkF m 9 #[.val (.int p1), .val (.int p2), .val (.int p3), .val (.int (own_len p1 p3)), .unset] [(.int p3), (.int p2), (.int (own_len p1 p3))])) rfl (by rw [hml]; rfl) (argsL := [(.int p2), (.int p3)]) (rest := [(.int (own_len p1 p3))]) (lenOf pd_24_1 rfl) rfl (by show 2 * 0 + _ ≤ _; exact Nat.le_of_eq rfl) (hb hby d24_9) (fun _ _ => ⟨rfl, rfl, (by decide : 0 + 0 ≤ _), (by decide : 0 + 0 ≤ _)⟩)
  dsimp only [Pt.U, Pt.locs, Pt.cells, Pt.slots] at X5 l5 y5 z5 st5 hQ5
  subst l5 y5 z5
  obtain ⟨rfl, N5q, E5q⟩ := hQ5
  have K5q : Keep T4.heap T5.heap [] := by rw [E5q]; exact Keep.refl _ _
  have Z5 : n0 ≤ T5.heap.size := Nat.le_trans Z4 K5q.1
  have N5 := Fr.app N4 N5q
  obtain ⟨fs, hr, hrun, hended, hW, hsame⟩ := X5.leave (v := some (.int (1 : Int32))) (fun h => by rw [Bd.returns] at h; cases h)
  refine ⟨_, _, pre0 _ ?_, hrun, hended, _, _, rfl, ?_, ⟨_, rfl⟩, hW, hsame.mono (by decide) (by decide)⟩
  · show Steps p.tables e below (s₁.setTop (mkF m 0 #[.val (.int p1), .val (.int p2), .val (.int p3), .unset, .unset] [])) _
    refine XS.iloadN X0.here hx rfl (hb hby d24_0) rfl ?_
    show Steps p.tables e below (s₁.setTop (mkF m 1 #[.val (.int p1), .val (.int p2), .val (.int p3), .unset, .unset] [(.int p1)])) _
    refine XS.iloadN X0.here hx rfl (hb hby d24_1) rfl ?_
    show Steps p.tables e below (s₁.setTop (mkF m 2 #[.val (.int p1), .val (.int p2), .val (.int p3), .unset, .unset] [(.int p3), (.int p1)])) _
    refine st4 _ ?_
    show Steps p.tables e below (T4.setTop (mkF m 5 #[.val (.int p1), .val (.int p2), .val (.int p3), .unset, .unset] [(.int (own_len p1 p3))])) _
    refine XS.istoreN X4.here hx rfl (hb hby d24_5) rfl (l' := #[.val (.int p1), .val (.int p2), .val (.int p3), .val (.int (own_len p1 p3)), .unset]) rfl ?_
    show Steps p.tables e below (T4.setTop (mkF m 6 #[.val (.int p1), .val (.int p2), .val (.int p3), .val (.int (own_len p1 p3)), .unset] [])) _
    refine XS.iloadN X4.here hx rfl (hb hby d24_6) rfl ?_
    show Steps p.tables e below (T4.setTop (mkF m 7 #[.val (.int p1), .val (.int p2), .val (.int p3), .val (.int (own_len p1 p3)), .unset] [(.int (own_len p1 p3))])) _
    refine XS.iloadN X4.here hx rfl (hb hby d24_7) rfl ?_
    show Steps p.tables e below (T4.setTop (mkF m 8 #[.val (.int p1), .val (.int p2), .val (.int p3), .val (.int (own_len p1 p3)), .unset] [(.int p2), (.int (own_len p1 p3))])) _
    refine XS.iloadN X4.here hx rfl (hb hby d24_8) rfl ?_
    show Steps p.tables e below (T4.setTop (mkF m 9 #[.val (.int p1), .val (.int p2), .val (.int p3), .val (.int (own_len p1 p3)), .unset] [(.int p3), (.int p2), (.int (own_len p1 p3))])) _
    refine st5 _ ?_
    show Steps p.tables e below (T5.setTop (mkF m 12 #[.val (.int p1), .val (.int p2), .val (.int p3), .val (.int (own_len p1 p3)), .unset] [(.int (own_len p2 p3)), (.int (own_len p1 p3))])) _
    refine XS.icmpYes X5.here hx rfl (pc0 := 12) (pc' := 17) rfl (hb hby d24_12) rfl (teq (q0 : (own_len p1 p3) = (own_len p2 p3))).1 (by decide) (by decide) ?_
    show Steps p.tables e below (T5.setTop (mkF m 17 #[.val (.int p1), .val (.int p2), .val (.int p3), .val (.int (own_len p1 p3)), .unset] [])) _
    refine XS.iloadN X5.here hx rfl (hb hby d24_17) rfl ?_
    show Steps p.tables e below (T5.setTop (mkF m 18 #[.val (.int p1), .val (.int p2), .val (.int p3), .val (.int (own_len p1 p3)), .unset] [(.int (own_len p1 p3))])) _
    refine XS.ifYes X5.here hx rfl (pc0 := 18) (pc' := 25) rfl (hb hby d24_18) rfl ((if0 _ _).trans (feq (qa : ¬ ((own_len p1 p3) = (0 : Int32)))).2) (by decide) (by decide) ?_
    show Steps p.tables e below (T5.setTop (mkF m 25 #[.val (.int p1), .val (.int p2), .val (.int p3), .val (.int (own_len p1 p3)), .unset] [])) _
    refine XS.iloadN X5.here hx rfl (hb hby d24_25) rfl ?_
    show Steps p.tables e below (T5.setTop (mkF m 26 #[.val (.int p1), .val (.int p2), .val (.int p3), .val (.int (own_len p1 p3)), .unset] [(.int (own_len p1 p3))])) _
    refine XS.iconst X5.here hx rfl (hb hby d24_26) ?_
    show Steps p.tables e below (T5.setTop (mkF m 27 #[.val (.int p1), .val (.int p2), .val (.int p3), .val (.int (own_len p1 p3)), .unset] [(.int (1 : Int32)), (.int (own_len p1 p3))])) _
    refine XS.icmpNo X5.here hx rfl (hb hby d24_27) rfl (teq (qb : (own_len p1 p3) = (1 : Int32))).2 ?_
    show Steps p.tables e below (T5.setTop (mkF m 30 #[.val (.int p1), .val (.int p2), .val (.int p3), .val (.int (own_len p1 p3)), .unset] [])) _
    refine XS.bipush X5.here hx rfl (hb hby d24_30) ?_
    show Steps p.tables e below (T5.setTop (mkF m 32 #[.val (.int p1), .val (.int p2), .val (.int p3), .val (.int (own_len p1 p3)), .unset] [(.int (12 : Int32))])) _
    refine XS.goto X5.here hx rfl (pc0 := 32) (pc' := 48) rfl (hb hby d24_32) (by decide) (by decide) ?_
    show Steps p.tables e below (T5.setTop (mkF m 48 #[.val (.int p1), .val (.int p2), .val (.int p3), .val (.int (own_len p1 p3)), .unset] [(.int (12 : Int32))])) _
    refine XS.istore X5.here hx rfl (hb hby d24_48) rfl (l' := #[.val (.int p1), .val (.int p2), .val (.int p3), .val (.int (own_len p1 p3)), .val (.int (12 : Int32))]) rfl ?_
    show Steps p.tables e below (T5.setTop (mkF m 50 #[.val (.int p1), .val (.int p2), .val (.int p3), .val (.int (own_len p1 p3)), .val (.int (12 : Int32))] [])) _
    refine XS.iloadN X5.here hx rfl (hb hby d24_50) rfl ?_
    show Steps p.tables e below (T5.setTop (mkF m 51 #[.val (.int p1), .val (.int p2), .val (.int p3), .val (.int (own_len p1 p3)), .val (.int (12 : Int32))] [(.int p1)])) _
    refine XS.iloadN X5.here hx rfl (hb hby d24_51) rfl ?_
    show Steps p.tables e below (T5.setTop (mkF m 52 #[.val (.int p1), .val (.int p2), .val (.int p3), .val (.int (own_len p1 p3)), .val (.int (12 : Int32))] [(.int p2), (.int p1)])) _
    refine XS.ixor X5.here hx rfl (hb hby d24_52) rfl ?_
    show Steps p.tables e below (T5.setTop (mkF m 53 #[.val (.int p1), .val (.int p2), .val (.int p3), .val (.int (own_len p1 p3)), .val (.int (12 : Int32))] [(.int (p1 ^^^ p2))])) _
    refine XS.iload X5.here hx rfl (hb hby d24_53) rfl ?_
    show Steps p.tables e below (T5.setTop (mkF m 55 #[.val (.int p1), .val (.int p2), .val (.int p3), .val (.int (own_len p1 p3)), .val (.int (12 : Int32))] [(.int (12 : Int32)), (.int (p1 ^^^ p2))])) _
    refine XS.iand X5.here hx rfl (hb hby d24_55) rfl ?_
    show Steps p.tables e below (T5.setTop (mkF m 56 #[.val (.int p1), .val (.int p2), .val (.int p3), .val (.int (own_len p1 p3)), .val (.int (12 : Int32))] [(.int ((p1 ^^^ p2) &&& (12 : Int32)))])) _
    refine XS.ifNo X5.here hx rfl (hb hby d24_56) rfl ((if0 _ _).trans (teq hc56).2) ?_
    show Steps p.tables e below (T5.setTop (mkF m 59 #[.val (.int p1), .val (.int p2), .val (.int p3), .val (.int (own_len p1 p3)), .val (.int (12 : Int32))] [])) _
    refine XS.iconst X5.here hx rfl (hb hby d24_59) ?_
    show Steps p.tables e below (T5.setTop (mkF m 60 #[.val (.int p1), .val (.int p2), .val (.int p3), .val (.int (own_len p1 p3)), .val (.int (12 : Int32))] [(.int (1 : Int32))])) _
    refine XS.goto X5.here hx rfl (pc0 := 60) (pc' := 64) rfl (hb hby d24_60) (by decide) (by decide) ?_
    show Steps p.tables e below (T5.setTop (mkF m 64 #[.val (.int p1), .val (.int p2), .val (.int p3), .val (.int (own_len p1 p3)), .val (.int (12 : Int32))] [(.int (1 : Int32))])) _
    exact retN X5 hx (t := .boolean) Bd.returns (by simp) (hb hby d24_64) hr
  · show Q24 Z p1 p2 p3 h0 n0 _ T5.heap _
    exact ⟨congrArg (fun z => some (Value.int z)) (show _ = own_same p1 p2 p3 from by unfold own_same own_used; rw [if_pos q0, if_neg qa, if_pos qb, if_pos hc56]), N5, E5q.trans E4q⟩
theorem d24_63 : decode method_6_code 63 = .ok (.iconst 0, 1) := by decide +kernel
set_option maxRecDepth 65536 in
set_option maxHeartbeats 40000000 in
theorem rm24c0 (l : Launch) (Z : State) (a0 : Array Value) (hw : ∀ d ∈ tables_1, d.before a0 Z = true) (ws : List Jvm.Cond) (p1 : Int32) (p2 : Int32) (p3 : Int32) (h0 : Heap) (n0 : Nat) (Z0 : n0 ≤ h0.size) (hc56 : ¬ (((p1 ^^^ p2) &&& (12 : Int32)) = (0 : Int32))) (q0 : own_len p1 p3 = own_len p2 p3) (qa : ¬ own_len p1 p3 = 0) (qb : own_len p1 p3 = 1) :
    MetFree l (⟨"com/example/nto1/nto1/IdentityEqualsPinLaw", "same", "(III)Z"⟩ : MethodName) (head1 (Jvm.Cond.code (⟨"com/example/nto1/nto1/IdentityEqualsPinLaw", "same", "(III)Z"⟩ : MethodName) method_6_code 5 (some .boolean) :: ws) ({ frames := 1, cells := 0, slots := 0, locals := 15 } : Room)) (fun a U => a = #[(.int p1), (.int p2), (.int p3)] ∧ Z.Warmed39 U.vm ∧ U.heap = h0) (fun _ _ _ _ _ => True) (fun _ U o U' => ∃ v L, o = .returned v ∧ Q24 Z p1 p2 p3 h0 n0 v U'.heap L ∧ FrameEnd U o U' L ({ frames := 1, cells := 0, slots := 0, locals := 15 } : Room).cells ({ frames := 1, cells := 0, slots := 0, locals := 15 } : Room).slots) := by
  refine MetFree.of_bodySF (plainFor_of_name pn_24) hisR ?_
  intro p e s m args below meth c s₁ Bd hml0 hP hK
  obtain ⟨rfl, hZ, hh⟩ := hP
  have hx := Bd.exec
  have hby := Bd.bytes
  have hml : c.maxLocals = 5 := hml0
  have hown : s.vm.findClass "com/example/nto1/nto1/IdentityEqualsPinLaw" = some m.cls := findClass_of_methodNamed Bd.named
  have hnm := (name_of_methodNamed Bd.named Bd.method).1
  have X0 : Stand p l e ({ frames := 1, cells := 0, slots := 0, locals := 15 } : Room) s m #[(.int p1), (.int p2), (.int p3)] below meth c s₁ [] 0 0 := Stand.of_body Bd
  have e0 : s₁.heap = h0 := by rw [← hh, Bd.state]; rfl
  have N0 := Fr.nil n0
  have pre0 : ∀ t, Steps p.tables e below (s₁.setTop (mkF m 0 #[.val (.int p1), .val (.int p2), .val (.int p3), .unset, .unset] [])) t → Steps p.tables e below (s₁.setTop (entryFrame m #[(.int p1), (.int p2), (.int p3)] 5)) t := fun t k => castTop (ef_24 m p1 p2 p3) k
  obtain ⟨_, _, ⟨T4, L4, k4, n4⟩, -, X4, ⟨Lc4, hQ4, l4, y4, z4⟩, st4⟩ := Jvm.LawKit.callS X0 hx (y := (⟨"com/example/nto1/nto1/IdentityEqualsPinLaw", "len", "(II)I"⟩ : MethodName)) hown (mvT hZ (hw _ (List.mem_of_getElem? (i := 7) rfl))) (mvT hZ (hw _ (List.mem_of_getElem? (i := 8) rfl))) (mvT hZ (hw _ (List.mem_of_getElem? (i := 5) rfl))) (mvT hZ (hw _ (List.mem_of_getElem? (i := 9) rfl))) (by decide) (backOf (W := 0) (rm2 l Z a0 hw [] p1 p3 h0 n0 Z0) hZ (hw _ (List.mem_of_getElem? (i := 9) rfl)) (hw _ (List.mem_of_getElem? (i := 5) rfl)) (by decide) (by decide)) (g := (mkF m 2 #[.val (.int p1), .val (.int p2), .val (.int p3), .unset, .unset] [(.int p3), (.int p1)])) rfl (by rw [hml]; rfl) (argsL := [(.int p1), (.int p3)]) (rest := []) (lenOf pd_24_1 rfl) rfl (by show 2 * 0 + _ ≤ _; exact Nat.le_of_eq rfl) (hb hby d24_2) (fun _ _ => ⟨rfl, e0, (by decide : 0 + 0 ≤ _), (by decide : 0 + 0 ≤ _)⟩)
  dsimp only [Pt.U, Pt.locs, Pt.cells, Pt.slots] at X4 l4 y4 z4 st4 hQ4
  subst l4 y4 z4
  obtain ⟨rfl, N4q, E4q⟩ := hQ4
  have K4q : Keep h0 T4.heap [] := by rw [E4q]; exact Keep.refl _ _
  have Z4 : n0 ≤ T4.heap.size := Nat.le_trans Z0 K4q.1
  have N4 := Fr.app N0 N4q
  obtain ⟨_, _, ⟨T5, L5, k5, n5⟩, -, X5, ⟨Lc5, hQ5, l5, y5, z5⟩, st5⟩ := Jvm.LawKit.callS X4 hx (y := (⟨"com/example/nto1/nto1/IdentityEqualsPinLaw", "len", "(II)I"⟩ : MethodName)) hown (mvT hZ (hw _ (List.mem_of_getElem? (i := 7) rfl))) (mvT hZ (hw _ (List.mem_of_getElem? (i := 8) rfl))) (mvT hZ (hw _ (List.mem_of_getElem? (i := 5) rfl))) (mvT hZ (hw _ (List.mem_of_getElem? (i := 9) rfl))) (by decide) (backOf (W := 1) (rm2 l Z a0 hw [] p2 p3 T4.heap n0 Z4) hZ (hw _ (List.mem_of_getElem? (i := 9) rfl)) (hw _ (List.mem_of_getElem? (i := 5) rfl)) (by decide) (by decide)) (g := (mkF m 9 #[.val (.int p1), .val (.int p2), .val (.int p3), .val (.int (own_len p1 p3)), .unset] [(.int p3), (.int p2), (.int (own_len p1 p3))])) rfl (by rw [hml]; rfl) (argsL := [(.int p2), (.int p3)]) (rest := [(.int (own_len p1 p3))]) (lenOf pd_24_1 rfl) rfl (by show 2 * 0 + _ ≤ _; exact Nat.le_of_eq rfl) (hb hby d24_9) (fun _ _ => ⟨rfl, rfl, (by decide : 0 + 0 ≤ _), (by decide : 0 + 0 ≤ _)⟩)
  dsimp only [Pt.U, Pt.locs, Pt.cells, Pt.slots] at X5 l5 y5 z5 st5 hQ5
  subst l5 y5 z5
  obtain ⟨rfl, N5q, E5q⟩ := hQ5
  have K5q : Keep T4.heap T5.heap [] := by rw [E5q]; exact Keep.refl _ _
  have Z5 : n0 ≤ T5.heap.size := Nat.le_trans Z4 K5q.1
  have N5 := Fr.app N4 N5q
  obtain ⟨fs, hr, hrun, hended, hW, hsame⟩ := X5.leave (v := some (.int (0 : Int32))) (fun h => by rw [Bd.returns] at h; cases h)
  refine ⟨_, _, pre0 _ ?_, hrun, hended, _, _, rfl, ?_, ⟨_, rfl⟩, hW, hsame.mono (by decide) (by decide)⟩
  · show Steps p.tables e below (s₁.setTop (mkF m 0 #[.val (.int p1), .val (.int p2), .val (.int p3), .unset, .unset] [])) _
    refine XS.iloadN X0.here hx rfl (hb hby d24_0) rfl ?_
    show Steps p.tables e below (s₁.setTop (mkF m 1 #[.val (.int p1), .val (.int p2), .val (.int p3), .unset, .unset] [(.int p1)])) _
    refine XS.iloadN X0.here hx rfl (hb hby d24_1) rfl ?_
    show Steps p.tables e below (s₁.setTop (mkF m 2 #[.val (.int p1), .val (.int p2), .val (.int p3), .unset, .unset] [(.int p3), (.int p1)])) _
    refine st4 _ ?_
    show Steps p.tables e below (T4.setTop (mkF m 5 #[.val (.int p1), .val (.int p2), .val (.int p3), .unset, .unset] [(.int (own_len p1 p3))])) _
    refine XS.istoreN X4.here hx rfl (hb hby d24_5) rfl (l' := #[.val (.int p1), .val (.int p2), .val (.int p3), .val (.int (own_len p1 p3)), .unset]) rfl ?_
    show Steps p.tables e below (T4.setTop (mkF m 6 #[.val (.int p1), .val (.int p2), .val (.int p3), .val (.int (own_len p1 p3)), .unset] [])) _
    refine XS.iloadN X4.here hx rfl (hb hby d24_6) rfl ?_
    show Steps p.tables e below (T4.setTop (mkF m 7 #[.val (.int p1), .val (.int p2), .val (.int p3), .val (.int (own_len p1 p3)), .unset] [(.int (own_len p1 p3))])) _
    refine XS.iloadN X4.here hx rfl (hb hby d24_7) rfl ?_
    show Steps p.tables e below (T4.setTop (mkF m 8 #[.val (.int p1), .val (.int p2), .val (.int p3), .val (.int (own_len p1 p3)), .unset] [(.int p2), (.int (own_len p1 p3))])) _
    refine XS.iloadN X4.here hx rfl (hb hby d24_8) rfl ?_
    show Steps p.tables e below (T4.setTop (mkF m 9 #[.val (.int p1), .val (.int p2), .val (.int p3), .val (.int (own_len p1 p3)), .unset] [(.int p3), (.int p2), (.int (own_len p1 p3))])) _
    refine st5 _ ?_
    show Steps p.tables e below (T5.setTop (mkF m 12 #[.val (.int p1), .val (.int p2), .val (.int p3), .val (.int (own_len p1 p3)), .unset] [(.int (own_len p2 p3)), (.int (own_len p1 p3))])) _
    refine XS.icmpYes X5.here hx rfl (pc0 := 12) (pc' := 17) rfl (hb hby d24_12) rfl (teq (q0 : (own_len p1 p3) = (own_len p2 p3))).1 (by decide) (by decide) ?_
    show Steps p.tables e below (T5.setTop (mkF m 17 #[.val (.int p1), .val (.int p2), .val (.int p3), .val (.int (own_len p1 p3)), .unset] [])) _
    refine XS.iloadN X5.here hx rfl (hb hby d24_17) rfl ?_
    show Steps p.tables e below (T5.setTop (mkF m 18 #[.val (.int p1), .val (.int p2), .val (.int p3), .val (.int (own_len p1 p3)), .unset] [(.int (own_len p1 p3))])) _
    refine XS.ifYes X5.here hx rfl (pc0 := 18) (pc' := 25) rfl (hb hby d24_18) rfl ((if0 _ _).trans (feq (qa : ¬ ((own_len p1 p3) = (0 : Int32)))).2) (by decide) (by decide) ?_
    show Steps p.tables e below (T5.setTop (mkF m 25 #[.val (.int p1), .val (.int p2), .val (.int p3), .val (.int (own_len p1 p3)), .unset] [])) _
    refine XS.iloadN X5.here hx rfl (hb hby d24_25) rfl ?_
    show Steps p.tables e below (T5.setTop (mkF m 26 #[.val (.int p1), .val (.int p2), .val (.int p3), .val (.int (own_len p1 p3)), .unset] [(.int (own_len p1 p3))])) _
    refine XS.iconst X5.here hx rfl (hb hby d24_26) ?_
    show Steps p.tables e below (T5.setTop (mkF m 27 #[.val (.int p1), .val (.int p2), .val (.int p3), .val (.int (own_len p1 p3)), .unset] [(.int (1 : Int32)), (.int (own_len p1 p3))])) _
    refine XS.icmpNo X5.here hx rfl (hb hby d24_27) rfl (teq (qb : (own_len p1 p3) = (1 : Int32))).2 ?_
    show Steps p.tables e below (T5.setTop (mkF m 30 #[.val (.int p1), .val (.int p2), .val (.int p3), .val (.int (own_len p1 p3)), .unset] [])) _
    refine XS.bipush X5.here hx rfl (hb hby d24_30) ?_
    show Steps p.tables e below (T5.setTop (mkF m 32 #[.val (.int p1), .val (.int p2), .val (.int p3), .val (.int (own_len p1 p3)), .unset] [(.int (12 : Int32))])) _
    refine XS.goto X5.here hx rfl (pc0 := 32) (pc' := 48) rfl (hb hby d24_32) (by decide) (by decide) ?_
    show Steps p.tables e below (T5.setTop (mkF m 48 #[.val (.int p1), .val (.int p2), .val (.int p3), .val (.int (own_len p1 p3)), .unset] [(.int (12 : Int32))])) _
    refine XS.istore X5.here hx rfl (hb hby d24_48) rfl (l' := #[.val (.int p1), .val (.int p2), .val (.int p3), .val (.int (own_len p1 p3)), .val (.int (12 : Int32))]) rfl ?_
    show Steps p.tables e below (T5.setTop (mkF m 50 #[.val (.int p1), .val (.int p2), .val (.int p3), .val (.int (own_len p1 p3)), .val (.int (12 : Int32))] [])) _
    refine XS.iloadN X5.here hx rfl (hb hby d24_50) rfl ?_
    show Steps p.tables e below (T5.setTop (mkF m 51 #[.val (.int p1), .val (.int p2), .val (.int p3), .val (.int (own_len p1 p3)), .val (.int (12 : Int32))] [(.int p1)])) _
    refine XS.iloadN X5.here hx rfl (hb hby d24_51) rfl ?_
    show Steps p.tables e below (T5.setTop (mkF m 52 #[.val (.int p1), .val (.int p2), .val (.int p3), .val (.int (own_len p1 p3)), .val (.int (12 : Int32))] [(.int p2), (.int p1)])) _
    refine XS.ixor X5.here hx rfl (hb hby d24_52) rfl ?_
    show Steps p.tables e below (T5.setTop (mkF m 53 #[.val (.int p1), .val (.int p2), .val (.int p3), .val (.int (own_len p1 p3)), .val (.int (12 : Int32))] [(.int (p1 ^^^ p2))])) _
    refine XS.iload X5.here hx rfl (hb hby d24_53) rfl ?_
    show Steps p.tables e below (T5.setTop (mkF m 55 #[.val (.int p1), .val (.int p2), .val (.int p3), .val (.int (own_len p1 p3)), .val (.int (12 : Int32))] [(.int (12 : Int32)), (.int (p1 ^^^ p2))])) _
    refine XS.iand X5.here hx rfl (hb hby d24_55) rfl ?_
    show Steps p.tables e below (T5.setTop (mkF m 56 #[.val (.int p1), .val (.int p2), .val (.int p3), .val (.int (own_len p1 p3)), .val (.int (12 : Int32))] [(.int ((p1 ^^^ p2) &&& (12 : Int32)))])) _
    refine XS.ifYes X5.here hx rfl (pc0 := 56) (pc' := 63) rfl (hb hby d24_56) rfl ((if0 _ _).trans (feq hc56).2) (by decide) (by decide) ?_
    show Steps p.tables e below (T5.setTop (mkF m 63 #[.val (.int p1), .val (.int p2), .val (.int p3), .val (.int (own_len p1 p3)), .val (.int (12 : Int32))] [])) _
    refine XS.iconst X5.here hx rfl (hb hby d24_63) ?_
    show Steps p.tables e below (T5.setTop (mkF m 64 #[.val (.int p1), .val (.int p2), .val (.int p3), .val (.int (own_len p1 p3)), .val (.int (12 : Int32))] [(.int (0 : Int32))])) _
    exact retN X5 hx (t := .boolean) Bd.returns (by simp) (hb hby d24_64) hr
  · show Q24 Z p1 p2 p3 h0 n0 _ T5.heap _
    exact ⟨congrArg (fun z => some (Value.int z)) (show _ = own_same p1 p2 p3 from by unfold own_same own_used; rw [if_pos q0, if_neg qa, if_pos qb, if_neg hc56]), N5, E5q.trans E4q⟩
theorem d24_35 : decode method_6_code 35 = .ok (.iload_n 3, 1) := by decide +kernel
theorem d24_36 : decode method_6_code 36 = .ok (.iconst 2, 1) := by decide +kernel
theorem d24_37 : decode method_6_code 37 = .ok (.if_icmp .ne 8, 3) := by decide +kernel
theorem d24_40 : decode method_6_code 40 = .ok (.bipush 60, 2) := by decide +kernel
theorem d24_42 : decode method_6_code 42 = .ok (.goto 6, 3) := by decide +kernel
set_option maxRecDepth 65536 in
set_option maxHeartbeats 40000000 in
theorem rm24d1 (l : Launch) (Z : State) (a0 : Array Value) (hw : ∀ d ∈ tables_1, d.before a0 Z = true) (ws : List Jvm.Cond) (p1 : Int32) (p2 : Int32) (p3 : Int32) (h0 : Heap) (n0 : Nat) (Z0 : n0 ≤ h0.size) (hc56 : ((p1 ^^^ p2) &&& (60 : Int32)) = (0 : Int32)) (q0 : own_len p1 p3 = own_len p2 p3) (qa : ¬ own_len p1 p3 = 0) (qb : ¬ own_len p1 p3 = 1) (qc : own_len p1 p3 = 2) :
    MetFree l (⟨"com/example/nto1/nto1/IdentityEqualsPinLaw", "same", "(III)Z"⟩ : MethodName) (head1 (Jvm.Cond.code (⟨"com/example/nto1/nto1/IdentityEqualsPinLaw", "same", "(III)Z"⟩ : MethodName) method_6_code 5 (some .boolean) :: ws) ({ frames := 1, cells := 0, slots := 0, locals := 15 } : Room)) (fun a U => a = #[(.int p1), (.int p2), (.int p3)] ∧ Z.Warmed39 U.vm ∧ U.heap = h0) (fun _ _ _ _ _ => True) (fun _ U o U' => ∃ v L, o = .returned v ∧ Q24 Z p1 p2 p3 h0 n0 v U'.heap L ∧ FrameEnd U o U' L ({ frames := 1, cells := 0, slots := 0, locals := 15 } : Room).cells ({ frames := 1, cells := 0, slots := 0, locals := 15 } : Room).slots) := by
  refine MetFree.of_bodySF (plainFor_of_name pn_24) hisR ?_
  intro p e s m args below meth c s₁ Bd hml0 hP hK
  obtain ⟨rfl, hZ, hh⟩ := hP
  have hx := Bd.exec
  have hby := Bd.bytes
  have hml : c.maxLocals = 5 := hml0
  have hown : s.vm.findClass "com/example/nto1/nto1/IdentityEqualsPinLaw" = some m.cls := findClass_of_methodNamed Bd.named
  have hnm := (name_of_methodNamed Bd.named Bd.method).1
  have X0 : Stand p l e ({ frames := 1, cells := 0, slots := 0, locals := 15 } : Room) s m #[(.int p1), (.int p2), (.int p3)] below meth c s₁ [] 0 0 := Stand.of_body Bd
  have e0 : s₁.heap = h0 := by rw [← hh, Bd.state]; rfl
  have N0 := Fr.nil n0
  have pre0 : ∀ t, Steps p.tables e below (s₁.setTop (mkF m 0 #[.val (.int p1), .val (.int p2), .val (.int p3), .unset, .unset] [])) t → Steps p.tables e below (s₁.setTop (entryFrame m #[(.int p1), (.int p2), (.int p3)] 5)) t := fun t k => castTop (ef_24 m p1 p2 p3) k
  obtain ⟨_, _, ⟨T4, L4, k4, n4⟩, -, X4, ⟨Lc4, hQ4, l4, y4, z4⟩, st4⟩ := Jvm.LawKit.callS X0 hx (y := (⟨"com/example/nto1/nto1/IdentityEqualsPinLaw", "len", "(II)I"⟩ : MethodName)) hown (mvT hZ (hw _ (List.mem_of_getElem? (i := 7) rfl))) (mvT hZ (hw _ (List.mem_of_getElem? (i := 8) rfl))) (mvT hZ (hw _ (List.mem_of_getElem? (i := 5) rfl))) (mvT hZ (hw _ (List.mem_of_getElem? (i := 9) rfl))) (by decide) (backOf (W := 0) (rm2 l Z a0 hw [] p1 p3 h0 n0 Z0) hZ (hw _ (List.mem_of_getElem? (i := 9) rfl)) (hw _ (List.mem_of_getElem? (i := 5) rfl)) (by decide) (by decide)) (g := (mkF m 2 #[.val (.int p1), .val (.int p2), .val (.int p3), .unset, .unset] [(.int p3), (.int p1)])) rfl (by rw [hml]; rfl) (argsL := [(.int p1), (.int p3)]) (rest := []) (lenOf pd_24_1 rfl) rfl (by show 2 * 0 + _ ≤ _; exact Nat.le_of_eq rfl) (hb hby d24_2) (fun _ _ => ⟨rfl, e0, (by decide : 0 + 0 ≤ _), (by decide : 0 + 0 ≤ _)⟩)
  dsimp only [Pt.U, Pt.locs, Pt.cells, Pt.slots] at X4 l4 y4 z4 st4 hQ4
  subst l4 y4 z4
  obtain ⟨rfl, N4q, E4q⟩ := hQ4
  have K4q : Keep h0 T4.heap [] := by rw [E4q]; exact Keep.refl _ _
  have Z4 : n0 ≤ T4.heap.size := Nat.le_trans Z0 K4q.1
  have N4 := Fr.app N0 N4q
  obtain ⟨_, _, ⟨T5, L5, k5, n5⟩, -, X5, ⟨Lc5, hQ5, l5, y5, z5⟩, st5⟩ := Jvm.LawKit.callS X4 hx (y := (⟨"com/example/nto1/nto1/IdentityEqualsPinLaw", "len", "(II)I"⟩ : MethodName)) hown (mvT hZ (hw _ (List.mem_of_getElem? (i := 7) rfl))) (mvT hZ (hw _ (List.mem_of_getElem? (i := 8) rfl))) (mvT hZ (hw _ (List.mem_of_getElem? (i := 5) rfl))) (mvT hZ (hw _ (List.mem_of_getElem? (i := 9) rfl))) (by decide) (backOf (W := 1) (rm2 l Z a0 hw [] p2 p3 T4.heap n0 Z4) hZ (hw _ (List.mem_of_getElem? (i := 9) rfl)) (hw _ (List.mem_of_getElem? (i := 5) rfl)) (by decide) (by decide)) (g := (mkF m 9 #[.val (.int p1), .val (.int p2), .val (.int p3), .val (.int (own_len p1 p3)), .unset] [(.int p3), (.int p2), (.int (own_len p1 p3))])) rfl (by rw [hml]; rfl) (argsL := [(.int p2), (.int p3)]) (rest := [(.int (own_len p1 p3))]) (lenOf pd_24_1 rfl) rfl (by show 2 * 0 + _ ≤ _; exact Nat.le_of_eq rfl) (hb hby d24_9) (fun _ _ => ⟨rfl, rfl, (by decide : 0 + 0 ≤ _), (by decide : 0 + 0 ≤ _)⟩)
  dsimp only [Pt.U, Pt.locs, Pt.cells, Pt.slots] at X5 l5 y5 z5 st5 hQ5
  subst l5 y5 z5
  obtain ⟨rfl, N5q, E5q⟩ := hQ5
  have K5q : Keep T4.heap T5.heap [] := by rw [E5q]; exact Keep.refl _ _
  have Z5 : n0 ≤ T5.heap.size := Nat.le_trans Z4 K5q.1
  have N5 := Fr.app N4 N5q
  obtain ⟨fs, hr, hrun, hended, hW, hsame⟩ := X5.leave (v := some (.int (1 : Int32))) (fun h => by rw [Bd.returns] at h; cases h)
  refine ⟨_, _, pre0 _ ?_, hrun, hended, _, _, rfl, ?_, ⟨_, rfl⟩, hW, hsame.mono (by decide) (by decide)⟩
  · show Steps p.tables e below (s₁.setTop (mkF m 0 #[.val (.int p1), .val (.int p2), .val (.int p3), .unset, .unset] [])) _
    refine XS.iloadN X0.here hx rfl (hb hby d24_0) rfl ?_
    show Steps p.tables e below (s₁.setTop (mkF m 1 #[.val (.int p1), .val (.int p2), .val (.int p3), .unset, .unset] [(.int p1)])) _
    refine XS.iloadN X0.here hx rfl (hb hby d24_1) rfl ?_
    show Steps p.tables e below (s₁.setTop (mkF m 2 #[.val (.int p1), .val (.int p2), .val (.int p3), .unset, .unset] [(.int p3), (.int p1)])) _
    refine st4 _ ?_
    show Steps p.tables e below (T4.setTop (mkF m 5 #[.val (.int p1), .val (.int p2), .val (.int p3), .unset, .unset] [(.int (own_len p1 p3))])) _
    refine XS.istoreN X4.here hx rfl (hb hby d24_5) rfl (l' := #[.val (.int p1), .val (.int p2), .val (.int p3), .val (.int (own_len p1 p3)), .unset]) rfl ?_
    show Steps p.tables e below (T4.setTop (mkF m 6 #[.val (.int p1), .val (.int p2), .val (.int p3), .val (.int (own_len p1 p3)), .unset] [])) _
    refine XS.iloadN X4.here hx rfl (hb hby d24_6) rfl ?_
    show Steps p.tables e below (T4.setTop (mkF m 7 #[.val (.int p1), .val (.int p2), .val (.int p3), .val (.int (own_len p1 p3)), .unset] [(.int (own_len p1 p3))])) _
    refine XS.iloadN X4.here hx rfl (hb hby d24_7) rfl ?_
    show Steps p.tables e below (T4.setTop (mkF m 8 #[.val (.int p1), .val (.int p2), .val (.int p3), .val (.int (own_len p1 p3)), .unset] [(.int p2), (.int (own_len p1 p3))])) _
    refine XS.iloadN X4.here hx rfl (hb hby d24_8) rfl ?_
    show Steps p.tables e below (T4.setTop (mkF m 9 #[.val (.int p1), .val (.int p2), .val (.int p3), .val (.int (own_len p1 p3)), .unset] [(.int p3), (.int p2), (.int (own_len p1 p3))])) _
    refine st5 _ ?_
    show Steps p.tables e below (T5.setTop (mkF m 12 #[.val (.int p1), .val (.int p2), .val (.int p3), .val (.int (own_len p1 p3)), .unset] [(.int (own_len p2 p3)), (.int (own_len p1 p3))])) _
    refine XS.icmpYes X5.here hx rfl (pc0 := 12) (pc' := 17) rfl (hb hby d24_12) rfl (teq (q0 : (own_len p1 p3) = (own_len p2 p3))).1 (by decide) (by decide) ?_
    show Steps p.tables e below (T5.setTop (mkF m 17 #[.val (.int p1), .val (.int p2), .val (.int p3), .val (.int (own_len p1 p3)), .unset] [])) _
    refine XS.iloadN X5.here hx rfl (hb hby d24_17) rfl ?_
    show Steps p.tables e below (T5.setTop (mkF m 18 #[.val (.int p1), .val (.int p2), .val (.int p3), .val (.int (own_len p1 p3)), .unset] [(.int (own_len p1 p3))])) _
    refine XS.ifYes X5.here hx rfl (pc0 := 18) (pc' := 25) rfl (hb hby d24_18) rfl ((if0 _ _).trans (feq (qa : ¬ ((own_len p1 p3) = (0 : Int32)))).2) (by decide) (by decide) ?_
    show Steps p.tables e below (T5.setTop (mkF m 25 #[.val (.int p1), .val (.int p2), .val (.int p3), .val (.int (own_len p1 p3)), .unset] [])) _
    refine XS.iloadN X5.here hx rfl (hb hby d24_25) rfl ?_
    show Steps p.tables e below (T5.setTop (mkF m 26 #[.val (.int p1), .val (.int p2), .val (.int p3), .val (.int (own_len p1 p3)), .unset] [(.int (own_len p1 p3))])) _
    refine XS.iconst X5.here hx rfl (hb hby d24_26) ?_
    show Steps p.tables e below (T5.setTop (mkF m 27 #[.val (.int p1), .val (.int p2), .val (.int p3), .val (.int (own_len p1 p3)), .unset] [(.int (1 : Int32)), (.int (own_len p1 p3))])) _
    refine XS.icmpYes X5.here hx rfl (pc0 := 27) (pc' := 35) rfl (hb hby d24_27) rfl (feq (qb : ¬ ((own_len p1 p3) = (1 : Int32)))).2 (by decide) (by decide) ?_
    show Steps p.tables e below (T5.setTop (mkF m 35 #[.val (.int p1), .val (.int p2), .val (.int p3), .val (.int (own_len p1 p3)), .unset] [])) _
    refine XS.iloadN X5.here hx rfl (hb hby d24_35) rfl ?_
    show Steps p.tables e below (T5.setTop (mkF m 36 #[.val (.int p1), .val (.int p2), .val (.int p3), .val (.int (own_len p1 p3)), .unset] [(.int (own_len p1 p3))])) _
    refine XS.iconst X5.here hx rfl (hb hby d24_36) ?_
    show Steps p.tables e below (T5.setTop (mkF m 37 #[.val (.int p1), .val (.int p2), .val (.int p3), .val (.int (own_len p1 p3)), .unset] [(.int (2 : Int32)), (.int (own_len p1 p3))])) _
    refine XS.icmpNo X5.here hx rfl (hb hby d24_37) rfl (teq (qc : (own_len p1 p3) = (2 : Int32))).2 ?_
    show Steps p.tables e below (T5.setTop (mkF m 40 #[.val (.int p1), .val (.int p2), .val (.int p3), .val (.int (own_len p1 p3)), .unset] [])) _
    refine XS.bipush X5.here hx rfl (hb hby d24_40) ?_
    show Steps p.tables e below (T5.setTop (mkF m 42 #[.val (.int p1), .val (.int p2), .val (.int p3), .val (.int (own_len p1 p3)), .unset] [(.int (60 : Int32))])) _
    refine XS.goto X5.here hx rfl (pc0 := 42) (pc' := 48) rfl (hb hby d24_42) (by decide) (by decide) ?_
    show Steps p.tables e below (T5.setTop (mkF m 48 #[.val (.int p1), .val (.int p2), .val (.int p3), .val (.int (own_len p1 p3)), .unset] [(.int (60 : Int32))])) _
    refine XS.istore X5.here hx rfl (hb hby d24_48) rfl (l' := #[.val (.int p1), .val (.int p2), .val (.int p3), .val (.int (own_len p1 p3)), .val (.int (60 : Int32))]) rfl ?_
    show Steps p.tables e below (T5.setTop (mkF m 50 #[.val (.int p1), .val (.int p2), .val (.int p3), .val (.int (own_len p1 p3)), .val (.int (60 : Int32))] [])) _
    refine XS.iloadN X5.here hx rfl (hb hby d24_50) rfl ?_
    show Steps p.tables e below (T5.setTop (mkF m 51 #[.val (.int p1), .val (.int p2), .val (.int p3), .val (.int (own_len p1 p3)), .val (.int (60 : Int32))] [(.int p1)])) _
    refine XS.iloadN X5.here hx rfl (hb hby d24_51) rfl ?_
    show Steps p.tables e below (T5.setTop (mkF m 52 #[.val (.int p1), .val (.int p2), .val (.int p3), .val (.int (own_len p1 p3)), .val (.int (60 : Int32))] [(.int p2), (.int p1)])) _
    refine XS.ixor X5.here hx rfl (hb hby d24_52) rfl ?_
    show Steps p.tables e below (T5.setTop (mkF m 53 #[.val (.int p1), .val (.int p2), .val (.int p3), .val (.int (own_len p1 p3)), .val (.int (60 : Int32))] [(.int (p1 ^^^ p2))])) _
    refine XS.iload X5.here hx rfl (hb hby d24_53) rfl ?_
    show Steps p.tables e below (T5.setTop (mkF m 55 #[.val (.int p1), .val (.int p2), .val (.int p3), .val (.int (own_len p1 p3)), .val (.int (60 : Int32))] [(.int (60 : Int32)), (.int (p1 ^^^ p2))])) _
    refine XS.iand X5.here hx rfl (hb hby d24_55) rfl ?_
    show Steps p.tables e below (T5.setTop (mkF m 56 #[.val (.int p1), .val (.int p2), .val (.int p3), .val (.int (own_len p1 p3)), .val (.int (60 : Int32))] [(.int ((p1 ^^^ p2) &&& (60 : Int32)))])) _
    refine XS.ifNo X5.here hx rfl (hb hby d24_56) rfl ((if0 _ _).trans (teq hc56).2) ?_
    show Steps p.tables e below (T5.setTop (mkF m 59 #[.val (.int p1), .val (.int p2), .val (.int p3), .val (.int (own_len p1 p3)), .val (.int (60 : Int32))] [])) _
    refine XS.iconst X5.here hx rfl (hb hby d24_59) ?_
    show Steps p.tables e below (T5.setTop (mkF m 60 #[.val (.int p1), .val (.int p2), .val (.int p3), .val (.int (own_len p1 p3)), .val (.int (60 : Int32))] [(.int (1 : Int32))])) _
    refine XS.goto X5.here hx rfl (pc0 := 60) (pc' := 64) rfl (hb hby d24_60) (by decide) (by decide) ?_
    show Steps p.tables e below (T5.setTop (mkF m 64 #[.val (.int p1), .val (.int p2), .val (.int p3), .val (.int (own_len p1 p3)), .val (.int (60 : Int32))] [(.int (1 : Int32))])) _
    exact retN X5 hx (t := .boolean) Bd.returns (by simp) (hb hby d24_64) hr
  · show Q24 Z p1 p2 p3 h0 n0 _ T5.heap _
    exact ⟨congrArg (fun z => some (Value.int z)) (show _ = own_same p1 p2 p3 from by unfold own_same own_used; rw [if_pos q0, if_neg qa, if_neg qb, if_pos qc, if_pos hc56]), N5, E5q.trans E4q⟩
set_option maxRecDepth 65536 in
set_option maxHeartbeats 40000000 in
theorem rm24d0 (l : Launch) (Z : State) (a0 : Array Value) (hw : ∀ d ∈ tables_1, d.before a0 Z = true) (ws : List Jvm.Cond) (p1 : Int32) (p2 : Int32) (p3 : Int32) (h0 : Heap) (n0 : Nat) (Z0 : n0 ≤ h0.size) (hc56 : ¬ (((p1 ^^^ p2) &&& (60 : Int32)) = (0 : Int32))) (q0 : own_len p1 p3 = own_len p2 p3) (qa : ¬ own_len p1 p3 = 0) (qb : ¬ own_len p1 p3 = 1) (qc : own_len p1 p3 = 2) :
    MetFree l (⟨"com/example/nto1/nto1/IdentityEqualsPinLaw", "same", "(III)Z"⟩ : MethodName) (head1 (Jvm.Cond.code (⟨"com/example/nto1/nto1/IdentityEqualsPinLaw", "same", "(III)Z"⟩ : MethodName) method_6_code 5 (some .boolean) :: ws) ({ frames := 1, cells := 0, slots := 0, locals := 15 } : Room)) (fun a U => a = #[(.int p1), (.int p2), (.int p3)] ∧ Z.Warmed39 U.vm ∧ U.heap = h0) (fun _ _ _ _ _ => True) (fun _ U o U' => ∃ v L, o = .returned v ∧ Q24 Z p1 p2 p3 h0 n0 v U'.heap L ∧ FrameEnd U o U' L ({ frames := 1, cells := 0, slots := 0, locals := 15 } : Room).cells ({ frames := 1, cells := 0, slots := 0, locals := 15 } : Room).slots) := by
  refine MetFree.of_bodySF (plainFor_of_name pn_24) hisR ?_
  intro p e s m args below meth c s₁ Bd hml0 hP hK
  obtain ⟨rfl, hZ, hh⟩ := hP
  have hx := Bd.exec
  have hby := Bd.bytes
  have hml : c.maxLocals = 5 := hml0
  have hown : s.vm.findClass "com/example/nto1/nto1/IdentityEqualsPinLaw" = some m.cls := findClass_of_methodNamed Bd.named
  have hnm := (name_of_methodNamed Bd.named Bd.method).1
  have X0 : Stand p l e ({ frames := 1, cells := 0, slots := 0, locals := 15 } : Room) s m #[(.int p1), (.int p2), (.int p3)] below meth c s₁ [] 0 0 := Stand.of_body Bd
  have e0 : s₁.heap = h0 := by rw [← hh, Bd.state]; rfl
  have N0 := Fr.nil n0
  have pre0 : ∀ t, Steps p.tables e below (s₁.setTop (mkF m 0 #[.val (.int p1), .val (.int p2), .val (.int p3), .unset, .unset] [])) t → Steps p.tables e below (s₁.setTop (entryFrame m #[(.int p1), (.int p2), (.int p3)] 5)) t := fun t k => castTop (ef_24 m p1 p2 p3) k
  obtain ⟨_, _, ⟨T4, L4, k4, n4⟩, -, X4, ⟨Lc4, hQ4, l4, y4, z4⟩, st4⟩ := Jvm.LawKit.callS X0 hx (y := (⟨"com/example/nto1/nto1/IdentityEqualsPinLaw", "len", "(II)I"⟩ : MethodName)) hown (mvT hZ (hw _ (List.mem_of_getElem? (i := 7) rfl))) (mvT hZ (hw _ (List.mem_of_getElem? (i := 8) rfl))) (mvT hZ (hw _ (List.mem_of_getElem? (i := 5) rfl))) (mvT hZ (hw _ (List.mem_of_getElem? (i := 9) rfl))) (by decide) (backOf (W := 0) (rm2 l Z a0 hw [] p1 p3 h0 n0 Z0) hZ (hw _ (List.mem_of_getElem? (i := 9) rfl)) (hw _ (List.mem_of_getElem? (i := 5) rfl)) (by decide) (by decide)) (g := (mkF m 2 #[.val (.int p1), .val (.int p2), .val (.int p3), .unset, .unset] [(.int p3), (.int p1)])) rfl (by rw [hml]; rfl) (argsL := [(.int p1), (.int p3)]) (rest := []) (lenOf pd_24_1 rfl) rfl (by show 2 * 0 + _ ≤ _; exact Nat.le_of_eq rfl) (hb hby d24_2) (fun _ _ => ⟨rfl, e0, (by decide : 0 + 0 ≤ _), (by decide : 0 + 0 ≤ _)⟩)
  dsimp only [Pt.U, Pt.locs, Pt.cells, Pt.slots] at X4 l4 y4 z4 st4 hQ4
  subst l4 y4 z4
  obtain ⟨rfl, N4q, E4q⟩ := hQ4
  have K4q : Keep h0 T4.heap [] := by rw [E4q]; exact Keep.refl _ _
  have Z4 : n0 ≤ T4.heap.size := Nat.le_trans Z0 K4q.1
  have N4 := Fr.app N0 N4q
  obtain ⟨_, _, ⟨T5, L5, k5, n5⟩, -, X5, ⟨Lc5, hQ5, l5, y5, z5⟩, st5⟩ := Jvm.LawKit.callS X4 hx (y := (⟨"com/example/nto1/nto1/IdentityEqualsPinLaw", "len", "(II)I"⟩ : MethodName)) hown (mvT hZ (hw _ (List.mem_of_getElem? (i := 7) rfl))) (mvT hZ (hw _ (List.mem_of_getElem? (i := 8) rfl))) (mvT hZ (hw _ (List.mem_of_getElem? (i := 5) rfl))) (mvT hZ (hw _ (List.mem_of_getElem? (i := 9) rfl))) (by decide) (backOf (W := 1) (rm2 l Z a0 hw [] p2 p3 T4.heap n0 Z4) hZ (hw _ (List.mem_of_getElem? (i := 9) rfl)) (hw _ (List.mem_of_getElem? (i := 5) rfl)) (by decide) (by decide)) (g := (mkF m 9 #[.val (.int p1), .val (.int p2), .val (.int p3), .val (.int (own_len p1 p3)), .unset] [(.int p3), (.int p2), (.int (own_len p1 p3))])) rfl (by rw [hml]; rfl) (argsL := [(.int p2), (.int p3)]) (rest := [(.int (own_len p1 p3))]) (lenOf pd_24_1 rfl) rfl (by show 2 * 0 + _ ≤ _; exact Nat.le_of_eq rfl) (hb hby d24_9) (fun _ _ => ⟨rfl, rfl, (by decide : 0 + 0 ≤ _), (by decide : 0 + 0 ≤ _)⟩)
  dsimp only [Pt.U, Pt.locs, Pt.cells, Pt.slots] at X5 l5 y5 z5 st5 hQ5
  subst l5 y5 z5
  obtain ⟨rfl, N5q, E5q⟩ := hQ5
  have K5q : Keep T4.heap T5.heap [] := by rw [E5q]; exact Keep.refl _ _
  have Z5 : n0 ≤ T5.heap.size := Nat.le_trans Z4 K5q.1
  have N5 := Fr.app N4 N5q
  obtain ⟨fs, hr, hrun, hended, hW, hsame⟩ := X5.leave (v := some (.int (0 : Int32))) (fun h => by rw [Bd.returns] at h; cases h)
  refine ⟨_, _, pre0 _ ?_, hrun, hended, _, _, rfl, ?_, ⟨_, rfl⟩, hW, hsame.mono (by decide) (by decide)⟩
  · show Steps p.tables e below (s₁.setTop (mkF m 0 #[.val (.int p1), .val (.int p2), .val (.int p3), .unset, .unset] [])) _
    refine XS.iloadN X0.here hx rfl (hb hby d24_0) rfl ?_
    show Steps p.tables e below (s₁.setTop (mkF m 1 #[.val (.int p1), .val (.int p2), .val (.int p3), .unset, .unset] [(.int p1)])) _
    refine XS.iloadN X0.here hx rfl (hb hby d24_1) rfl ?_
    show Steps p.tables e below (s₁.setTop (mkF m 2 #[.val (.int p1), .val (.int p2), .val (.int p3), .unset, .unset] [(.int p3), (.int p1)])) _
    refine st4 _ ?_
    show Steps p.tables e below (T4.setTop (mkF m 5 #[.val (.int p1), .val (.int p2), .val (.int p3), .unset, .unset] [(.int (own_len p1 p3))])) _
    refine XS.istoreN X4.here hx rfl (hb hby d24_5) rfl (l' := #[.val (.int p1), .val (.int p2), .val (.int p3), .val (.int (own_len p1 p3)), .unset]) rfl ?_
    show Steps p.tables e below (T4.setTop (mkF m 6 #[.val (.int p1), .val (.int p2), .val (.int p3), .val (.int (own_len p1 p3)), .unset] [])) _
    refine XS.iloadN X4.here hx rfl (hb hby d24_6) rfl ?_
    show Steps p.tables e below (T4.setTop (mkF m 7 #[.val (.int p1), .val (.int p2), .val (.int p3), .val (.int (own_len p1 p3)), .unset] [(.int (own_len p1 p3))])) _
    refine XS.iloadN X4.here hx rfl (hb hby d24_7) rfl ?_
    show Steps p.tables e below (T4.setTop (mkF m 8 #[.val (.int p1), .val (.int p2), .val (.int p3), .val (.int (own_len p1 p3)), .unset] [(.int p2), (.int (own_len p1 p3))])) _
    refine XS.iloadN X4.here hx rfl (hb hby d24_8) rfl ?_
    show Steps p.tables e below (T4.setTop (mkF m 9 #[.val (.int p1), .val (.int p2), .val (.int p3), .val (.int (own_len p1 p3)), .unset] [(.int p3), (.int p2), (.int (own_len p1 p3))])) _
    refine st5 _ ?_
    show Steps p.tables e below (T5.setTop (mkF m 12 #[.val (.int p1), .val (.int p2), .val (.int p3), .val (.int (own_len p1 p3)), .unset] [(.int (own_len p2 p3)), (.int (own_len p1 p3))])) _
    refine XS.icmpYes X5.here hx rfl (pc0 := 12) (pc' := 17) rfl (hb hby d24_12) rfl (teq (q0 : (own_len p1 p3) = (own_len p2 p3))).1 (by decide) (by decide) ?_
    show Steps p.tables e below (T5.setTop (mkF m 17 #[.val (.int p1), .val (.int p2), .val (.int p3), .val (.int (own_len p1 p3)), .unset] [])) _
    refine XS.iloadN X5.here hx rfl (hb hby d24_17) rfl ?_
    show Steps p.tables e below (T5.setTop (mkF m 18 #[.val (.int p1), .val (.int p2), .val (.int p3), .val (.int (own_len p1 p3)), .unset] [(.int (own_len p1 p3))])) _
    refine XS.ifYes X5.here hx rfl (pc0 := 18) (pc' := 25) rfl (hb hby d24_18) rfl ((if0 _ _).trans (feq (qa : ¬ ((own_len p1 p3) = (0 : Int32)))).2) (by decide) (by decide) ?_
    show Steps p.tables e below (T5.setTop (mkF m 25 #[.val (.int p1), .val (.int p2), .val (.int p3), .val (.int (own_len p1 p3)), .unset] [])) _
    refine XS.iloadN X5.here hx rfl (hb hby d24_25) rfl ?_
    show Steps p.tables e below (T5.setTop (mkF m 26 #[.val (.int p1), .val (.int p2), .val (.int p3), .val (.int (own_len p1 p3)), .unset] [(.int (own_len p1 p3))])) _
    refine XS.iconst X5.here hx rfl (hb hby d24_26) ?_
    show Steps p.tables e below (T5.setTop (mkF m 27 #[.val (.int p1), .val (.int p2), .val (.int p3), .val (.int (own_len p1 p3)), .unset] [(.int (1 : Int32)), (.int (own_len p1 p3))])) _
    refine XS.icmpYes X5.here hx rfl (pc0 := 27) (pc' := 35) rfl (hb hby d24_27) rfl (feq (qb : ¬ ((own_len p1 p3) = (1 : Int32)))).2 (by decide) (by decide) ?_
    show Steps p.tables e below (T5.setTop (mkF m 35 #[.val (.int p1), .val (.int p2), .val (.int p3), .val (.int (own_len p1 p3)), .unset] [])) _
    refine XS.iloadN X5.here hx rfl (hb hby d24_35) rfl ?_
    show Steps p.tables e below (T5.setTop (mkF m 36 #[.val (.int p1), .val (.int p2), .val (.int p3), .val (.int (own_len p1 p3)), .unset] [(.int (own_len p1 p3))])) _
    refine XS.iconst X5.here hx rfl (hb hby d24_36) ?_
    show Steps p.tables e below (T5.setTop (mkF m 37 #[.val (.int p1), .val (.int p2), .val (.int p3), .val (.int (own_len p1 p3)), .unset] [(.int (2 : Int32)), (.int (own_len p1 p3))])) _
    refine XS.icmpNo X5.here hx rfl (hb hby d24_37) rfl (teq (qc : (own_len p1 p3) = (2 : Int32))).2 ?_
    show Steps p.tables e below (T5.setTop (mkF m 40 #[.val (.int p1), .val (.int p2), .val (.int p3), .val (.int (own_len p1 p3)), .unset] [])) _
    refine XS.bipush X5.here hx rfl (hb hby d24_40) ?_
    show Steps p.tables e below (T5.setTop (mkF m 42 #[.val (.int p1), .val (.int p2), .val (.int p3), .val (.int (own_len p1 p3)), .unset] [(.int (60 : Int32))])) _
    refine XS.goto X5.here hx rfl (pc0 := 42) (pc' := 48) rfl (hb hby d24_42) (by decide) (by decide) ?_
    show Steps p.tables e below (T5.setTop (mkF m 48 #[.val (.int p1), .val (.int p2), .val (.int p3), .val (.int (own_len p1 p3)), .unset] [(.int (60 : Int32))])) _
    refine XS.istore X5.here hx rfl (hb hby d24_48) rfl (l' := #[.val (.int p1), .val (.int p2), .val (.int p3), .val (.int (own_len p1 p3)), .val (.int (60 : Int32))]) rfl ?_
    show Steps p.tables e below (T5.setTop (mkF m 50 #[.val (.int p1), .val (.int p2), .val (.int p3), .val (.int (own_len p1 p3)), .val (.int (60 : Int32))] [])) _
    refine XS.iloadN X5.here hx rfl (hb hby d24_50) rfl ?_
    show Steps p.tables e below (T5.setTop (mkF m 51 #[.val (.int p1), .val (.int p2), .val (.int p3), .val (.int (own_len p1 p3)), .val (.int (60 : Int32))] [(.int p1)])) _
    refine XS.iloadN X5.here hx rfl (hb hby d24_51) rfl ?_
    show Steps p.tables e below (T5.setTop (mkF m 52 #[.val (.int p1), .val (.int p2), .val (.int p3), .val (.int (own_len p1 p3)), .val (.int (60 : Int32))] [(.int p2), (.int p1)])) _
    refine XS.ixor X5.here hx rfl (hb hby d24_52) rfl ?_
    show Steps p.tables e below (T5.setTop (mkF m 53 #[.val (.int p1), .val (.int p2), .val (.int p3), .val (.int (own_len p1 p3)), .val (.int (60 : Int32))] [(.int (p1 ^^^ p2))])) _
    refine XS.iload X5.here hx rfl (hb hby d24_53) rfl ?_
    show Steps p.tables e below (T5.setTop (mkF m 55 #[.val (.int p1), .val (.int p2), .val (.int p3), .val (.int (own_len p1 p3)), .val (.int (60 : Int32))] [(.int (60 : Int32)), (.int (p1 ^^^ p2))])) _
    refine XS.iand X5.here hx rfl (hb hby d24_55) rfl ?_
    show Steps p.tables e below (T5.setTop (mkF m 56 #[.val (.int p1), .val (.int p2), .val (.int p3), .val (.int (own_len p1 p3)), .val (.int (60 : Int32))] [(.int ((p1 ^^^ p2) &&& (60 : Int32)))])) _
    refine XS.ifYes X5.here hx rfl (pc0 := 56) (pc' := 63) rfl (hb hby d24_56) rfl ((if0 _ _).trans (feq hc56).2) (by decide) (by decide) ?_
    show Steps p.tables e below (T5.setTop (mkF m 63 #[.val (.int p1), .val (.int p2), .val (.int p3), .val (.int (own_len p1 p3)), .val (.int (60 : Int32))] [])) _
    refine XS.iconst X5.here hx rfl (hb hby d24_63) ?_
    show Steps p.tables e below (T5.setTop (mkF m 64 #[.val (.int p1), .val (.int p2), .val (.int p3), .val (.int (own_len p1 p3)), .val (.int (60 : Int32))] [(.int (0 : Int32))])) _
    exact retN X5 hx (t := .boolean) Bd.returns (by simp) (hb hby d24_64) hr
  · show Q24 Z p1 p2 p3 h0 n0 _ T5.heap _
    exact ⟨congrArg (fun z => some (Value.int z)) (show _ = own_same p1 p2 p3 from by unfold own_same own_used; rw [if_pos q0, if_neg qa, if_neg qb, if_pos qc, if_neg hc56]), N5, E5q.trans E4q⟩
theorem d24_45 : decode method_6_code 45 = .ok (.sipush 252, 3) := by decide +kernel
set_option maxRecDepth 65536 in
set_option maxHeartbeats 40000000 in
theorem rm24e1 (l : Launch) (Z : State) (a0 : Array Value) (hw : ∀ d ∈ tables_1, d.before a0 Z = true) (ws : List Jvm.Cond) (p1 : Int32) (p2 : Int32) (p3 : Int32) (h0 : Heap) (n0 : Nat) (Z0 : n0 ≤ h0.size) (hc56 : ((p1 ^^^ p2) &&& (252 : Int32)) = (0 : Int32)) (q0 : own_len p1 p3 = own_len p2 p3) (qa : ¬ own_len p1 p3 = 0) (qb : ¬ own_len p1 p3 = 1) (qc : ¬ own_len p1 p3 = 2) :
    MetFree l (⟨"com/example/nto1/nto1/IdentityEqualsPinLaw", "same", "(III)Z"⟩ : MethodName) (head1 (Jvm.Cond.code (⟨"com/example/nto1/nto1/IdentityEqualsPinLaw", "same", "(III)Z"⟩ : MethodName) method_6_code 5 (some .boolean) :: ws) ({ frames := 1, cells := 0, slots := 0, locals := 15 } : Room)) (fun a U => a = #[(.int p1), (.int p2), (.int p3)] ∧ Z.Warmed39 U.vm ∧ U.heap = h0) (fun _ _ _ _ _ => True) (fun _ U o U' => ∃ v L, o = .returned v ∧ Q24 Z p1 p2 p3 h0 n0 v U'.heap L ∧ FrameEnd U o U' L ({ frames := 1, cells := 0, slots := 0, locals := 15 } : Room).cells ({ frames := 1, cells := 0, slots := 0, locals := 15 } : Room).slots) := by
  refine MetFree.of_bodySF (plainFor_of_name pn_24) hisR ?_
  intro p e s m args below meth c s₁ Bd hml0 hP hK
  obtain ⟨rfl, hZ, hh⟩ := hP
  have hx := Bd.exec
  have hby := Bd.bytes
  have hml : c.maxLocals = 5 := hml0
  have hown : s.vm.findClass "com/example/nto1/nto1/IdentityEqualsPinLaw" = some m.cls := findClass_of_methodNamed Bd.named
  have hnm := (name_of_methodNamed Bd.named Bd.method).1
  have X0 : Stand p l e ({ frames := 1, cells := 0, slots := 0, locals := 15 } : Room) s m #[(.int p1), (.int p2), (.int p3)] below meth c s₁ [] 0 0 := Stand.of_body Bd
  have e0 : s₁.heap = h0 := by rw [← hh, Bd.state]; rfl
  have N0 := Fr.nil n0
  have pre0 : ∀ t, Steps p.tables e below (s₁.setTop (mkF m 0 #[.val (.int p1), .val (.int p2), .val (.int p3), .unset, .unset] [])) t → Steps p.tables e below (s₁.setTop (entryFrame m #[(.int p1), (.int p2), (.int p3)] 5)) t := fun t k => castTop (ef_24 m p1 p2 p3) k
  obtain ⟨_, _, ⟨T4, L4, k4, n4⟩, -, X4, ⟨Lc4, hQ4, l4, y4, z4⟩, st4⟩ := Jvm.LawKit.callS X0 hx (y := (⟨"com/example/nto1/nto1/IdentityEqualsPinLaw", "len", "(II)I"⟩ : MethodName)) hown (mvT hZ (hw _ (List.mem_of_getElem? (i := 7) rfl))) (mvT hZ (hw _ (List.mem_of_getElem? (i := 8) rfl))) (mvT hZ (hw _ (List.mem_of_getElem? (i := 5) rfl))) (mvT hZ (hw _ (List.mem_of_getElem? (i := 9) rfl))) (by decide) (backOf (W := 0) (rm2 l Z a0 hw [] p1 p3 h0 n0 Z0) hZ (hw _ (List.mem_of_getElem? (i := 9) rfl)) (hw _ (List.mem_of_getElem? (i := 5) rfl)) (by decide) (by decide)) (g := (mkF m 2 #[.val (.int p1), .val (.int p2), .val (.int p3), .unset, .unset] [(.int p3), (.int p1)])) rfl (by rw [hml]; rfl) (argsL := [(.int p1), (.int p3)]) (rest := []) (lenOf pd_24_1 rfl) rfl (by show 2 * 0 + _ ≤ _; exact Nat.le_of_eq rfl) (hb hby d24_2) (fun _ _ => ⟨rfl, e0, (by decide : 0 + 0 ≤ _), (by decide : 0 + 0 ≤ _)⟩)
  dsimp only [Pt.U, Pt.locs, Pt.cells, Pt.slots] at X4 l4 y4 z4 st4 hQ4
  subst l4 y4 z4
  obtain ⟨rfl, N4q, E4q⟩ := hQ4
  have K4q : Keep h0 T4.heap [] := by rw [E4q]; exact Keep.refl _ _
  have Z4 : n0 ≤ T4.heap.size := Nat.le_trans Z0 K4q.1
  have N4 := Fr.app N0 N4q
  obtain ⟨_, _, ⟨T5, L5, k5, n5⟩, -, X5, ⟨Lc5, hQ5, l5, y5, z5⟩, st5⟩ := Jvm.LawKit.callS X4 hx (y := (⟨"com/example/nto1/nto1/IdentityEqualsPinLaw", "len", "(II)I"⟩ : MethodName)) hown (mvT hZ (hw _ (List.mem_of_getElem? (i := 7) rfl))) (mvT hZ (hw _ (List.mem_of_getElem? (i := 8) rfl))) (mvT hZ (hw _ (List.mem_of_getElem? (i := 5) rfl))) (mvT hZ (hw _ (List.mem_of_getElem? (i := 9) rfl))) (by decide) (backOf (W := 1) (rm2 l Z a0 hw [] p2 p3 T4.heap n0 Z4) hZ (hw _ (List.mem_of_getElem? (i := 9) rfl)) (hw _ (List.mem_of_getElem? (i := 5) rfl)) (by decide) (by decide)) (g := (mkF m 9 #[.val (.int p1), .val (.int p2), .val (.int p3), .val (.int (own_len p1 p3)), .unset] [(.int p3), (.int p2), (.int (own_len p1 p3))])) rfl (by rw [hml]; rfl) (argsL := [(.int p2), (.int p3)]) (rest := [(.int (own_len p1 p3))]) (lenOf pd_24_1 rfl) rfl (by show 2 * 0 + _ ≤ _; exact Nat.le_of_eq rfl) (hb hby d24_9) (fun _ _ => ⟨rfl, rfl, (by decide : 0 + 0 ≤ _), (by decide : 0 + 0 ≤ _)⟩)
  dsimp only [Pt.U, Pt.locs, Pt.cells, Pt.slots] at X5 l5 y5 z5 st5 hQ5
  subst l5 y5 z5
  obtain ⟨rfl, N5q, E5q⟩ := hQ5
  have K5q : Keep T4.heap T5.heap [] := by rw [E5q]; exact Keep.refl _ _
  have Z5 : n0 ≤ T5.heap.size := Nat.le_trans Z4 K5q.1
  have N5 := Fr.app N4 N5q
  obtain ⟨fs, hr, hrun, hended, hW, hsame⟩ := X5.leave (v := some (.int (1 : Int32))) (fun h => by rw [Bd.returns] at h; cases h)
  refine ⟨_, _, pre0 _ ?_, hrun, hended, _, _, rfl, ?_, ⟨_, rfl⟩, hW, hsame.mono (by decide) (by decide)⟩
  · show Steps p.tables e below (s₁.setTop (mkF m 0 #[.val (.int p1), .val (.int p2), .val (.int p3), .unset, .unset] [])) _
    refine XS.iloadN X0.here hx rfl (hb hby d24_0) rfl ?_
    show Steps p.tables e below (s₁.setTop (mkF m 1 #[.val (.int p1), .val (.int p2), .val (.int p3), .unset, .unset] [(.int p1)])) _
    refine XS.iloadN X0.here hx rfl (hb hby d24_1) rfl ?_
    show Steps p.tables e below (s₁.setTop (mkF m 2 #[.val (.int p1), .val (.int p2), .val (.int p3), .unset, .unset] [(.int p3), (.int p1)])) _
    refine st4 _ ?_
    show Steps p.tables e below (T4.setTop (mkF m 5 #[.val (.int p1), .val (.int p2), .val (.int p3), .unset, .unset] [(.int (own_len p1 p3))])) _
    refine XS.istoreN X4.here hx rfl (hb hby d24_5) rfl (l' := #[.val (.int p1), .val (.int p2), .val (.int p3), .val (.int (own_len p1 p3)), .unset]) rfl ?_
    show Steps p.tables e below (T4.setTop (mkF m 6 #[.val (.int p1), .val (.int p2), .val (.int p3), .val (.int (own_len p1 p3)), .unset] [])) _
    refine XS.iloadN X4.here hx rfl (hb hby d24_6) rfl ?_
    show Steps p.tables e below (T4.setTop (mkF m 7 #[.val (.int p1), .val (.int p2), .val (.int p3), .val (.int (own_len p1 p3)), .unset] [(.int (own_len p1 p3))])) _
    refine XS.iloadN X4.here hx rfl (hb hby d24_7) rfl ?_
    show Steps p.tables e below (T4.setTop (mkF m 8 #[.val (.int p1), .val (.int p2), .val (.int p3), .val (.int (own_len p1 p3)), .unset] [(.int p2), (.int (own_len p1 p3))])) _
    refine XS.iloadN X4.here hx rfl (hb hby d24_8) rfl ?_
    show Steps p.tables e below (T4.setTop (mkF m 9 #[.val (.int p1), .val (.int p2), .val (.int p3), .val (.int (own_len p1 p3)), .unset] [(.int p3), (.int p2), (.int (own_len p1 p3))])) _
    refine st5 _ ?_
    show Steps p.tables e below (T5.setTop (mkF m 12 #[.val (.int p1), .val (.int p2), .val (.int p3), .val (.int (own_len p1 p3)), .unset] [(.int (own_len p2 p3)), (.int (own_len p1 p3))])) _
    refine XS.icmpYes X5.here hx rfl (pc0 := 12) (pc' := 17) rfl (hb hby d24_12) rfl (teq (q0 : (own_len p1 p3) = (own_len p2 p3))).1 (by decide) (by decide) ?_
    show Steps p.tables e below (T5.setTop (mkF m 17 #[.val (.int p1), .val (.int p2), .val (.int p3), .val (.int (own_len p1 p3)), .unset] [])) _
    refine XS.iloadN X5.here hx rfl (hb hby d24_17) rfl ?_
    show Steps p.tables e below (T5.setTop (mkF m 18 #[.val (.int p1), .val (.int p2), .val (.int p3), .val (.int (own_len p1 p3)), .unset] [(.int (own_len p1 p3))])) _
    refine XS.ifYes X5.here hx rfl (pc0 := 18) (pc' := 25) rfl (hb hby d24_18) rfl ((if0 _ _).trans (feq (qa : ¬ ((own_len p1 p3) = (0 : Int32)))).2) (by decide) (by decide) ?_
    show Steps p.tables e below (T5.setTop (mkF m 25 #[.val (.int p1), .val (.int p2), .val (.int p3), .val (.int (own_len p1 p3)), .unset] [])) _
    refine XS.iloadN X5.here hx rfl (hb hby d24_25) rfl ?_
    show Steps p.tables e below (T5.setTop (mkF m 26 #[.val (.int p1), .val (.int p2), .val (.int p3), .val (.int (own_len p1 p3)), .unset] [(.int (own_len p1 p3))])) _
    refine XS.iconst X5.here hx rfl (hb hby d24_26) ?_
    show Steps p.tables e below (T5.setTop (mkF m 27 #[.val (.int p1), .val (.int p2), .val (.int p3), .val (.int (own_len p1 p3)), .unset] [(.int (1 : Int32)), (.int (own_len p1 p3))])) _
    refine XS.icmpYes X5.here hx rfl (pc0 := 27) (pc' := 35) rfl (hb hby d24_27) rfl (feq (qb : ¬ ((own_len p1 p3) = (1 : Int32)))).2 (by decide) (by decide) ?_
    show Steps p.tables e below (T5.setTop (mkF m 35 #[.val (.int p1), .val (.int p2), .val (.int p3), .val (.int (own_len p1 p3)), .unset] [])) _
    refine XS.iloadN X5.here hx rfl (hb hby d24_35) rfl ?_
    show Steps p.tables e below (T5.setTop (mkF m 36 #[.val (.int p1), .val (.int p2), .val (.int p3), .val (.int (own_len p1 p3)), .unset] [(.int (own_len p1 p3))])) _
    refine XS.iconst X5.here hx rfl (hb hby d24_36) ?_
    show Steps p.tables e below (T5.setTop (mkF m 37 #[.val (.int p1), .val (.int p2), .val (.int p3), .val (.int (own_len p1 p3)), .unset] [(.int (2 : Int32)), (.int (own_len p1 p3))])) _
    refine XS.icmpYes X5.here hx rfl (pc0 := 37) (pc' := 45) rfl (hb hby d24_37) rfl (feq (qc : ¬ ((own_len p1 p3) = (2 : Int32)))).2 (by decide) (by decide) ?_
    show Steps p.tables e below (T5.setTop (mkF m 45 #[.val (.int p1), .val (.int p2), .val (.int p3), .val (.int (own_len p1 p3)), .unset] [])) _
    refine XS.sipush X5.here hx rfl (hb hby d24_45) ?_
    show Steps p.tables e below (T5.setTop (mkF m 48 #[.val (.int p1), .val (.int p2), .val (.int p3), .val (.int (own_len p1 p3)), .unset] [(.int (252 : Int32))])) _
    refine XS.istore X5.here hx rfl (hb hby d24_48) rfl (l' := #[.val (.int p1), .val (.int p2), .val (.int p3), .val (.int (own_len p1 p3)), .val (.int (252 : Int32))]) rfl ?_
    show Steps p.tables e below (T5.setTop (mkF m 50 #[.val (.int p1), .val (.int p2), .val (.int p3), .val (.int (own_len p1 p3)), .val (.int (252 : Int32))] [])) _
    refine XS.iloadN X5.here hx rfl (hb hby d24_50) rfl ?_
    show Steps p.tables e below (T5.setTop (mkF m 51 #[.val (.int p1), .val (.int p2), .val (.int p3), .val (.int (own_len p1 p3)), .val (.int (252 : Int32))] [(.int p1)])) _
    refine XS.iloadN X5.here hx rfl (hb hby d24_51) rfl ?_
    show Steps p.tables e below (T5.setTop (mkF m 52 #[.val (.int p1), .val (.int p2), .val (.int p3), .val (.int (own_len p1 p3)), .val (.int (252 : Int32))] [(.int p2), (.int p1)])) _
    refine XS.ixor X5.here hx rfl (hb hby d24_52) rfl ?_
    show Steps p.tables e below (T5.setTop (mkF m 53 #[.val (.int p1), .val (.int p2), .val (.int p3), .val (.int (own_len p1 p3)), .val (.int (252 : Int32))] [(.int (p1 ^^^ p2))])) _
    refine XS.iload X5.here hx rfl (hb hby d24_53) rfl ?_
    show Steps p.tables e below (T5.setTop (mkF m 55 #[.val (.int p1), .val (.int p2), .val (.int p3), .val (.int (own_len p1 p3)), .val (.int (252 : Int32))] [(.int (252 : Int32)), (.int (p1 ^^^ p2))])) _
    refine XS.iand X5.here hx rfl (hb hby d24_55) rfl ?_
    show Steps p.tables e below (T5.setTop (mkF m 56 #[.val (.int p1), .val (.int p2), .val (.int p3), .val (.int (own_len p1 p3)), .val (.int (252 : Int32))] [(.int ((p1 ^^^ p2) &&& (252 : Int32)))])) _
    refine XS.ifNo X5.here hx rfl (hb hby d24_56) rfl ((if0 _ _).trans (teq hc56).2) ?_
    show Steps p.tables e below (T5.setTop (mkF m 59 #[.val (.int p1), .val (.int p2), .val (.int p3), .val (.int (own_len p1 p3)), .val (.int (252 : Int32))] [])) _
    refine XS.iconst X5.here hx rfl (hb hby d24_59) ?_
    show Steps p.tables e below (T5.setTop (mkF m 60 #[.val (.int p1), .val (.int p2), .val (.int p3), .val (.int (own_len p1 p3)), .val (.int (252 : Int32))] [(.int (1 : Int32))])) _
    refine XS.goto X5.here hx rfl (pc0 := 60) (pc' := 64) rfl (hb hby d24_60) (by decide) (by decide) ?_
    show Steps p.tables e below (T5.setTop (mkF m 64 #[.val (.int p1), .val (.int p2), .val (.int p3), .val (.int (own_len p1 p3)), .val (.int (252 : Int32))] [(.int (1 : Int32))])) _
    exact retN X5 hx (t := .boolean) Bd.returns (by simp) (hb hby d24_64) hr
  · show Q24 Z p1 p2 p3 h0 n0 _ T5.heap _
    exact ⟨congrArg (fun z => some (Value.int z)) (show _ = own_same p1 p2 p3 from by unfold own_same own_used; rw [if_pos q0, if_neg qa, if_neg qb, if_neg qc, if_pos hc56]), N5, E5q.trans E4q⟩
set_option maxRecDepth 65536 in
set_option maxHeartbeats 40000000 in
theorem rm24e0 (l : Launch) (Z : State) (a0 : Array Value) (hw : ∀ d ∈ tables_1, d.before a0 Z = true) (ws : List Jvm.Cond) (p1 : Int32) (p2 : Int32) (p3 : Int32) (h0 : Heap) (n0 : Nat) (Z0 : n0 ≤ h0.size) (hc56 : ¬ (((p1 ^^^ p2) &&& (252 : Int32)) = (0 : Int32))) (q0 : own_len p1 p3 = own_len p2 p3) (qa : ¬ own_len p1 p3 = 0) (qb : ¬ own_len p1 p3 = 1) (qc : ¬ own_len p1 p3 = 2) :
    MetFree l (⟨"com/example/nto1/nto1/IdentityEqualsPinLaw", "same", "(III)Z"⟩ : MethodName) (head1 (Jvm.Cond.code (⟨"com/example/nto1/nto1/IdentityEqualsPinLaw", "same", "(III)Z"⟩ : MethodName) method_6_code 5 (some .boolean) :: ws) ({ frames := 1, cells := 0, slots := 0, locals := 15 } : Room)) (fun a U => a = #[(.int p1), (.int p2), (.int p3)] ∧ Z.Warmed39 U.vm ∧ U.heap = h0) (fun _ _ _ _ _ => True) (fun _ U o U' => ∃ v L, o = .returned v ∧ Q24 Z p1 p2 p3 h0 n0 v U'.heap L ∧ FrameEnd U o U' L ({ frames := 1, cells := 0, slots := 0, locals := 15 } : Room).cells ({ frames := 1, cells := 0, slots := 0, locals := 15 } : Room).slots) := by
  refine MetFree.of_bodySF (plainFor_of_name pn_24) hisR ?_
  intro p e s m args below meth c s₁ Bd hml0 hP hK
  obtain ⟨rfl, hZ, hh⟩ := hP
  have hx := Bd.exec
  have hby := Bd.bytes
  have hml : c.maxLocals = 5 := hml0
  have hown : s.vm.findClass "com/example/nto1/nto1/IdentityEqualsPinLaw" = some m.cls := findClass_of_methodNamed Bd.named
  have hnm := (name_of_methodNamed Bd.named Bd.method).1
  have X0 : Stand p l e ({ frames := 1, cells := 0, slots := 0, locals := 15 } : Room) s m #[(.int p1), (.int p2), (.int p3)] below meth c s₁ [] 0 0 := Stand.of_body Bd
  have e0 : s₁.heap = h0 := by rw [← hh, Bd.state]; rfl
  have N0 := Fr.nil n0
  have pre0 : ∀ t, Steps p.tables e below (s₁.setTop (mkF m 0 #[.val (.int p1), .val (.int p2), .val (.int p3), .unset, .unset] [])) t → Steps p.tables e below (s₁.setTop (entryFrame m #[(.int p1), (.int p2), (.int p3)] 5)) t := fun t k => castTop (ef_24 m p1 p2 p3) k
  obtain ⟨_, _, ⟨T4, L4, k4, n4⟩, -, X4, ⟨Lc4, hQ4, l4, y4, z4⟩, st4⟩ := Jvm.LawKit.callS X0 hx (y := (⟨"com/example/nto1/nto1/IdentityEqualsPinLaw", "len", "(II)I"⟩ : MethodName)) hown (mvT hZ (hw _ (List.mem_of_getElem? (i := 7) rfl))) (mvT hZ (hw _ (List.mem_of_getElem? (i := 8) rfl))) (mvT hZ (hw _ (List.mem_of_getElem? (i := 5) rfl))) (mvT hZ (hw _ (List.mem_of_getElem? (i := 9) rfl))) (by decide) (backOf (W := 0) (rm2 l Z a0 hw [] p1 p3 h0 n0 Z0) hZ (hw _ (List.mem_of_getElem? (i := 9) rfl)) (hw _ (List.mem_of_getElem? (i := 5) rfl)) (by decide) (by decide)) (g := (mkF m 2 #[.val (.int p1), .val (.int p2), .val (.int p3), .unset, .unset] [(.int p3), (.int p1)])) rfl (by rw [hml]; rfl) (argsL := [(.int p1), (.int p3)]) (rest := []) (lenOf pd_24_1 rfl) rfl (by show 2 * 0 + _ ≤ _; exact Nat.le_of_eq rfl) (hb hby d24_2) (fun _ _ => ⟨rfl, e0, (by decide : 0 + 0 ≤ _), (by decide : 0 + 0 ≤ _)⟩)
  dsimp only [Pt.U, Pt.locs, Pt.cells, Pt.slots] at X4 l4 y4 z4 st4 hQ4
  subst l4 y4 z4
  obtain ⟨rfl, N4q, E4q⟩ := hQ4
  have K4q : Keep h0 T4.heap [] := by rw [E4q]; exact Keep.refl _ _
  have Z4 : n0 ≤ T4.heap.size := Nat.le_trans Z0 K4q.1
  have N4 := Fr.app N0 N4q
  obtain ⟨_, _, ⟨T5, L5, k5, n5⟩, -, X5, ⟨Lc5, hQ5, l5, y5, z5⟩, st5⟩ := Jvm.LawKit.callS X4 hx (y := (⟨"com/example/nto1/nto1/IdentityEqualsPinLaw", "len", "(II)I"⟩ : MethodName)) hown (mvT hZ (hw _ (List.mem_of_getElem? (i := 7) rfl))) (mvT hZ (hw _ (List.mem_of_getElem? (i := 8) rfl))) (mvT hZ (hw _ (List.mem_of_getElem? (i := 5) rfl))) (mvT hZ (hw _ (List.mem_of_getElem? (i := 9) rfl))) (by decide) (backOf (W := 1) (rm2 l Z a0 hw [] p2 p3 T4.heap n0 Z4) hZ (hw _ (List.mem_of_getElem? (i := 9) rfl)) (hw _ (List.mem_of_getElem? (i := 5) rfl)) (by decide) (by decide)) (g := (mkF m 9 #[.val (.int p1), .val (.int p2), .val (.int p3), .val (.int (own_len p1 p3)), .unset] [(.int p3), (.int p2), (.int (own_len p1 p3))])) rfl (by rw [hml]; rfl) (argsL := [(.int p2), (.int p3)]) (rest := [(.int (own_len p1 p3))]) (lenOf pd_24_1 rfl) rfl (by show 2 * 0 + _ ≤ _; exact Nat.le_of_eq rfl) (hb hby d24_9) (fun _ _ => ⟨rfl, rfl, (by decide : 0 + 0 ≤ _), (by decide : 0 + 0 ≤ _)⟩)
  dsimp only [Pt.U, Pt.locs, Pt.cells, Pt.slots] at X5 l5 y5 z5 st5 hQ5
  subst l5 y5 z5
  obtain ⟨rfl, N5q, E5q⟩ := hQ5
  have K5q : Keep T4.heap T5.heap [] := by rw [E5q]; exact Keep.refl _ _
  have Z5 : n0 ≤ T5.heap.size := Nat.le_trans Z4 K5q.1
  have N5 := Fr.app N4 N5q
  obtain ⟨fs, hr, hrun, hended, hW, hsame⟩ := X5.leave (v := some (.int (0 : Int32))) (fun h => by rw [Bd.returns] at h; cases h)
  refine ⟨_, _, pre0 _ ?_, hrun, hended, _, _, rfl, ?_, ⟨_, rfl⟩, hW, hsame.mono (by decide) (by decide)⟩
  · show Steps p.tables e below (s₁.setTop (mkF m 0 #[.val (.int p1), .val (.int p2), .val (.int p3), .unset, .unset] [])) _
    refine XS.iloadN X0.here hx rfl (hb hby d24_0) rfl ?_
    show Steps p.tables e below (s₁.setTop (mkF m 1 #[.val (.int p1), .val (.int p2), .val (.int p3), .unset, .unset] [(.int p1)])) _
    refine XS.iloadN X0.here hx rfl (hb hby d24_1) rfl ?_
    show Steps p.tables e below (s₁.setTop (mkF m 2 #[.val (.int p1), .val (.int p2), .val (.int p3), .unset, .unset] [(.int p3), (.int p1)])) _
    refine st4 _ ?_
    show Steps p.tables e below (T4.setTop (mkF m 5 #[.val (.int p1), .val (.int p2), .val (.int p3), .unset, .unset] [(.int (own_len p1 p3))])) _
    refine XS.istoreN X4.here hx rfl (hb hby d24_5) rfl (l' := #[.val (.int p1), .val (.int p2), .val (.int p3), .val (.int (own_len p1 p3)), .unset]) rfl ?_
    show Steps p.tables e below (T4.setTop (mkF m 6 #[.val (.int p1), .val (.int p2), .val (.int p3), .val (.int (own_len p1 p3)), .unset] [])) _
    refine XS.iloadN X4.here hx rfl (hb hby d24_6) rfl ?_
    show Steps p.tables e below (T4.setTop (mkF m 7 #[.val (.int p1), .val (.int p2), .val (.int p3), .val (.int (own_len p1 p3)), .unset] [(.int (own_len p1 p3))])) _
    refine XS.iloadN X4.here hx rfl (hb hby d24_7) rfl ?_
    show Steps p.tables e below (T4.setTop (mkF m 8 #[.val (.int p1), .val (.int p2), .val (.int p3), .val (.int (own_len p1 p3)), .unset] [(.int p2), (.int (own_len p1 p3))])) _
    refine XS.iloadN X4.here hx rfl (hb hby d24_8) rfl ?_
    show Steps p.tables e below (T4.setTop (mkF m 9 #[.val (.int p1), .val (.int p2), .val (.int p3), .val (.int (own_len p1 p3)), .unset] [(.int p3), (.int p2), (.int (own_len p1 p3))])) _
    refine st5 _ ?_
    show Steps p.tables e below (T5.setTop (mkF m 12 #[.val (.int p1), .val (.int p2), .val (.int p3), .val (.int (own_len p1 p3)), .unset] [(.int (own_len p2 p3)), (.int (own_len p1 p3))])) _
    refine XS.icmpYes X5.here hx rfl (pc0 := 12) (pc' := 17) rfl (hb hby d24_12) rfl (teq (q0 : (own_len p1 p3) = (own_len p2 p3))).1 (by decide) (by decide) ?_
    show Steps p.tables e below (T5.setTop (mkF m 17 #[.val (.int p1), .val (.int p2), .val (.int p3), .val (.int (own_len p1 p3)), .unset] [])) _
    refine XS.iloadN X5.here hx rfl (hb hby d24_17) rfl ?_
    show Steps p.tables e below (T5.setTop (mkF m 18 #[.val (.int p1), .val (.int p2), .val (.int p3), .val (.int (own_len p1 p3)), .unset] [(.int (own_len p1 p3))])) _
    refine XS.ifYes X5.here hx rfl (pc0 := 18) (pc' := 25) rfl (hb hby d24_18) rfl ((if0 _ _).trans (feq (qa : ¬ ((own_len p1 p3) = (0 : Int32)))).2) (by decide) (by decide) ?_
    show Steps p.tables e below (T5.setTop (mkF m 25 #[.val (.int p1), .val (.int p2), .val (.int p3), .val (.int (own_len p1 p3)), .unset] [])) _
    refine XS.iloadN X5.here hx rfl (hb hby d24_25) rfl ?_
    show Steps p.tables e below (T5.setTop (mkF m 26 #[.val (.int p1), .val (.int p2), .val (.int p3), .val (.int (own_len p1 p3)), .unset] [(.int (own_len p1 p3))])) _
    refine XS.iconst X5.here hx rfl (hb hby d24_26) ?_
    show Steps p.tables e below (T5.setTop (mkF m 27 #[.val (.int p1), .val (.int p2), .val (.int p3), .val (.int (own_len p1 p3)), .unset] [(.int (1 : Int32)), (.int (own_len p1 p3))])) _
    refine XS.icmpYes X5.here hx rfl (pc0 := 27) (pc' := 35) rfl (hb hby d24_27) rfl (feq (qb : ¬ ((own_len p1 p3) = (1 : Int32)))).2 (by decide) (by decide) ?_
    show Steps p.tables e below (T5.setTop (mkF m 35 #[.val (.int p1), .val (.int p2), .val (.int p3), .val (.int (own_len p1 p3)), .unset] [])) _
    refine XS.iloadN X5.here hx rfl (hb hby d24_35) rfl ?_
    show Steps p.tables e below (T5.setTop (mkF m 36 #[.val (.int p1), .val (.int p2), .val (.int p3), .val (.int (own_len p1 p3)), .unset] [(.int (own_len p1 p3))])) _
    refine XS.iconst X5.here hx rfl (hb hby d24_36) ?_
    show Steps p.tables e below (T5.setTop (mkF m 37 #[.val (.int p1), .val (.int p2), .val (.int p3), .val (.int (own_len p1 p3)), .unset] [(.int (2 : Int32)), (.int (own_len p1 p3))])) _
    refine XS.icmpYes X5.here hx rfl (pc0 := 37) (pc' := 45) rfl (hb hby d24_37) rfl (feq (qc : ¬ ((own_len p1 p3) = (2 : Int32)))).2 (by decide) (by decide) ?_
    show Steps p.tables e below (T5.setTop (mkF m 45 #[.val (.int p1), .val (.int p2), .val (.int p3), .val (.int (own_len p1 p3)), .unset] [])) _
    refine XS.sipush X5.here hx rfl (hb hby d24_45) ?_
    show Steps p.tables e below (T5.setTop (mkF m 48 #[.val (.int p1), .val (.int p2), .val (.int p3), .val (.int (own_len p1 p3)), .unset] [(.int (252 : Int32))])) _
    refine XS.istore X5.here hx rfl (hb hby d24_48) rfl (l' := #[.val (.int p1), .val (.int p2), .val (.int p3), .val (.int (own_len p1 p3)), .val (.int (252 : Int32))]) rfl ?_
    show Steps p.tables e below (T5.setTop (mkF m 50 #[.val (.int p1), .val (.int p2), .val (.int p3), .val (.int (own_len p1 p3)), .val (.int (252 : Int32))] [])) _
    refine XS.iloadN X5.here hx rfl (hb hby d24_50) rfl ?_
    show Steps p.tables e below (T5.setTop (mkF m 51 #[.val (.int p1), .val (.int p2), .val (.int p3), .val (.int (own_len p1 p3)), .val (.int (252 : Int32))] [(.int p1)])) _
    refine XS.iloadN X5.here hx rfl (hb hby d24_51) rfl ?_
    show Steps p.tables e below (T5.setTop (mkF m 52 #[.val (.int p1), .val (.int p2), .val (.int p3), .val (.int (own_len p1 p3)), .val (.int (252 : Int32))] [(.int p2), (.int p1)])) _
    refine XS.ixor X5.here hx rfl (hb hby d24_52) rfl ?_
    show Steps p.tables e below (T5.setTop (mkF m 53 #[.val (.int p1), .val (.int p2), .val (.int p3), .val (.int (own_len p1 p3)), .val (.int (252 : Int32))] [(.int (p1 ^^^ p2))])) _
    refine XS.iload X5.here hx rfl (hb hby d24_53) rfl ?_
    show Steps p.tables e below (T5.setTop (mkF m 55 #[.val (.int p1), .val (.int p2), .val (.int p3), .val (.int (own_len p1 p3)), .val (.int (252 : Int32))] [(.int (252 : Int32)), (.int (p1 ^^^ p2))])) _
    refine XS.iand X5.here hx rfl (hb hby d24_55) rfl ?_
    show Steps p.tables e below (T5.setTop (mkF m 56 #[.val (.int p1), .val (.int p2), .val (.int p3), .val (.int (own_len p1 p3)), .val (.int (252 : Int32))] [(.int ((p1 ^^^ p2) &&& (252 : Int32)))])) _
    refine XS.ifYes X5.here hx rfl (pc0 := 56) (pc' := 63) rfl (hb hby d24_56) rfl ((if0 _ _).trans (feq hc56).2) (by decide) (by decide) ?_
    show Steps p.tables e below (T5.setTop (mkF m 63 #[.val (.int p1), .val (.int p2), .val (.int p3), .val (.int (own_len p1 p3)), .val (.int (252 : Int32))] [])) _
    refine XS.iconst X5.here hx rfl (hb hby d24_63) ?_
    show Steps p.tables e below (T5.setTop (mkF m 64 #[.val (.int p1), .val (.int p2), .val (.int p3), .val (.int (own_len p1 p3)), .val (.int (252 : Int32))] [(.int (0 : Int32))])) _
    exact retN X5 hx (t := .boolean) Bd.returns (by simp) (hb hby d24_64) hr
  · show Q24 Z p1 p2 p3 h0 n0 _ T5.heap _
    exact ⟨congrArg (fun z => some (Value.int z)) (show _ = own_same p1 p2 p3 from by unfold own_same own_used; rw [if_pos q0, if_neg qa, if_neg qb, if_neg qc, if_neg hc56]), N5, E5q.trans E4q⟩
theorem rm24 (l : Launch) (Z : State) (a0 : Array Value) (hw : ∀ d ∈ tables_1, d.before a0 Z = true) (ws : List Jvm.Cond) (p1 p2 p3 : Int32) (h0 : Heap) (n0 : Nat) (Z0 : n0 ≤ h0.size) : MetFree l (⟨"com/example/nto1/nto1/IdentityEqualsPinLaw", "same", "(III)Z"⟩ : MethodName) (head1 (Jvm.Cond.code (⟨"com/example/nto1/nto1/IdentityEqualsPinLaw", "same", "(III)Z"⟩ : MethodName) method_6_code 5 (some .boolean) :: ws) ({ frames := 1, cells := 0, slots := 0, locals := 15 } : Room)) (fun a U => a = #[(.int p1), (.int p2), (.int p3)] ∧ Z.Warmed39 U.vm ∧ U.heap = h0) (fun _ _ _ _ _ => True) (fun _ U o U' => ∃ v L, o = .returned v ∧ Q24 Z p1 p2 p3 h0 n0 v U'.heap L ∧ FrameEnd U o U' L ({ frames := 1, cells := 0, slots := 0, locals := 15 } : Room).cells ({ frames := 1, cells := 0, slots := 0, locals := 15 } : Room).slots) := by
  by_cases q0 : own_len p1 p3 = own_len p2 p3
  · by_cases qa : own_len p1 p3 = 0
    · exact rm24b l Z a0 hw ws p1 p2 p3 h0 n0 Z0 Int32.and_zero q0 qa
    · by_cases qb : own_len p1 p3 = 1
      · by_cases h : ((p1 ^^^ p2) &&& (12 : Int32)) = (0 : Int32)
        · exact rm24c1 l Z a0 hw ws p1 p2 p3 h0 n0 Z0 h q0 qa qb
        · exact rm24c0 l Z a0 hw ws p1 p2 p3 h0 n0 Z0 h q0 qa qb
      · by_cases qc : own_len p1 p3 = 2
        · by_cases h : ((p1 ^^^ p2) &&& (60 : Int32)) = (0 : Int32)
          · exact rm24d1 l Z a0 hw ws p1 p2 p3 h0 n0 Z0 h q0 qa qb qc
          · exact rm24d0 l Z a0 hw ws p1 p2 p3 h0 n0 Z0 h q0 qa qb qc
        · by_cases h : ((p1 ^^^ p2) &&& (252 : Int32)) = (0 : Int32)
          · exact rm24e1 l Z a0 hw ws p1 p2 p3 h0 n0 Z0 h q0 qa qb qc
          · exact rm24e0 l Z a0 hw ws p1 p2 p3 h0 n0 Z0 h q0 qa qb qc
  · exact rm24a l Z a0 hw ws p1 p2 p3 h0 n0 Z0 q0
theorem own_eqS {p : Program} {l : Launch} {e : Env} {R : Room} {s : State} {args : Array Value} {below : List Frame} {len W : Nat} {Z : State} {a0 : Array Value} {h : Heap} (hZ : Z.Warmed39 s.vm) (hw : ∀ d ∈ tables_1, d.before a0 Z = true) {x y : Addr} {cs ds : List Int32} {z : Int32} (Sx : own_Str Z h x cs) (Sy : own_Str Z h y ds) (S : Sta Z h "java/lang/String" "COMPACT_STRINGS" "Z" (.int z)) (hz : ¬ z = 0) (hfr : 2 ≤ R.frames) (hlo : W + 28 ≤ R.locals) :
    Back l R p e below s args (⟨"java/lang/String", "equals", "(Ljava/lang/Object;)Z"⟩ : MethodName) len W (fun P a => a = #[.ref x, .ref y] ∧ P.U.heap = h ∧ P.cells + 0 ≤ R.cells ∧ P.slots + 0 ≤ R.slots)
      (fun P _ v B => ∃ L, (((v = some (.int 1) ∧ cs = ds) ∨ (v = some (.int 0) ∧ ¬ cs = ds)) ∧ L = [] ∧ B.U.heap = h) ∧ B.locs = P.locs ++ L ∧ B.cells = P.cells + 0 ∧ B.slots = P.slots + 0) := by
  have heq : ∀ d ∈ StrChars.Road.wordsEq, d.before a0 Z = true := fun d hd => hw d ((by decide +kernel : ∀ d ∈ StrChars.Road.wordsEq, d ∈ tables_1) d hd)
  obtain ⟨t1, k1, n1, v1, e1, f1, c1, r1, hc1, hb1, l1⟩ := Sx
  obtain ⟨t2, k2, n2, v2, e2, f2, c2, r2, hc2, hb2, l2⟩ := Sy
  exact StrChars.Road.eqW hZ heq (kI := 4) (hw _ (List.mem_of_getElem? (i := 15) rfl)) e1 f1 c1 r1 hc1 hb1 l1 e2 f2 c2 r2 hc2 hb2 l2 S hz hfr hlo
theorem own_Str_exa {Z : State} {h : Heap} {a : Addr} {cs : List Int32} (S : own_Str Z h a cs) : Exa Z h a "java/lang/String" := by
  obtain ⟨t, kb, N2, vs, e, -⟩ := S; exact e
def own_Id (Z : State) (h : Heap) (a : Addr) (c1 c2 c3 : List Int32) : Prop := ∃ r1 r2 r3 : Addr, Exa Z h a "com/example/nto1/nto1/Identity" ∧ Fld Z h a "com/example/nto1/nto1/Identity" "scope" "Ljava/lang/String;" (.ref r1) ∧ Fld Z h a "com/example/nto1/nto1/Identity" "operation" "Ljava/lang/String;" (.ref r2) ∧ Fld Z h a "com/example/nto1/nto1/Identity" "key" "Ljava/lang/String;" (.ref r3) ∧ own_Str Z h r1 c1 ∧ own_Str Z h r2 c2 ∧ own_Str Z h r3 c3
theorem own_Id_keep {Z : State} {h h' : Heap} {a : Addr} {c1 c2 c3 : List Int32} (I : own_Id Z h a c1 c2 c3) (K : Keep h h' []) : own_Id Z h' a c1 c2 c3 := by
  obtain ⟨r1, r2, r3, e, f1, f2, f3, s1, s2, s3⟩ := I
  exact ⟨r1, r2, r3, e.keep K, f1.keep K nin0, f2.keep K nin0, f3.keep K nin0, own_Str_keep s1 K, own_Str_keep s2 K, own_Str_keep s3 K⟩
def own_e3 (c1 c2 c3 d1 d2 d3 : List Int32) : Int32 := if c1 = d1 ∧ c2 = d2 ∧ c3 = d3 then 1 else 0
theorem d25_0 : decode prog_5_method_6_code 0 = .ok (.aload_n 1, 1) := by decide +kernel
theorem d25_1 : decode prog_5_method_6_code 1 = .ok (.instanceof 9, 3) := by decide +kernel
theorem d25_4 : decode prog_5_method_6_code 4 = .ok (.ifCond .eq 11, 3) := by decide +kernel
theorem d25_15 : decode prog_5_method_6_code 15 = .ok (.iconst 0, 1) := by decide +kernel
theorem d25_16 : decode prog_5_method_6_code 16 = .ok (.ireturn, 1) := by decide +kernel
theorem pn_25 : plainName "com/example/nto1/nto1/Identity" = true := by first | (simp [plainName, overriddenIn]; done) | decide +kernel
theorem ef_25n (m : MethodId) (x0 : Addr) : entryFrame m #[(.ref x0), .null] 3 = mkF m 0 #[.val (.ref x0), .val .null, .unset] [] := by first | (simp [entryFrame, mkF, argsToLocals, Value.category]; done) | rfl
def Q25n (Z : State) (a1 : Addr) (h0 : Heap) (n0 : Nat) (v : Option Value) (h : Heap) (L : List Loc) : Prop := v = some (.int (0 : Int32)) ∧ Fr n0 L ∧ h = h0
set_option maxRecDepth 65536 in
set_option maxHeartbeats 40000000 in
theorem rm25n (l : Launch) (Z : State) (a0 : Array Value) (hw : ∀ d ∈ tables_1, d.before a0 Z = true) (ws : List Jvm.Cond) (a1 : Addr) (h0 : Heap) (n0 : Nat) (Z0 : n0 ≤ h0.size) :
    MetFree l (⟨"com/example/nto1/nto1/Identity", "equals", "(Ljava/lang/Object;)Z"⟩ : MethodName) (head1 (Jvm.Cond.code (⟨"com/example/nto1/nto1/Identity", "equals", "(Ljava/lang/Object;)Z"⟩ : MethodName) prog_5_method_6_code 3 (some .boolean) :: ws) ({ frames := 0, cells := 0, slots := 0, locals := 0 } : Room)) (fun a U => a = #[(.ref a1), .null] ∧ Z.Warmed39 U.vm ∧ U.heap = h0) (fun _ _ _ _ _ => True) (fun _ U o U' => ∃ v L, o = .returned v ∧ Q25n Z a1 h0 n0 v U'.heap L ∧ FrameEnd U o U' L ({ frames := 0, cells := 0, slots := 0, locals := 0 } : Room).cells ({ frames := 0, cells := 0, slots := 0, locals := 0 } : Room).slots) := by
  refine MetFree.of_bodySF (plainFor_of_name pn_25) hisR ?_
  intro p e s m args below meth c s₁ Bd hml0 hP hK
  obtain ⟨rfl, hZ, hh⟩ := hP
  have hx := Bd.exec
  have hby := Bd.bytes
  have hml : c.maxLocals = 3 := hml0
  have hown : s.vm.findClass "com/example/nto1/nto1/Identity" = some m.cls := findClass_of_methodNamed Bd.named
  have hnm := (name_of_methodNamed Bd.named Bd.method).1
  have X0 : Stand p l e ({ frames := 0, cells := 0, slots := 0, locals := 0 } : Room) s m #[(.ref a1), .null] below meth c s₁ [] 0 0 := Stand.of_body Bd
  have e0 : s₁.heap = h0 := by rw [← hh, Bd.state]; rfl
  have N0 := Fr.nil n0
  have pre0 : ∀ t, Steps p.tables e below (s₁.setTop (mkF m 0 #[.val (.ref a1), .val .null, .unset] [])) t → Steps p.tables e below (s₁.setTop (entryFrame m #[(.ref a1), .null] 3)) t := fun t k => castTop (ef_25n m a1) k

  obtain ⟨fs, hr, hrun, hended, hW, hsame⟩ := X0.leave (v := some (.int (0 : Int32))) (fun h => by rw [Bd.returns] at h; cases h)
  refine ⟨_, _, pre0 _ ?_, hrun, hended, _, _, rfl, ?_, ⟨_, rfl⟩, hW, hsame.mono (by decide) (by decide)⟩
  · show Steps p.tables e below (s₁.setTop (mkF m 0 #[.val (.ref a1), .val .null, .unset] [])) _
    refine XS.aloadN X0.here hx rfl (hb hby d25_0) rfl rfl ?_
    show Steps p.tables e below (s₁.setTop (mkF m 1 #[.val (.ref a1), .val .null, .unset] [.null])) _
    refine X0.instanceofNull hx (g := (mkF m 1 #[.val (.ref a1), .val .null, .unset] [.null])) rfl rfl (hb hby d25_1) _ ?_
    show Steps p.tables e below (s₁.setTop (mkF m 4 #[.val (.ref a1), .val .null, .unset] [(.int (0 : Int32))])) _
    refine XS.ifYes X0.here hx rfl (pc0 := 4) (pc' := 15) rfl (hb hby d25_4) rfl ((if0 _ _).trans (teq (rfl : (0 : Int32) = (0 : Int32))).1) (by decide) (by decide) ?_
    show Steps p.tables e below (s₁.setTop (mkF m 15 #[.val (.ref a1), .val .null, .unset] [])) _
    refine XS.iconst X0.here hx rfl (hb hby d25_15) ?_
    show Steps p.tables e below (s₁.setTop (mkF m 16 #[.val (.ref a1), .val .null, .unset] [(.int (0 : Int32))])) _
    exact retN X0 hx (t := .boolean) Bd.returns (by simp) (hb hby d25_16) hr
  · show Q25n Z a1 h0 n0 _ s₁.heap _
    rw [e0]
    exact ⟨rfl, N0, rfl⟩
theorem ef_25 (m : MethodId) (x0 : Addr) (x1 : Addr) : entryFrame m #[(.ref x0), (.ref x1)] 3 = mkF m 0 #[.val (.ref x0), .val (.ref x1), .unset] [] := by first | (simp [entryFrame, mkF, argsToLocals, Value.category]; done) | rfl
def Q25s (Z : State) (a1 : Addr) (a2 : Addr) (h0 : Heap) (n0 : Nat) (v : Option Value) (h : Heap) (L : List Loc) : Prop := v = some (.int (0 : Int32)) ∧ Fr n0 L ∧ h = h0
set_option maxRecDepth 65536 in
set_option maxHeartbeats 40000000 in
theorem rm25s (l : Launch) (Z : State) (a0 : Array Value) (hw : ∀ d ∈ tables_1, d.before a0 Z = true) (ws : List Jvm.Cond) (a1 : Addr) (a2 : Addr) (h0 : Heap) (n0 : Nat) (Z0 : n0 ≤ h0.size) (E_a2 : Exa Z h0 a2 "java/lang/String") (F_no1 : ∃ c t, Z.vm.findClass "java/lang/String" = some c ∧ Z.vm.findClass "com/example/nto1/nto1/Identity" = some t ∧ Z.vm.assignable c t = false) :
    MetFree l (⟨"com/example/nto1/nto1/Identity", "equals", "(Ljava/lang/Object;)Z"⟩ : MethodName) (head1 (Jvm.Cond.code (⟨"com/example/nto1/nto1/Identity", "equals", "(Ljava/lang/Object;)Z"⟩ : MethodName) prog_5_method_6_code 3 (some .boolean) :: ws) ({ frames := 0, cells := 0, slots := 0, locals := 0 } : Room)) (fun a U => a = #[(.ref a1), (.ref a2)] ∧ Z.Warmed39 U.vm ∧ U.heap = h0) (fun _ _ _ _ _ => True) (fun _ U o U' => ∃ v L, o = .returned v ∧ Q25s Z a1 a2 h0 n0 v U'.heap L ∧ FrameEnd U o U' L ({ frames := 0, cells := 0, slots := 0, locals := 0 } : Room).cells ({ frames := 0, cells := 0, slots := 0, locals := 0 } : Room).slots) := by
  refine MetFree.of_bodySF (plainFor_of_name pn_25) hisR ?_
  intro p e s m args below meth c s₁ Bd hml0 hP hK
  obtain ⟨rfl, hZ, hh⟩ := hP
  have hx := Bd.exec
  have hby := Bd.bytes
  have hml : c.maxLocals = 3 := hml0
  have hown : s.vm.findClass "com/example/nto1/nto1/Identity" = some m.cls := findClass_of_methodNamed Bd.named
  have hnm := (name_of_methodNamed Bd.named Bd.method).1
  have X0 : Stand p l e ({ frames := 0, cells := 0, slots := 0, locals := 0 } : Room) s m #[(.ref a1), (.ref a2)] below meth c s₁ [] 0 0 := Stand.of_body Bd
  have e0 : s₁.heap = h0 := by rw [← hh, Bd.state]; rfl
  have N0 := Fr.nil n0
  have pre0 : ∀ t, Steps p.tables e below (s₁.setTop (mkF m 0 #[.val (.ref a1), .val (.ref a2), .unset] [])) t → Steps p.tables e below (s₁.setTop (entryFrame m #[(.ref a1), (.ref a2)] 3)) t := fun t k => castTop (ef_25 m a1 a2) k
  obtain ⟨T3, X3, e3, st3⟩ := instNo X0 hx hZ hown (hw _ (List.mem_of_getElem? (i := 123) rfl)) e0 E_a2 F_no1 (g := (mkF m 1 #[.val (.ref a1), .val (.ref a2), .unset] [(.ref a2)])) rfl rfl (hb hby d25_1)
  obtain ⟨fs, hr, hrun, hended, hW, hsame⟩ := X3.leave (v := some (.int (0 : Int32))) (fun h => by rw [Bd.returns] at h; cases h)
  refine ⟨_, _, pre0 _ ?_, hrun, hended, _, _, rfl, ?_, ⟨_, rfl⟩, hW, hsame.mono (by decide) (by decide)⟩
  · show Steps p.tables e below (s₁.setTop (mkF m 0 #[.val (.ref a1), .val (.ref a2), .unset] [])) _
    refine XS.aloadN X0.here hx rfl (hb hby d25_0) rfl rfl ?_
    show Steps p.tables e below (s₁.setTop (mkF m 1 #[.val (.ref a1), .val (.ref a2), .unset] [(.ref a2)])) _
    refine st3 _ ?_
    show Steps p.tables e below (T3.setTop (mkF m 4 #[.val (.ref a1), .val (.ref a2), .unset] [(.int (0 : Int32))])) _
    refine XS.ifYes X3.here hx rfl (pc0 := 4) (pc' := 15) rfl (hb hby d25_4) rfl ((if0 _ _).trans (teq (rfl : (0 : Int32) = (0 : Int32))).1) (by decide) (by decide) ?_
    show Steps p.tables e below (T3.setTop (mkF m 15 #[.val (.ref a1), .val (.ref a2), .unset] [])) _
    refine XS.iconst X3.here hx rfl (hb hby d25_15) ?_
    show Steps p.tables e below (T3.setTop (mkF m 16 #[.val (.ref a1), .val (.ref a2), .unset] [(.int (0 : Int32))])) _
    exact retN X3 hx (t := .boolean) Bd.returns (by simp) (hb hby d25_16) hr
  · show Q25s Z a1 a2 h0 n0 _ T3.heap _
    rw [e3]
    exact ⟨rfl, N0, rfl⟩
theorem d25_7 : decode prog_5_method_6_code 7 = .ok (.aload_n 1, 1) := by decide +kernel
theorem d25_8 : decode prog_5_method_6_code 8 = .ok (.checkcast 9, 3) := by decide +kernel
theorem d25_11 : decode prog_5_method_6_code 11 = .ok (.astore_n 2, 1) := by decide +kernel
theorem d25_12 : decode prog_5_method_6_code 12 = .ok (.goto 5, 3) := by decide +kernel
theorem d25_17 : decode prog_5_method_6_code 17 = .ok (.aload_n 0, 1) := by decide +kernel
theorem d25_18 : decode prog_5_method_6_code 18 = .ok (.getfield 15, 3) := by decide +kernel
theorem d25_21 : decode prog_5_method_6_code 21 = .ok (.aload_n 2, 1) := by decide +kernel
theorem d25_22 : decode prog_5_method_6_code 22 = .ok (.getfield 15, 3) := by decide +kernel
theorem d25_25 : decode prog_5_method_6_code 25 = .ok (.invokevirtual 30, 3) := by decide +kernel
theorem d25_28 : decode prog_5_method_6_code 28 = .ok (.ifCond .eq 35, 3) := by decide +kernel
theorem d25_63 : decode prog_5_method_6_code 63 = .ok (.iconst 0, 1) := by decide +kernel
theorem d25_64 : decode prog_5_method_6_code 64 = .ok (.ireturn, 1) := by decide +kernel
theorem pd_25_22 : parseMethodDescriptor "(Ljava/lang/Object;)Z" = some ⟨[(.object "java/lang/Object")], some .boolean⟩ := by decide +kernel
def Q25 (c1 c2 c3 d1 d2 d3 : List Int32) (h0 : Heap) (n0 : Nat) (v : Option Value) (h : Heap) (L : List Loc) : Prop := v = some (.int (own_e3 c1 c2 c3 d1 d2 d3)) ∧ Fr n0 L ∧ h = h0
set_option maxRecDepth 65536 in
set_option maxHeartbeats 40000000 in
theorem rm25a (l : Launch) (Z : State) (a0 : Array Value) (hw : ∀ d ∈ tables_1, d.before a0 Z = true) (ws : List Jvm.Cond) (a1 : Addr) (a2 : Addr) (w5 : Addr) (w7 : Addr) (h0 : Heap) (n0 : Nat) (Z0 : n0 ≤ h0.size) (E_a2 : Exa Z h0 a2 "com/example/nto1/nto1/Identity") (F_scope_a1 : Fld Z h0 a1 "com/example/nto1/nto1/Identity" "scope" "Ljava/lang/String;" (.ref w5)) (F_scope_a2 : Fld Z h0 a2 "com/example/nto1/nto1/Identity" "scope" "Ljava/lang/String;" (.ref w7)) (c1 c2 c3 d1 d2 d3 : List Int32) (zc : Int32) (Sw5 : own_Str Z h0 w5 c1) (Sw7 : own_Str Z h0 w7 d1) (S_C : Sta Z Z.heap "java/lang/String" "COMPACT_STRINGS" "Z" (.int zc)) (hzc : ¬ zc = 0) (X00 : Old Z n0 h0) (q1 : ¬ c1 = d1) :
    MetFree l (⟨"com/example/nto1/nto1/Identity", "equals", "(Ljava/lang/Object;)Z"⟩ : MethodName) (head1 (Jvm.Cond.code (⟨"com/example/nto1/nto1/Identity", "equals", "(Ljava/lang/Object;)Z"⟩ : MethodName) prog_5_method_6_code 3 (some .boolean) :: ws) ({ frames := 2, cells := 0, slots := 0, locals := 28 } : Room)) (fun a U => a = #[(.ref a1), (.ref a2)] ∧ Z.Warmed39 U.vm ∧ U.heap = h0) (fun _ _ _ _ _ => True) (fun _ U o U' => ∃ v L, o = .returned v ∧ Q25 c1 c2 c3 d1 d2 d3 h0 n0 v U'.heap L ∧ FrameEnd U o U' L ({ frames := 2, cells := 0, slots := 0, locals := 28 } : Room).cells ({ frames := 2, cells := 0, slots := 0, locals := 28 } : Room).slots) := by
  refine MetFree.of_bodySF (plainFor_of_name pn_25) hisR ?_
  intro p e s m args below meth c s₁ Bd hml0 hP hK
  obtain ⟨rfl, hZ, hh⟩ := hP
  have hx := Bd.exec
  have hby := Bd.bytes
  have hml : c.maxLocals = 3 := hml0
  have hown : s.vm.findClass "com/example/nto1/nto1/Identity" = some m.cls := findClass_of_methodNamed Bd.named
  have hnm := (name_of_methodNamed Bd.named Bd.method).1
  have X0 : Stand p l e ({ frames := 2, cells := 0, slots := 0, locals := 28 } : Room) s m #[(.ref a1), (.ref a2)] below meth c s₁ [] 0 0 := Stand.of_body Bd
  have e0 : s₁.heap = h0 := by rw [← hh, Bd.state]; rfl
  have N0 := Fr.nil n0
  have E_w5 := own_Str_exa Sw5
  have pre0 : ∀ t, Steps p.tables e below (s₁.setTop (mkF m 0 #[.val (.ref a1), .val (.ref a2), .unset] [])) t → Steps p.tables e below (s₁.setTop (entryFrame m #[(.ref a1), (.ref a2)] 3)) t := fun t k => castTop (ef_25 m a1 a2) k
  obtain ⟨T3, X3, e3, st3⟩ := instY X0 hx hZ hown (hw _ (List.mem_of_getElem? (i := 123) rfl)) e0 (Ins.self E_a2) (g := (mkF m 1 #[.val (.ref a1), .val (.ref a2), .unset] [(.ref a2)])) rfl rfl (hb hby d25_1)
  obtain ⟨T4, X4, e4, st4⟩ := castY X3 hx hZ hown (hw _ (List.mem_of_getElem? (i := 123) rfl)) e3 (Ins.self E_a2) (g := (mkF m 8 #[.val (.ref a1), .val (.ref a2), .unset] [(.ref a2)])) rfl rfl (hb hby d25_8)
  obtain ⟨T6, X6, e6, st6⟩ := getF X4 hx hZ hown (host := "") (Or.inl (hw _ (List.mem_of_getElem? (i := 86) rfl))) Via.refl e4 F_scope_a1 (g := (mkF m 18 #[.val (.ref a1), .val (.ref a2), .val (.ref a2)] [(.ref a1)])) rfl rfl (hb hby d25_18)
  obtain ⟨T8, X8, e8, st8⟩ := getF X6 hx hZ hown (host := "") (Or.inl (hw _ (List.mem_of_getElem? (i := 86) rfl))) Via.refl e6 F_scope_a2 (g := (mkF m 22 #[.val (.ref a1), .val (.ref a2), .val (.ref a2)] [(.ref a2), (.ref w5)])) rfl rfl (hb hby d25_22)
  have CE1_a2 := E_a2
  obtain ⟨cq9, kq9, q9a, q9b, q9c⟩ := isOf hZ e8 E_w5
  obtain ⟨_, _, ⟨T9, L9, k9, n9⟩, -, X9, ⟨Lc9, hQ9, l9, y9, z9⟩, st9⟩ := X8.virtualBack hx (y := (⟨"java/lang/String", "equals", "(Ljava/lang/Object;)Z"⟩ : MethodName)) (z := (⟨"java/lang/String", "equals", "(Ljava/lang/Object;)Z"⟩ : MethodName)) hown (mvT hZ (hw _ (List.mem_of_getElem? (i := 125) rfl))) (mvT hZ (hw _ (List.mem_of_getElem? (i := 126) rfl))) (notFace_of_selects (args := #[]) (mvT hZ (hw _ (List.mem_of_getElem? (i := 128) rfl)))) (mvT hZ (hw _ (List.mem_of_getElem? (i := 128) rfl))) (mvT hZ (hw _ (List.mem_of_getElem? (i := 127) rfl))) (by decide) (own_eqS (W := 0) hZ hw Sw5 Sw7 (S_C.ext X00.2) hzc (by decide) (by decide)) q9a q9c (g := (mkF m 25 #[.val (.ref a1), .val (.ref a2), .val (.ref a2)] [(.ref w7), (.ref w5)])) rfl (by rw [hml]; rfl) (Steps.refl _) (argsL := [(.ref w7)]) (rest := []) (lenOf pd_25_22 rfl) rfl (by show 2 * 0 + _ ≤ _; exact Nat.le_of_eq rfl) (hb hby d25_25) (fun _ _ => ⟨rfl, e8, (by decide : 0 + 0 ≤ _), (by decide : 0 + 0 ≤ _)⟩)
  dsimp only [Pt.U, Pt.locs, Pt.cells, Pt.slots] at X9 l9 y9 z9 st9 hQ9
  subst l9 y9 z9
  obtain ⟨hv9, rfl, E9q⟩ := hQ9
  obtain ⟨rfl, -⟩ := hv9.resolve_left (fun q => q1 q.2)
  have K9q : Keep h0 T9.heap [] := by rw [E9q]; exact Keep.refl _ _
  have N9q : Fr n0 ([] : List Loc) := Fr.nil n0
  have Z9 : n0 ≤ T9.heap.size := Nat.le_trans Z0 K9q.1
  have N9 := Fr.app N0 N9q
  obtain ⟨fs, hr, hrun, hended, hW, hsame⟩ := X9.leave (v := some (.int (0 : Int32))) (fun h => by rw [Bd.returns] at h; cases h)
  refine ⟨_, _, pre0 _ ?_, hrun, hended, _, _, rfl, ?_, ⟨_, rfl⟩, hW, hsame.mono (by decide) (by decide)⟩
  · show Steps p.tables e below (s₁.setTop (mkF m 0 #[.val (.ref a1), .val (.ref a2), .unset] [])) _
    refine XS.aloadN X0.here hx rfl (hb hby d25_0) rfl rfl ?_
    show Steps p.tables e below (s₁.setTop (mkF m 1 #[.val (.ref a1), .val (.ref a2), .unset] [(.ref a2)])) _
    refine st3 _ ?_
    show Steps p.tables e below (T3.setTop (mkF m 4 #[.val (.ref a1), .val (.ref a2), .unset] [(.int (1 : Int32))])) _
    refine XS.ifNo X3.here hx rfl (hb hby d25_4) rfl ((if0 _ _).trans (feq (by decide : ¬ ((1 : Int32) = (0 : Int32)))).1) ?_
    show Steps p.tables e below (T3.setTop (mkF m 7 #[.val (.ref a1), .val (.ref a2), .unset] [])) _
    refine XS.aloadN X3.here hx rfl (hb hby d25_7) rfl rfl ?_
    show Steps p.tables e below (T3.setTop (mkF m 8 #[.val (.ref a1), .val (.ref a2), .unset] [(.ref a2)])) _
    refine st4 _ ?_
    show Steps p.tables e below (T4.setTop (mkF m 11 #[.val (.ref a1), .val (.ref a2), .unset] [(.ref a2)])) _
    refine XS.astoreN X4.here hx rfl (hb hby d25_11) rfl rfl (l' := #[.val (.ref a1), .val (.ref a2), .val (.ref a2)]) rfl ?_
    show Steps p.tables e below (T4.setTop (mkF m 12 #[.val (.ref a1), .val (.ref a2), .val (.ref a2)] [])) _
    refine XS.goto X4.here hx rfl (pc0 := 12) (pc' := 17) rfl (hb hby d25_12) (by decide) (by decide) ?_
    show Steps p.tables e below (T4.setTop (mkF m 17 #[.val (.ref a1), .val (.ref a2), .val (.ref a2)] [])) _
    refine XS.aloadN X4.here hx rfl (hb hby d25_17) rfl rfl ?_
    show Steps p.tables e below (T4.setTop (mkF m 18 #[.val (.ref a1), .val (.ref a2), .val (.ref a2)] [(.ref a1)])) _
    refine st6 _ ?_
    show Steps p.tables e below (T6.setTop (mkF m 21 #[.val (.ref a1), .val (.ref a2), .val (.ref a2)] [(.ref w5)])) _
    refine XS.aloadN X6.here hx rfl (hb hby d25_21) rfl rfl ?_
    show Steps p.tables e below (T6.setTop (mkF m 22 #[.val (.ref a1), .val (.ref a2), .val (.ref a2)] [(.ref a2), (.ref w5)])) _
    refine st8 _ ?_
    show Steps p.tables e below (T8.setTop (mkF m 25 #[.val (.ref a1), .val (.ref a2), .val (.ref a2)] [(.ref w7), (.ref w5)])) _
    refine st9.trans ?_
    show Steps p.tables e below (T9.setTop (mkF m 28 #[.val (.ref a1), .val (.ref a2), .val (.ref a2)] [(.int (0 : Int32))])) _
    refine XS.ifYes X9.here hx rfl (pc0 := 28) (pc' := 63) rfl (hb hby d25_28) rfl ((if0 _ _).trans (teq (rfl : (0 : Int32) = (0 : Int32))).1) (by decide) (by decide) ?_
    show Steps p.tables e below (T9.setTop (mkF m 63 #[.val (.ref a1), .val (.ref a2), .val (.ref a2)] [])) _
    refine XS.iconst X9.here hx rfl (hb hby d25_63) ?_
    show Steps p.tables e below (T9.setTop (mkF m 64 #[.val (.ref a1), .val (.ref a2), .val (.ref a2)] [(.int (0 : Int32))])) _
    exact retN X9 hx (t := .boolean) Bd.returns (by simp) (hb hby d25_64) hr
  · show Q25 c1 c2 c3 d1 d2 d3 h0 n0 _ T9.heap _
    exact ⟨congrArg (fun z => some (Value.int z)) ((if_neg (fun z => q1 z.1)).symm), N9, E9q⟩
theorem d25_31 : decode prog_5_method_6_code 31 = .ok (.aload_n 0, 1) := by decide +kernel
theorem d25_32 : decode prog_5_method_6_code 32 = .ok (.getfield 22, 3) := by decide +kernel
theorem d25_35 : decode prog_5_method_6_code 35 = .ok (.aload_n 2, 1) := by decide +kernel
theorem d25_36 : decode prog_5_method_6_code 36 = .ok (.getfield 22, 3) := by decide +kernel
theorem d25_39 : decode prog_5_method_6_code 39 = .ok (.invokevirtual 30, 3) := by decide +kernel
theorem d25_42 : decode prog_5_method_6_code 42 = .ok (.ifCond .eq 21, 3) := by decide +kernel
set_option maxRecDepth 65536 in
set_option maxHeartbeats 40000000 in
theorem rm25b (l : Launch) (Z : State) (a0 : Array Value) (hw : ∀ d ∈ tables_1, d.before a0 Z = true) (ws : List Jvm.Cond) (a1 : Addr) (a2 : Addr) (w5 : Addr) (w7 : Addr) (w10 : Addr) (w12 : Addr) (h0 : Heap) (n0 : Nat) (Z0 : n0 ≤ h0.size) (E_a2 : Exa Z h0 a2 "com/example/nto1/nto1/Identity") (F_scope_a1 : Fld Z h0 a1 "com/example/nto1/nto1/Identity" "scope" "Ljava/lang/String;" (.ref w5)) (F_scope_a2 : Fld Z h0 a2 "com/example/nto1/nto1/Identity" "scope" "Ljava/lang/String;" (.ref w7)) (F_operation_a1 : Fld Z h0 a1 "com/example/nto1/nto1/Identity" "operation" "Ljava/lang/String;" (.ref w10)) (F_operation_a2 : Fld Z h0 a2 "com/example/nto1/nto1/Identity" "operation" "Ljava/lang/String;" (.ref w12)) (c1 c2 c3 d1 d2 d3 : List Int32) (zc : Int32) (Sw5 : own_Str Z h0 w5 c1) (Sw7 : own_Str Z h0 w7 d1) (Sw10 : own_Str Z h0 w10 c2) (Sw12 : own_Str Z h0 w12 d2) (S_C : Sta Z Z.heap "java/lang/String" "COMPACT_STRINGS" "Z" (.int zc)) (hzc : ¬ zc = 0) (X00 : Old Z n0 h0) (q1 : c1 = d1) (q2 : ¬ c2 = d2) :
    MetFree l (⟨"com/example/nto1/nto1/Identity", "equals", "(Ljava/lang/Object;)Z"⟩ : MethodName) (head1 (Jvm.Cond.code (⟨"com/example/nto1/nto1/Identity", "equals", "(Ljava/lang/Object;)Z"⟩ : MethodName) prog_5_method_6_code 3 (some .boolean) :: ws) ({ frames := 2, cells := 0, slots := 0, locals := 28 } : Room)) (fun a U => a = #[(.ref a1), (.ref a2)] ∧ Z.Warmed39 U.vm ∧ U.heap = h0) (fun _ _ _ _ _ => True) (fun _ U o U' => ∃ v L, o = .returned v ∧ Q25 c1 c2 c3 d1 d2 d3 h0 n0 v U'.heap L ∧ FrameEnd U o U' L ({ frames := 2, cells := 0, slots := 0, locals := 28 } : Room).cells ({ frames := 2, cells := 0, slots := 0, locals := 28 } : Room).slots) := by
  refine MetFree.of_bodySF (plainFor_of_name pn_25) hisR ?_
  intro p e s m args below meth c s₁ Bd hml0 hP hK
  obtain ⟨rfl, hZ, hh⟩ := hP
  have hx := Bd.exec
  have hby := Bd.bytes
  have hml : c.maxLocals = 3 := hml0
  have hown : s.vm.findClass "com/example/nto1/nto1/Identity" = some m.cls := findClass_of_methodNamed Bd.named
  have hnm := (name_of_methodNamed Bd.named Bd.method).1
  have X0 : Stand p l e ({ frames := 2, cells := 0, slots := 0, locals := 28 } : Room) s m #[(.ref a1), (.ref a2)] below meth c s₁ [] 0 0 := Stand.of_body Bd
  have e0 : s₁.heap = h0 := by rw [← hh, Bd.state]; rfl
  have N0 := Fr.nil n0
  have E_w5 := own_Str_exa Sw5
  have E_w10 := own_Str_exa Sw10
  have pre0 : ∀ t, Steps p.tables e below (s₁.setTop (mkF m 0 #[.val (.ref a1), .val (.ref a2), .unset] [])) t → Steps p.tables e below (s₁.setTop (entryFrame m #[(.ref a1), (.ref a2)] 3)) t := fun t k => castTop (ef_25 m a1 a2) k
  obtain ⟨T3, X3, e3, st3⟩ := instY X0 hx hZ hown (hw _ (List.mem_of_getElem? (i := 123) rfl)) e0 (Ins.self E_a2) (g := (mkF m 1 #[.val (.ref a1), .val (.ref a2), .unset] [(.ref a2)])) rfl rfl (hb hby d25_1)
  obtain ⟨T4, X4, e4, st4⟩ := castY X3 hx hZ hown (hw _ (List.mem_of_getElem? (i := 123) rfl)) e3 (Ins.self E_a2) (g := (mkF m 8 #[.val (.ref a1), .val (.ref a2), .unset] [(.ref a2)])) rfl rfl (hb hby d25_8)
  obtain ⟨T6, X6, e6, st6⟩ := getF X4 hx hZ hown (host := "") (Or.inl (hw _ (List.mem_of_getElem? (i := 86) rfl))) Via.refl e4 F_scope_a1 (g := (mkF m 18 #[.val (.ref a1), .val (.ref a2), .val (.ref a2)] [(.ref a1)])) rfl rfl (hb hby d25_18)
  obtain ⟨T8, X8, e8, st8⟩ := getF X6 hx hZ hown (host := "") (Or.inl (hw _ (List.mem_of_getElem? (i := 86) rfl))) Via.refl e6 F_scope_a2 (g := (mkF m 22 #[.val (.ref a1), .val (.ref a2), .val (.ref a2)] [(.ref a2), (.ref w5)])) rfl rfl (hb hby d25_22)
  have CE1_a2 := E_a2
  obtain ⟨cq9, kq9, q9a, q9b, q9c⟩ := isOf hZ e8 E_w5
  obtain ⟨_, _, ⟨T9, L9, k9, n9⟩, -, X9, ⟨Lc9, hQ9, l9, y9, z9⟩, st9⟩ := X8.virtualBack hx (y := (⟨"java/lang/String", "equals", "(Ljava/lang/Object;)Z"⟩ : MethodName)) (z := (⟨"java/lang/String", "equals", "(Ljava/lang/Object;)Z"⟩ : MethodName)) hown (mvT hZ (hw _ (List.mem_of_getElem? (i := 125) rfl))) (mvT hZ (hw _ (List.mem_of_getElem? (i := 126) rfl))) (notFace_of_selects (args := #[]) (mvT hZ (hw _ (List.mem_of_getElem? (i := 128) rfl)))) (mvT hZ (hw _ (List.mem_of_getElem? (i := 128) rfl))) (mvT hZ (hw _ (List.mem_of_getElem? (i := 127) rfl))) (by decide) (own_eqS (W := 0) hZ hw Sw5 Sw7 (S_C.ext X00.2) hzc (by decide) (by decide)) q9a q9c (g := (mkF m 25 #[.val (.ref a1), .val (.ref a2), .val (.ref a2)] [(.ref w7), (.ref w5)])) rfl (by rw [hml]; rfl) (Steps.refl _) (argsL := [(.ref w7)]) (rest := []) (lenOf pd_25_22 rfl) rfl (by show 2 * 0 + _ ≤ _; exact Nat.le_of_eq rfl) (hb hby d25_25) (fun _ _ => ⟨rfl, e8, (by decide : 0 + 0 ≤ _), (by decide : 0 + 0 ≤ _)⟩)
  dsimp only [Pt.U, Pt.locs, Pt.cells, Pt.slots] at X9 l9 y9 z9 st9 hQ9
  subst l9 y9 z9
  obtain ⟨hv9, rfl, E9q⟩ := hQ9
  obtain ⟨rfl, -⟩ := hv9.resolve_right (fun q => q.2 q1)
  have K9q : Keep h0 T9.heap [] := by rw [E9q]; exact Keep.refl _ _
  have N9q : Fr n0 ([] : List Loc) := Fr.nil n0
  have Z9 : n0 ≤ T9.heap.size := Nat.le_trans Z0 K9q.1
  have N9 := Fr.app N0 N9q
  obtain ⟨T11, X11, e11, st11⟩ := getF X9 hx hZ hown (host := "") (Or.inl (hw _ (List.mem_of_getElem? (i := 110) rfl))) Via.refl rfl (F_operation_a1.keep K9q nin0) (g := (mkF m 32 #[.val (.ref a1), .val (.ref a2), .val (.ref a2)] [(.ref a1)])) rfl rfl (hb hby d25_32)
  obtain ⟨T13, X13, e13, st13⟩ := getF X11 hx hZ hown (host := "") (Or.inl (hw _ (List.mem_of_getElem? (i := 110) rfl))) Via.refl e11 (F_operation_a2.keep K9q nin0) (g := (mkF m 36 #[.val (.ref a1), .val (.ref a2), .val (.ref a2)] [(.ref a2), (.ref w10)])) rfl rfl (hb hby d25_36)
  have CE2_a2 := (E_a2.keep K9q)
  have CE2_w5 := (E_w5.keep K9q)
  obtain ⟨cq14, kq14, q14a, q14b, q14c⟩ := isOf hZ e13 (E_w10.keep K9q)
  obtain ⟨_, _, ⟨T14, L14, k14, n14⟩, -, X14, ⟨Lc14, hQ14, l14, y14, z14⟩, st14⟩ := X13.virtualBack hx (y := (⟨"java/lang/String", "equals", "(Ljava/lang/Object;)Z"⟩ : MethodName)) (z := (⟨"java/lang/String", "equals", "(Ljava/lang/Object;)Z"⟩ : MethodName)) hown (mvT hZ (hw _ (List.mem_of_getElem? (i := 125) rfl))) (mvT hZ (hw _ (List.mem_of_getElem? (i := 126) rfl))) (notFace_of_selects (args := #[]) (mvT hZ (hw _ (List.mem_of_getElem? (i := 128) rfl)))) (mvT hZ (hw _ (List.mem_of_getElem? (i := 128) rfl))) (mvT hZ (hw _ (List.mem_of_getElem? (i := 127) rfl))) (by decide) (own_eqS (W := 0) hZ hw (own_Str_keep Sw10 K9q) (own_Str_keep Sw12 K9q) (S_C.ext (X00.keep K9q all0).2) hzc (by decide) (by decide)) q14a q14c (g := (mkF m 39 #[.val (.ref a1), .val (.ref a2), .val (.ref a2)] [(.ref w12), (.ref w10)])) rfl (by rw [hml]; rfl) (Steps.refl _) (argsL := [(.ref w12)]) (rest := []) (lenOf pd_25_22 rfl) rfl (by show 2 * 0 + _ ≤ _; exact Nat.le_of_eq rfl) (hb hby d25_39) (fun _ _ => ⟨rfl, e13, (by decide : 0 + 0 ≤ _), (by decide : 0 + 0 ≤ _)⟩)
  dsimp only [Pt.U, Pt.locs, Pt.cells, Pt.slots] at X14 l14 y14 z14 st14 hQ14
  subst l14 y14 z14
  obtain ⟨hv14, rfl, E14q⟩ := hQ14
  obtain ⟨rfl, -⟩ := hv14.resolve_left (fun q => q2 q.2)
  have K14q : Keep T9.heap T14.heap [] := by rw [E14q]; exact Keep.refl _ _
  have N14q : Fr n0 ([] : List Loc) := Fr.nil n0
  have Z14 : n0 ≤ T14.heap.size := Nat.le_trans Z9 K14q.1
  have N14 := Fr.app N9 N14q
  obtain ⟨fs, hr, hrun, hended, hW, hsame⟩ := X14.leave (v := some (.int (0 : Int32))) (fun h => by rw [Bd.returns] at h; cases h)
  refine ⟨_, _, pre0 _ ?_, hrun, hended, _, _, rfl, ?_, ⟨_, rfl⟩, hW, hsame.mono (by decide) (by decide)⟩
  · show Steps p.tables e below (s₁.setTop (mkF m 0 #[.val (.ref a1), .val (.ref a2), .unset] [])) _
    refine XS.aloadN X0.here hx rfl (hb hby d25_0) rfl rfl ?_
    show Steps p.tables e below (s₁.setTop (mkF m 1 #[.val (.ref a1), .val (.ref a2), .unset] [(.ref a2)])) _
    refine st3 _ ?_
    show Steps p.tables e below (T3.setTop (mkF m 4 #[.val (.ref a1), .val (.ref a2), .unset] [(.int (1 : Int32))])) _
    refine XS.ifNo X3.here hx rfl (hb hby d25_4) rfl ((if0 _ _).trans (feq (by decide : ¬ ((1 : Int32) = (0 : Int32)))).1) ?_
    show Steps p.tables e below (T3.setTop (mkF m 7 #[.val (.ref a1), .val (.ref a2), .unset] [])) _
    refine XS.aloadN X3.here hx rfl (hb hby d25_7) rfl rfl ?_
    show Steps p.tables e below (T3.setTop (mkF m 8 #[.val (.ref a1), .val (.ref a2), .unset] [(.ref a2)])) _
    refine st4 _ ?_
    show Steps p.tables e below (T4.setTop (mkF m 11 #[.val (.ref a1), .val (.ref a2), .unset] [(.ref a2)])) _
    refine XS.astoreN X4.here hx rfl (hb hby d25_11) rfl rfl (l' := #[.val (.ref a1), .val (.ref a2), .val (.ref a2)]) rfl ?_
    show Steps p.tables e below (T4.setTop (mkF m 12 #[.val (.ref a1), .val (.ref a2), .val (.ref a2)] [])) _
    refine XS.goto X4.here hx rfl (pc0 := 12) (pc' := 17) rfl (hb hby d25_12) (by decide) (by decide) ?_
    show Steps p.tables e below (T4.setTop (mkF m 17 #[.val (.ref a1), .val (.ref a2), .val (.ref a2)] [])) _
    refine XS.aloadN X4.here hx rfl (hb hby d25_17) rfl rfl ?_
    show Steps p.tables e below (T4.setTop (mkF m 18 #[.val (.ref a1), .val (.ref a2), .val (.ref a2)] [(.ref a1)])) _
    refine st6 _ ?_
    show Steps p.tables e below (T6.setTop (mkF m 21 #[.val (.ref a1), .val (.ref a2), .val (.ref a2)] [(.ref w5)])) _
    refine XS.aloadN X6.here hx rfl (hb hby d25_21) rfl rfl ?_
    show Steps p.tables e below (T6.setTop (mkF m 22 #[.val (.ref a1), .val (.ref a2), .val (.ref a2)] [(.ref a2), (.ref w5)])) _
    refine st8 _ ?_
    show Steps p.tables e below (T8.setTop (mkF m 25 #[.val (.ref a1), .val (.ref a2), .val (.ref a2)] [(.ref w7), (.ref w5)])) _
    refine st9.trans ?_
    show Steps p.tables e below (T9.setTop (mkF m 28 #[.val (.ref a1), .val (.ref a2), .val (.ref a2)] [(.int (1 : Int32))])) _
    refine XS.ifNo X9.here hx rfl (hb hby d25_28) rfl ((if0 _ _).trans (feq ((by decide) : ¬ ((1 : Int32) = (0 : Int32)))).1) ?_
    show Steps p.tables e below (T9.setTop (mkF m 31 #[.val (.ref a1), .val (.ref a2), .val (.ref a2)] [])) _
    refine XS.aloadN X9.here hx rfl (hb hby d25_31) rfl rfl ?_
    show Steps p.tables e below (T9.setTop (mkF m 32 #[.val (.ref a1), .val (.ref a2), .val (.ref a2)] [(.ref a1)])) _
    refine st11 _ ?_
    show Steps p.tables e below (T11.setTop (mkF m 35 #[.val (.ref a1), .val (.ref a2), .val (.ref a2)] [(.ref w10)])) _
    refine XS.aloadN X11.here hx rfl (hb hby d25_35) rfl rfl ?_
    show Steps p.tables e below (T11.setTop (mkF m 36 #[.val (.ref a1), .val (.ref a2), .val (.ref a2)] [(.ref a2), (.ref w10)])) _
    refine st13 _ ?_
    show Steps p.tables e below (T13.setTop (mkF m 39 #[.val (.ref a1), .val (.ref a2), .val (.ref a2)] [(.ref w12), (.ref w10)])) _
    refine st14.trans ?_
    show Steps p.tables e below (T14.setTop (mkF m 42 #[.val (.ref a1), .val (.ref a2), .val (.ref a2)] [(.int (0 : Int32))])) _
    refine XS.ifYes X14.here hx rfl (pc0 := 42) (pc' := 63) rfl (hb hby d25_42) rfl ((if0 _ _).trans (teq (rfl : (0 : Int32) = (0 : Int32))).1) (by decide) (by decide) ?_
    show Steps p.tables e below (T14.setTop (mkF m 63 #[.val (.ref a1), .val (.ref a2), .val (.ref a2)] [])) _
    refine XS.iconst X14.here hx rfl (hb hby d25_63) ?_
    show Steps p.tables e below (T14.setTop (mkF m 64 #[.val (.ref a1), .val (.ref a2), .val (.ref a2)] [(.int (0 : Int32))])) _
    exact retN X14 hx (t := .boolean) Bd.returns (by simp) (hb hby d25_64) hr
  · show Q25 c1 c2 c3 d1 d2 d3 h0 n0 _ T14.heap _
    exact ⟨congrArg (fun z => some (Value.int z)) ((if_neg (fun z => q2 z.2.1)).symm), N14, E14q.trans E9q⟩
theorem d25_45 : decode prog_5_method_6_code 45 = .ok (.aload_n 0, 1) := by decide +kernel
theorem d25_46 : decode prog_5_method_6_code 46 = .ok (.getfield 27, 3) := by decide +kernel
theorem d25_49 : decode prog_5_method_6_code 49 = .ok (.aload_n 2, 1) := by decide +kernel
theorem d25_50 : decode prog_5_method_6_code 50 = .ok (.getfield 27, 3) := by decide +kernel
theorem d25_53 : decode prog_5_method_6_code 53 = .ok (.invokevirtual 30, 3) := by decide +kernel
theorem d25_56 : decode prog_5_method_6_code 56 = .ok (.ifCond .eq 7, 3) := by decide +kernel
set_option maxRecDepth 65536 in
set_option maxHeartbeats 40000000 in
theorem rm25c (l : Launch) (Z : State) (a0 : Array Value) (hw : ∀ d ∈ tables_1, d.before a0 Z = true) (ws : List Jvm.Cond) (a1 : Addr) (a2 : Addr) (w5 : Addr) (w7 : Addr) (w10 : Addr) (w12 : Addr) (w15 : Addr) (w17 : Addr) (h0 : Heap) (n0 : Nat) (Z0 : n0 ≤ h0.size) (E_a2 : Exa Z h0 a2 "com/example/nto1/nto1/Identity") (F_scope_a1 : Fld Z h0 a1 "com/example/nto1/nto1/Identity" "scope" "Ljava/lang/String;" (.ref w5)) (F_scope_a2 : Fld Z h0 a2 "com/example/nto1/nto1/Identity" "scope" "Ljava/lang/String;" (.ref w7)) (F_operation_a1 : Fld Z h0 a1 "com/example/nto1/nto1/Identity" "operation" "Ljava/lang/String;" (.ref w10)) (F_operation_a2 : Fld Z h0 a2 "com/example/nto1/nto1/Identity" "operation" "Ljava/lang/String;" (.ref w12)) (F_key_a1 : Fld Z h0 a1 "com/example/nto1/nto1/Identity" "key" "Ljava/lang/String;" (.ref w15)) (F_key_a2 : Fld Z h0 a2 "com/example/nto1/nto1/Identity" "key" "Ljava/lang/String;" (.ref w17)) (c1 c2 c3 d1 d2 d3 : List Int32) (zc : Int32) (Sw5 : own_Str Z h0 w5 c1) (Sw7 : own_Str Z h0 w7 d1) (Sw10 : own_Str Z h0 w10 c2) (Sw12 : own_Str Z h0 w12 d2) (Sw15 : own_Str Z h0 w15 c3) (Sw17 : own_Str Z h0 w17 d3) (S_C : Sta Z Z.heap "java/lang/String" "COMPACT_STRINGS" "Z" (.int zc)) (hzc : ¬ zc = 0) (X00 : Old Z n0 h0) (q1 : c1 = d1) (q2 : c2 = d2) (q3 : ¬ c3 = d3) :
    MetFree l (⟨"com/example/nto1/nto1/Identity", "equals", "(Ljava/lang/Object;)Z"⟩ : MethodName) (head1 (Jvm.Cond.code (⟨"com/example/nto1/nto1/Identity", "equals", "(Ljava/lang/Object;)Z"⟩ : MethodName) prog_5_method_6_code 3 (some .boolean) :: ws) ({ frames := 2, cells := 0, slots := 0, locals := 28 } : Room)) (fun a U => a = #[(.ref a1), (.ref a2)] ∧ Z.Warmed39 U.vm ∧ U.heap = h0) (fun _ _ _ _ _ => True) (fun _ U o U' => ∃ v L, o = .returned v ∧ Q25 c1 c2 c3 d1 d2 d3 h0 n0 v U'.heap L ∧ FrameEnd U o U' L ({ frames := 2, cells := 0, slots := 0, locals := 28 } : Room).cells ({ frames := 2, cells := 0, slots := 0, locals := 28 } : Room).slots) := by
  refine MetFree.of_bodySF (plainFor_of_name pn_25) hisR ?_
  intro p e s m args below meth c s₁ Bd hml0 hP hK
  obtain ⟨rfl, hZ, hh⟩ := hP
  have hx := Bd.exec
  have hby := Bd.bytes
  have hml : c.maxLocals = 3 := hml0
  have hown : s.vm.findClass "com/example/nto1/nto1/Identity" = some m.cls := findClass_of_methodNamed Bd.named
  have hnm := (name_of_methodNamed Bd.named Bd.method).1
  have X0 : Stand p l e ({ frames := 2, cells := 0, slots := 0, locals := 28 } : Room) s m #[(.ref a1), (.ref a2)] below meth c s₁ [] 0 0 := Stand.of_body Bd
  have e0 : s₁.heap = h0 := by rw [← hh, Bd.state]; rfl
  have N0 := Fr.nil n0
  have E_w5 := own_Str_exa Sw5
  have E_w10 := own_Str_exa Sw10
  have E_w15 := own_Str_exa Sw15
  have pre0 : ∀ t, Steps p.tables e below (s₁.setTop (mkF m 0 #[.val (.ref a1), .val (.ref a2), .unset] [])) t → Steps p.tables e below (s₁.setTop (entryFrame m #[(.ref a1), (.ref a2)] 3)) t := fun t k => castTop (ef_25 m a1 a2) k
  obtain ⟨T3, X3, e3, st3⟩ := instY X0 hx hZ hown (hw _ (List.mem_of_getElem? (i := 123) rfl)) e0 (Ins.self E_a2) (g := (mkF m 1 #[.val (.ref a1), .val (.ref a2), .unset] [(.ref a2)])) rfl rfl (hb hby d25_1)
  obtain ⟨T4, X4, e4, st4⟩ := castY X3 hx hZ hown (hw _ (List.mem_of_getElem? (i := 123) rfl)) e3 (Ins.self E_a2) (g := (mkF m 8 #[.val (.ref a1), .val (.ref a2), .unset] [(.ref a2)])) rfl rfl (hb hby d25_8)
  obtain ⟨T6, X6, e6, st6⟩ := getF X4 hx hZ hown (host := "") (Or.inl (hw _ (List.mem_of_getElem? (i := 86) rfl))) Via.refl e4 F_scope_a1 (g := (mkF m 18 #[.val (.ref a1), .val (.ref a2), .val (.ref a2)] [(.ref a1)])) rfl rfl (hb hby d25_18)
  obtain ⟨T8, X8, e8, st8⟩ := getF X6 hx hZ hown (host := "") (Or.inl (hw _ (List.mem_of_getElem? (i := 86) rfl))) Via.refl e6 F_scope_a2 (g := (mkF m 22 #[.val (.ref a1), .val (.ref a2), .val (.ref a2)] [(.ref a2), (.ref w5)])) rfl rfl (hb hby d25_22)
  have CE1_a2 := E_a2
  obtain ⟨cq9, kq9, q9a, q9b, q9c⟩ := isOf hZ e8 E_w5
  obtain ⟨_, _, ⟨T9, L9, k9, n9⟩, -, X9, ⟨Lc9, hQ9, l9, y9, z9⟩, st9⟩ := X8.virtualBack hx (y := (⟨"java/lang/String", "equals", "(Ljava/lang/Object;)Z"⟩ : MethodName)) (z := (⟨"java/lang/String", "equals", "(Ljava/lang/Object;)Z"⟩ : MethodName)) hown (mvT hZ (hw _ (List.mem_of_getElem? (i := 125) rfl))) (mvT hZ (hw _ (List.mem_of_getElem? (i := 126) rfl))) (notFace_of_selects (args := #[]) (mvT hZ (hw _ (List.mem_of_getElem? (i := 128) rfl)))) (mvT hZ (hw _ (List.mem_of_getElem? (i := 128) rfl))) (mvT hZ (hw _ (List.mem_of_getElem? (i := 127) rfl))) (by decide) (own_eqS (W := 0) hZ hw Sw5 Sw7 (S_C.ext X00.2) hzc (by decide) (by decide)) q9a q9c (g := (mkF m 25 #[.val (.ref a1), .val (.ref a2), .val (.ref a2)] [(.ref w7), (.ref w5)])) rfl (by rw [hml]; rfl) (Steps.refl _) (argsL := [(.ref w7)]) (rest := []) (lenOf pd_25_22 rfl) rfl (by show 2 * 0 + _ ≤ _; exact Nat.le_of_eq rfl) (hb hby d25_25) (fun _ _ => ⟨rfl, e8, (by decide : 0 + 0 ≤ _), (by decide : 0 + 0 ≤ _)⟩)
  dsimp only [Pt.U, Pt.locs, Pt.cells, Pt.slots] at X9 l9 y9 z9 st9 hQ9
  subst l9 y9 z9
  obtain ⟨hv9, rfl, E9q⟩ := hQ9
  obtain ⟨rfl, -⟩ := hv9.resolve_right (fun q => q.2 q1)
  have K9q : Keep h0 T9.heap [] := by rw [E9q]; exact Keep.refl _ _
  have N9q : Fr n0 ([] : List Loc) := Fr.nil n0
  have Z9 : n0 ≤ T9.heap.size := Nat.le_trans Z0 K9q.1
  have N9 := Fr.app N0 N9q
  obtain ⟨T11, X11, e11, st11⟩ := getF X9 hx hZ hown (host := "") (Or.inl (hw _ (List.mem_of_getElem? (i := 110) rfl))) Via.refl rfl (F_operation_a1.keep K9q nin0) (g := (mkF m 32 #[.val (.ref a1), .val (.ref a2), .val (.ref a2)] [(.ref a1)])) rfl rfl (hb hby d25_32)
  obtain ⟨T13, X13, e13, st13⟩ := getF X11 hx hZ hown (host := "") (Or.inl (hw _ (List.mem_of_getElem? (i := 110) rfl))) Via.refl e11 (F_operation_a2.keep K9q nin0) (g := (mkF m 36 #[.val (.ref a1), .val (.ref a2), .val (.ref a2)] [(.ref a2), (.ref w10)])) rfl rfl (hb hby d25_36)
  have CE2_a2 := (E_a2.keep K9q)
  have CE2_w5 := (E_w5.keep K9q)
  obtain ⟨cq14, kq14, q14a, q14b, q14c⟩ := isOf hZ e13 (E_w10.keep K9q)
  obtain ⟨_, _, ⟨T14, L14, k14, n14⟩, -, X14, ⟨Lc14, hQ14, l14, y14, z14⟩, st14⟩ := X13.virtualBack hx (y := (⟨"java/lang/String", "equals", "(Ljava/lang/Object;)Z"⟩ : MethodName)) (z := (⟨"java/lang/String", "equals", "(Ljava/lang/Object;)Z"⟩ : MethodName)) hown (mvT hZ (hw _ (List.mem_of_getElem? (i := 125) rfl))) (mvT hZ (hw _ (List.mem_of_getElem? (i := 126) rfl))) (notFace_of_selects (args := #[]) (mvT hZ (hw _ (List.mem_of_getElem? (i := 128) rfl)))) (mvT hZ (hw _ (List.mem_of_getElem? (i := 128) rfl))) (mvT hZ (hw _ (List.mem_of_getElem? (i := 127) rfl))) (by decide) (own_eqS (W := 0) hZ hw (own_Str_keep Sw10 K9q) (own_Str_keep Sw12 K9q) (S_C.ext (X00.keep K9q all0).2) hzc (by decide) (by decide)) q14a q14c (g := (mkF m 39 #[.val (.ref a1), .val (.ref a2), .val (.ref a2)] [(.ref w12), (.ref w10)])) rfl (by rw [hml]; rfl) (Steps.refl _) (argsL := [(.ref w12)]) (rest := []) (lenOf pd_25_22 rfl) rfl (by show 2 * 0 + _ ≤ _; exact Nat.le_of_eq rfl) (hb hby d25_39) (fun _ _ => ⟨rfl, e13, (by decide : 0 + 0 ≤ _), (by decide : 0 + 0 ≤ _)⟩)
  dsimp only [Pt.U, Pt.locs, Pt.cells, Pt.slots] at X14 l14 y14 z14 st14 hQ14
  subst l14 y14 z14
  obtain ⟨hv14, rfl, E14q⟩ := hQ14
  obtain ⟨rfl, -⟩ := hv14.resolve_right (fun q => q.2 q2)
  have K14q : Keep T9.heap T14.heap [] := by rw [E14q]; exact Keep.refl _ _
  have N14q : Fr n0 ([] : List Loc) := Fr.nil n0
  have Z14 : n0 ≤ T14.heap.size := Nat.le_trans Z9 K14q.1
  have N14 := Fr.app N9 N14q
  obtain ⟨T16, X16, e16, st16⟩ := getF X14 hx hZ hown (host := "") (Or.inl (hw _ (List.mem_of_getElem? (i := 113) rfl))) Via.refl rfl ((F_key_a1.keep K9q nin0).keep K14q nin0) (g := (mkF m 46 #[.val (.ref a1), .val (.ref a2), .val (.ref a2)] [(.ref a1)])) rfl rfl (hb hby d25_46)
  obtain ⟨T18, X18, e18, st18⟩ := getF X16 hx hZ hown (host := "") (Or.inl (hw _ (List.mem_of_getElem? (i := 113) rfl))) Via.refl e16 ((F_key_a2.keep K9q nin0).keep K14q nin0) (g := (mkF m 50 #[.val (.ref a1), .val (.ref a2), .val (.ref a2)] [(.ref a2), (.ref w15)])) rfl rfl (hb hby d25_50)
  have CE3_a2 := ((E_a2.keep K9q).keep K14q)
  have CE3_w5 := ((E_w5.keep K9q).keep K14q)
  have CE3_w10 := ((E_w10.keep K9q).keep K14q)
  obtain ⟨cq19, kq19, q19a, q19b, q19c⟩ := isOf hZ e18 ((E_w15.keep K9q).keep K14q)
  obtain ⟨_, _, ⟨T19, L19, k19, n19⟩, -, X19, ⟨Lc19, hQ19, l19, y19, z19⟩, st19⟩ := X18.virtualBack hx (y := (⟨"java/lang/String", "equals", "(Ljava/lang/Object;)Z"⟩ : MethodName)) (z := (⟨"java/lang/String", "equals", "(Ljava/lang/Object;)Z"⟩ : MethodName)) hown (mvT hZ (hw _ (List.mem_of_getElem? (i := 125) rfl))) (mvT hZ (hw _ (List.mem_of_getElem? (i := 126) rfl))) (notFace_of_selects (args := #[]) (mvT hZ (hw _ (List.mem_of_getElem? (i := 128) rfl)))) (mvT hZ (hw _ (List.mem_of_getElem? (i := 128) rfl))) (mvT hZ (hw _ (List.mem_of_getElem? (i := 127) rfl))) (by decide) (own_eqS (W := 0) hZ hw (own_Str_keep (own_Str_keep Sw15 K9q) K14q) (own_Str_keep (own_Str_keep Sw17 K9q) K14q) (S_C.ext ((X00.keep K9q all0).keep K14q all0).2) hzc (by decide) (by decide)) q19a q19c (g := (mkF m 53 #[.val (.ref a1), .val (.ref a2), .val (.ref a2)] [(.ref w17), (.ref w15)])) rfl (by rw [hml]; rfl) (Steps.refl _) (argsL := [(.ref w17)]) (rest := []) (lenOf pd_25_22 rfl) rfl (by show 2 * 0 + _ ≤ _; exact Nat.le_of_eq rfl) (hb hby d25_53) (fun _ _ => ⟨rfl, e18, (by decide : 0 + 0 ≤ _), (by decide : 0 + 0 ≤ _)⟩)
  dsimp only [Pt.U, Pt.locs, Pt.cells, Pt.slots] at X19 l19 y19 z19 st19 hQ19
  subst l19 y19 z19
  obtain ⟨hv19, rfl, E19q⟩ := hQ19
  obtain ⟨rfl, -⟩ := hv19.resolve_left (fun q => q3 q.2)
  have K19q : Keep T14.heap T19.heap [] := by rw [E19q]; exact Keep.refl _ _
  have N19q : Fr n0 ([] : List Loc) := Fr.nil n0
  have Z19 : n0 ≤ T19.heap.size := Nat.le_trans Z14 K19q.1
  have N19 := Fr.app N14 N19q
  obtain ⟨fs, hr, hrun, hended, hW, hsame⟩ := X19.leave (v := some (.int (0 : Int32))) (fun h => by rw [Bd.returns] at h; cases h)
  refine ⟨_, _, pre0 _ ?_, hrun, hended, _, _, rfl, ?_, ⟨_, rfl⟩, hW, hsame.mono (by decide) (by decide)⟩
  · show Steps p.tables e below (s₁.setTop (mkF m 0 #[.val (.ref a1), .val (.ref a2), .unset] [])) _
    refine XS.aloadN X0.here hx rfl (hb hby d25_0) rfl rfl ?_
    show Steps p.tables e below (s₁.setTop (mkF m 1 #[.val (.ref a1), .val (.ref a2), .unset] [(.ref a2)])) _
    refine st3 _ ?_
    show Steps p.tables e below (T3.setTop (mkF m 4 #[.val (.ref a1), .val (.ref a2), .unset] [(.int (1 : Int32))])) _
    refine XS.ifNo X3.here hx rfl (hb hby d25_4) rfl ((if0 _ _).trans (feq (by decide : ¬ ((1 : Int32) = (0 : Int32)))).1) ?_
    show Steps p.tables e below (T3.setTop (mkF m 7 #[.val (.ref a1), .val (.ref a2), .unset] [])) _
    refine XS.aloadN X3.here hx rfl (hb hby d25_7) rfl rfl ?_
    show Steps p.tables e below (T3.setTop (mkF m 8 #[.val (.ref a1), .val (.ref a2), .unset] [(.ref a2)])) _
    refine st4 _ ?_
    show Steps p.tables e below (T4.setTop (mkF m 11 #[.val (.ref a1), .val (.ref a2), .unset] [(.ref a2)])) _
    refine XS.astoreN X4.here hx rfl (hb hby d25_11) rfl rfl (l' := #[.val (.ref a1), .val (.ref a2), .val (.ref a2)]) rfl ?_
    show Steps p.tables e below (T4.setTop (mkF m 12 #[.val (.ref a1), .val (.ref a2), .val (.ref a2)] [])) _
    refine XS.goto X4.here hx rfl (pc0 := 12) (pc' := 17) rfl (hb hby d25_12) (by decide) (by decide) ?_
    show Steps p.tables e below (T4.setTop (mkF m 17 #[.val (.ref a1), .val (.ref a2), .val (.ref a2)] [])) _
    refine XS.aloadN X4.here hx rfl (hb hby d25_17) rfl rfl ?_
    show Steps p.tables e below (T4.setTop (mkF m 18 #[.val (.ref a1), .val (.ref a2), .val (.ref a2)] [(.ref a1)])) _
    refine st6 _ ?_
    show Steps p.tables e below (T6.setTop (mkF m 21 #[.val (.ref a1), .val (.ref a2), .val (.ref a2)] [(.ref w5)])) _
    refine XS.aloadN X6.here hx rfl (hb hby d25_21) rfl rfl ?_
    show Steps p.tables e below (T6.setTop (mkF m 22 #[.val (.ref a1), .val (.ref a2), .val (.ref a2)] [(.ref a2), (.ref w5)])) _
    refine st8 _ ?_
    show Steps p.tables e below (T8.setTop (mkF m 25 #[.val (.ref a1), .val (.ref a2), .val (.ref a2)] [(.ref w7), (.ref w5)])) _
    refine st9.trans ?_
    show Steps p.tables e below (T9.setTop (mkF m 28 #[.val (.ref a1), .val (.ref a2), .val (.ref a2)] [(.int (1 : Int32))])) _
    refine XS.ifNo X9.here hx rfl (hb hby d25_28) rfl ((if0 _ _).trans (feq ((by decide) : ¬ ((1 : Int32) = (0 : Int32)))).1) ?_
    show Steps p.tables e below (T9.setTop (mkF m 31 #[.val (.ref a1), .val (.ref a2), .val (.ref a2)] [])) _
    refine XS.aloadN X9.here hx rfl (hb hby d25_31) rfl rfl ?_
    show Steps p.tables e below (T9.setTop (mkF m 32 #[.val (.ref a1), .val (.ref a2), .val (.ref a2)] [(.ref a1)])) _
    refine st11 _ ?_
    show Steps p.tables e below (T11.setTop (mkF m 35 #[.val (.ref a1), .val (.ref a2), .val (.ref a2)] [(.ref w10)])) _
    refine XS.aloadN X11.here hx rfl (hb hby d25_35) rfl rfl ?_
    show Steps p.tables e below (T11.setTop (mkF m 36 #[.val (.ref a1), .val (.ref a2), .val (.ref a2)] [(.ref a2), (.ref w10)])) _
    refine st13 _ ?_
    show Steps p.tables e below (T13.setTop (mkF m 39 #[.val (.ref a1), .val (.ref a2), .val (.ref a2)] [(.ref w12), (.ref w10)])) _
    refine st14.trans ?_
    show Steps p.tables e below (T14.setTop (mkF m 42 #[.val (.ref a1), .val (.ref a2), .val (.ref a2)] [(.int (1 : Int32))])) _
    refine XS.ifNo X14.here hx rfl (hb hby d25_42) rfl ((if0 _ _).trans (feq ((by decide) : ¬ ((1 : Int32) = (0 : Int32)))).1) ?_
    show Steps p.tables e below (T14.setTop (mkF m 45 #[.val (.ref a1), .val (.ref a2), .val (.ref a2)] [])) _
    refine XS.aloadN X14.here hx rfl (hb hby d25_45) rfl rfl ?_
    show Steps p.tables e below (T14.setTop (mkF m 46 #[.val (.ref a1), .val (.ref a2), .val (.ref a2)] [(.ref a1)])) _
    refine st16 _ ?_
    show Steps p.tables e below (T16.setTop (mkF m 49 #[.val (.ref a1), .val (.ref a2), .val (.ref a2)] [(.ref w15)])) _
    refine XS.aloadN X16.here hx rfl (hb hby d25_49) rfl rfl ?_
    show Steps p.tables e below (T16.setTop (mkF m 50 #[.val (.ref a1), .val (.ref a2), .val (.ref a2)] [(.ref a2), (.ref w15)])) _
    refine st18 _ ?_
    show Steps p.tables e below (T18.setTop (mkF m 53 #[.val (.ref a1), .val (.ref a2), .val (.ref a2)] [(.ref w17), (.ref w15)])) _
    refine st19.trans ?_
    show Steps p.tables e below (T19.setTop (mkF m 56 #[.val (.ref a1), .val (.ref a2), .val (.ref a2)] [(.int (0 : Int32))])) _
    refine XS.ifYes X19.here hx rfl (pc0 := 56) (pc' := 63) rfl (hb hby d25_56) rfl ((if0 _ _).trans (teq (rfl : (0 : Int32) = (0 : Int32))).1) (by decide) (by decide) ?_
    show Steps p.tables e below (T19.setTop (mkF m 63 #[.val (.ref a1), .val (.ref a2), .val (.ref a2)] [])) _
    refine XS.iconst X19.here hx rfl (hb hby d25_63) ?_
    show Steps p.tables e below (T19.setTop (mkF m 64 #[.val (.ref a1), .val (.ref a2), .val (.ref a2)] [(.int (0 : Int32))])) _
    exact retN X19 hx (t := .boolean) Bd.returns (by simp) (hb hby d25_64) hr
  · show Q25 c1 c2 c3 d1 d2 d3 h0 n0 _ T19.heap _
    exact ⟨congrArg (fun z => some (Value.int z)) ((if_neg (fun z => q3 z.2.2)).symm), N19, E19q.trans (E14q.trans E9q)⟩
theorem d25_59 : decode prog_5_method_6_code 59 = .ok (.iconst 1, 1) := by decide +kernel
theorem d25_60 : decode prog_5_method_6_code 60 = .ok (.goto 4, 3) := by decide +kernel
set_option maxRecDepth 65536 in
set_option maxHeartbeats 40000000 in
theorem rm25d (l : Launch) (Z : State) (a0 : Array Value) (hw : ∀ d ∈ tables_1, d.before a0 Z = true) (ws : List Jvm.Cond) (a1 : Addr) (a2 : Addr) (w5 : Addr) (w7 : Addr) (w10 : Addr) (w12 : Addr) (w15 : Addr) (w17 : Addr) (h0 : Heap) (n0 : Nat) (Z0 : n0 ≤ h0.size) (E_a2 : Exa Z h0 a2 "com/example/nto1/nto1/Identity") (F_scope_a1 : Fld Z h0 a1 "com/example/nto1/nto1/Identity" "scope" "Ljava/lang/String;" (.ref w5)) (F_scope_a2 : Fld Z h0 a2 "com/example/nto1/nto1/Identity" "scope" "Ljava/lang/String;" (.ref w7)) (F_operation_a1 : Fld Z h0 a1 "com/example/nto1/nto1/Identity" "operation" "Ljava/lang/String;" (.ref w10)) (F_operation_a2 : Fld Z h0 a2 "com/example/nto1/nto1/Identity" "operation" "Ljava/lang/String;" (.ref w12)) (F_key_a1 : Fld Z h0 a1 "com/example/nto1/nto1/Identity" "key" "Ljava/lang/String;" (.ref w15)) (F_key_a2 : Fld Z h0 a2 "com/example/nto1/nto1/Identity" "key" "Ljava/lang/String;" (.ref w17)) (c1 c2 c3 d1 d2 d3 : List Int32) (zc : Int32) (Sw5 : own_Str Z h0 w5 c1) (Sw7 : own_Str Z h0 w7 d1) (Sw10 : own_Str Z h0 w10 c2) (Sw12 : own_Str Z h0 w12 d2) (Sw15 : own_Str Z h0 w15 c3) (Sw17 : own_Str Z h0 w17 d3) (S_C : Sta Z Z.heap "java/lang/String" "COMPACT_STRINGS" "Z" (.int zc)) (hzc : ¬ zc = 0) (X00 : Old Z n0 h0) (q1 : c1 = d1) (q2 : c2 = d2) (q3 : c3 = d3) :
    MetFree l (⟨"com/example/nto1/nto1/Identity", "equals", "(Ljava/lang/Object;)Z"⟩ : MethodName) (head1 (Jvm.Cond.code (⟨"com/example/nto1/nto1/Identity", "equals", "(Ljava/lang/Object;)Z"⟩ : MethodName) prog_5_method_6_code 3 (some .boolean) :: ws) ({ frames := 2, cells := 0, slots := 0, locals := 28 } : Room)) (fun a U => a = #[(.ref a1), (.ref a2)] ∧ Z.Warmed39 U.vm ∧ U.heap = h0) (fun _ _ _ _ _ => True) (fun _ U o U' => ∃ v L, o = .returned v ∧ Q25 c1 c2 c3 d1 d2 d3 h0 n0 v U'.heap L ∧ FrameEnd U o U' L ({ frames := 2, cells := 0, slots := 0, locals := 28 } : Room).cells ({ frames := 2, cells := 0, slots := 0, locals := 28 } : Room).slots) := by
  refine MetFree.of_bodySF (plainFor_of_name pn_25) hisR ?_
  intro p e s m args below meth c s₁ Bd hml0 hP hK
  obtain ⟨rfl, hZ, hh⟩ := hP
  have hx := Bd.exec
  have hby := Bd.bytes
  have hml : c.maxLocals = 3 := hml0
  have hown : s.vm.findClass "com/example/nto1/nto1/Identity" = some m.cls := findClass_of_methodNamed Bd.named
  have hnm := (name_of_methodNamed Bd.named Bd.method).1
  have X0 : Stand p l e ({ frames := 2, cells := 0, slots := 0, locals := 28 } : Room) s m #[(.ref a1), (.ref a2)] below meth c s₁ [] 0 0 := Stand.of_body Bd
  have e0 : s₁.heap = h0 := by rw [← hh, Bd.state]; rfl
  have N0 := Fr.nil n0
  have E_w5 := own_Str_exa Sw5
  have E_w10 := own_Str_exa Sw10
  have E_w15 := own_Str_exa Sw15
  have pre0 : ∀ t, Steps p.tables e below (s₁.setTop (mkF m 0 #[.val (.ref a1), .val (.ref a2), .unset] [])) t → Steps p.tables e below (s₁.setTop (entryFrame m #[(.ref a1), (.ref a2)] 3)) t := fun t k => castTop (ef_25 m a1 a2) k
  obtain ⟨T3, X3, e3, st3⟩ := instY X0 hx hZ hown (hw _ (List.mem_of_getElem? (i := 123) rfl)) e0 (Ins.self E_a2) (g := (mkF m 1 #[.val (.ref a1), .val (.ref a2), .unset] [(.ref a2)])) rfl rfl (hb hby d25_1)
  obtain ⟨T4, X4, e4, st4⟩ := castY X3 hx hZ hown (hw _ (List.mem_of_getElem? (i := 123) rfl)) e3 (Ins.self E_a2) (g := (mkF m 8 #[.val (.ref a1), .val (.ref a2), .unset] [(.ref a2)])) rfl rfl (hb hby d25_8)
  obtain ⟨T6, X6, e6, st6⟩ := getF X4 hx hZ hown (host := "") (Or.inl (hw _ (List.mem_of_getElem? (i := 86) rfl))) Via.refl e4 F_scope_a1 (g := (mkF m 18 #[.val (.ref a1), .val (.ref a2), .val (.ref a2)] [(.ref a1)])) rfl rfl (hb hby d25_18)
  obtain ⟨T8, X8, e8, st8⟩ := getF X6 hx hZ hown (host := "") (Or.inl (hw _ (List.mem_of_getElem? (i := 86) rfl))) Via.refl e6 F_scope_a2 (g := (mkF m 22 #[.val (.ref a1), .val (.ref a2), .val (.ref a2)] [(.ref a2), (.ref w5)])) rfl rfl (hb hby d25_22)
  have CE1_a2 := E_a2
  obtain ⟨cq9, kq9, q9a, q9b, q9c⟩ := isOf hZ e8 E_w5
  obtain ⟨_, _, ⟨T9, L9, k9, n9⟩, -, X9, ⟨Lc9, hQ9, l9, y9, z9⟩, st9⟩ := X8.virtualBack hx (y := (⟨"java/lang/String", "equals", "(Ljava/lang/Object;)Z"⟩ : MethodName)) (z := (⟨"java/lang/String", "equals", "(Ljava/lang/Object;)Z"⟩ : MethodName)) hown (mvT hZ (hw _ (List.mem_of_getElem? (i := 125) rfl))) (mvT hZ (hw _ (List.mem_of_getElem? (i := 126) rfl))) (notFace_of_selects (args := #[]) (mvT hZ (hw _ (List.mem_of_getElem? (i := 128) rfl)))) (mvT hZ (hw _ (List.mem_of_getElem? (i := 128) rfl))) (mvT hZ (hw _ (List.mem_of_getElem? (i := 127) rfl))) (by decide) (own_eqS (W := 0) hZ hw Sw5 Sw7 (S_C.ext X00.2) hzc (by decide) (by decide)) q9a q9c (g := (mkF m 25 #[.val (.ref a1), .val (.ref a2), .val (.ref a2)] [(.ref w7), (.ref w5)])) rfl (by rw [hml]; rfl) (Steps.refl _) (argsL := [(.ref w7)]) (rest := []) (lenOf pd_25_22 rfl) rfl (by show 2 * 0 + _ ≤ _; exact Nat.le_of_eq rfl) (hb hby d25_25) (fun _ _ => ⟨rfl, e8, (by decide : 0 + 0 ≤ _), (by decide : 0 + 0 ≤ _)⟩)
  dsimp only [Pt.U, Pt.locs, Pt.cells, Pt.slots] at X9 l9 y9 z9 st9 hQ9
  subst l9 y9 z9
  obtain ⟨hv9, rfl, E9q⟩ := hQ9
  obtain ⟨rfl, -⟩ := hv9.resolve_right (fun q => q.2 q1)
  have K9q : Keep h0 T9.heap [] := by rw [E9q]; exact Keep.refl _ _
  have N9q : Fr n0 ([] : List Loc) := Fr.nil n0
  have Z9 : n0 ≤ T9.heap.size := Nat.le_trans Z0 K9q.1
  have N9 := Fr.app N0 N9q
  obtain ⟨T11, X11, e11, st11⟩ := getF X9 hx hZ hown (host := "") (Or.inl (hw _ (List.mem_of_getElem? (i := 110) rfl))) Via.refl rfl (F_operation_a1.keep K9q nin0) (g := (mkF m 32 #[.val (.ref a1), .val (.ref a2), .val (.ref a2)] [(.ref a1)])) rfl rfl (hb hby d25_32)
  obtain ⟨T13, X13, e13, st13⟩ := getF X11 hx hZ hown (host := "") (Or.inl (hw _ (List.mem_of_getElem? (i := 110) rfl))) Via.refl e11 (F_operation_a2.keep K9q nin0) (g := (mkF m 36 #[.val (.ref a1), .val (.ref a2), .val (.ref a2)] [(.ref a2), (.ref w10)])) rfl rfl (hb hby d25_36)
  have CE2_a2 := (E_a2.keep K9q)
  have CE2_w5 := (E_w5.keep K9q)
  obtain ⟨cq14, kq14, q14a, q14b, q14c⟩ := isOf hZ e13 (E_w10.keep K9q)
  obtain ⟨_, _, ⟨T14, L14, k14, n14⟩, -, X14, ⟨Lc14, hQ14, l14, y14, z14⟩, st14⟩ := X13.virtualBack hx (y := (⟨"java/lang/String", "equals", "(Ljava/lang/Object;)Z"⟩ : MethodName)) (z := (⟨"java/lang/String", "equals", "(Ljava/lang/Object;)Z"⟩ : MethodName)) hown (mvT hZ (hw _ (List.mem_of_getElem? (i := 125) rfl))) (mvT hZ (hw _ (List.mem_of_getElem? (i := 126) rfl))) (notFace_of_selects (args := #[]) (mvT hZ (hw _ (List.mem_of_getElem? (i := 128) rfl)))) (mvT hZ (hw _ (List.mem_of_getElem? (i := 128) rfl))) (mvT hZ (hw _ (List.mem_of_getElem? (i := 127) rfl))) (by decide) (own_eqS (W := 0) hZ hw (own_Str_keep Sw10 K9q) (own_Str_keep Sw12 K9q) (S_C.ext (X00.keep K9q all0).2) hzc (by decide) (by decide)) q14a q14c (g := (mkF m 39 #[.val (.ref a1), .val (.ref a2), .val (.ref a2)] [(.ref w12), (.ref w10)])) rfl (by rw [hml]; rfl) (Steps.refl _) (argsL := [(.ref w12)]) (rest := []) (lenOf pd_25_22 rfl) rfl (by show 2 * 0 + _ ≤ _; exact Nat.le_of_eq rfl) (hb hby d25_39) (fun _ _ => ⟨rfl, e13, (by decide : 0 + 0 ≤ _), (by decide : 0 + 0 ≤ _)⟩)
  dsimp only [Pt.U, Pt.locs, Pt.cells, Pt.slots] at X14 l14 y14 z14 st14 hQ14
  subst l14 y14 z14
  obtain ⟨hv14, rfl, E14q⟩ := hQ14
  obtain ⟨rfl, -⟩ := hv14.resolve_right (fun q => q.2 q2)
  have K14q : Keep T9.heap T14.heap [] := by rw [E14q]; exact Keep.refl _ _
  have N14q : Fr n0 ([] : List Loc) := Fr.nil n0
  have Z14 : n0 ≤ T14.heap.size := Nat.le_trans Z9 K14q.1
  have N14 := Fr.app N9 N14q
  obtain ⟨T16, X16, e16, st16⟩ := getF X14 hx hZ hown (host := "") (Or.inl (hw _ (List.mem_of_getElem? (i := 113) rfl))) Via.refl rfl ((F_key_a1.keep K9q nin0).keep K14q nin0) (g := (mkF m 46 #[.val (.ref a1), .val (.ref a2), .val (.ref a2)] [(.ref a1)])) rfl rfl (hb hby d25_46)
  obtain ⟨T18, X18, e18, st18⟩ := getF X16 hx hZ hown (host := "") (Or.inl (hw _ (List.mem_of_getElem? (i := 113) rfl))) Via.refl e16 ((F_key_a2.keep K9q nin0).keep K14q nin0) (g := (mkF m 50 #[.val (.ref a1), .val (.ref a2), .val (.ref a2)] [(.ref a2), (.ref w15)])) rfl rfl (hb hby d25_50)
  have CE3_a2 := ((E_a2.keep K9q).keep K14q)
  have CE3_w5 := ((E_w5.keep K9q).keep K14q)
  have CE3_w10 := ((E_w10.keep K9q).keep K14q)
  obtain ⟨cq19, kq19, q19a, q19b, q19c⟩ := isOf hZ e18 ((E_w15.keep K9q).keep K14q)
  obtain ⟨_, _, ⟨T19, L19, k19, n19⟩, -, X19, ⟨Lc19, hQ19, l19, y19, z19⟩, st19⟩ := X18.virtualBack hx (y := (⟨"java/lang/String", "equals", "(Ljava/lang/Object;)Z"⟩ : MethodName)) (z := (⟨"java/lang/String", "equals", "(Ljava/lang/Object;)Z"⟩ : MethodName)) hown (mvT hZ (hw _ (List.mem_of_getElem? (i := 125) rfl))) (mvT hZ (hw _ (List.mem_of_getElem? (i := 126) rfl))) (notFace_of_selects (args := #[]) (mvT hZ (hw _ (List.mem_of_getElem? (i := 128) rfl)))) (mvT hZ (hw _ (List.mem_of_getElem? (i := 128) rfl))) (mvT hZ (hw _ (List.mem_of_getElem? (i := 127) rfl))) (by decide) (own_eqS (W := 0) hZ hw (own_Str_keep (own_Str_keep Sw15 K9q) K14q) (own_Str_keep (own_Str_keep Sw17 K9q) K14q) (S_C.ext ((X00.keep K9q all0).keep K14q all0).2) hzc (by decide) (by decide)) q19a q19c (g := (mkF m 53 #[.val (.ref a1), .val (.ref a2), .val (.ref a2)] [(.ref w17), (.ref w15)])) rfl (by rw [hml]; rfl) (Steps.refl _) (argsL := [(.ref w17)]) (rest := []) (lenOf pd_25_22 rfl) rfl (by show 2 * 0 + _ ≤ _; exact Nat.le_of_eq rfl) (hb hby d25_53) (fun _ _ => ⟨rfl, e18, (by decide : 0 + 0 ≤ _), (by decide : 0 + 0 ≤ _)⟩)
  dsimp only [Pt.U, Pt.locs, Pt.cells, Pt.slots] at X19 l19 y19 z19 st19 hQ19
  subst l19 y19 z19
  obtain ⟨hv19, rfl, E19q⟩ := hQ19
  obtain ⟨rfl, -⟩ := hv19.resolve_right (fun q => q.2 q3)
  have K19q : Keep T14.heap T19.heap [] := by rw [E19q]; exact Keep.refl _ _
  have N19q : Fr n0 ([] : List Loc) := Fr.nil n0
  have Z19 : n0 ≤ T19.heap.size := Nat.le_trans Z14 K19q.1
  have N19 := Fr.app N14 N19q
  obtain ⟨fs, hr, hrun, hended, hW, hsame⟩ := X19.leave (v := some (.int (1 : Int32))) (fun h => by rw [Bd.returns] at h; cases h)
  refine ⟨_, _, pre0 _ ?_, hrun, hended, _, _, rfl, ?_, ⟨_, rfl⟩, hW, hsame.mono (by decide) (by decide)⟩
  · show Steps p.tables e below (s₁.setTop (mkF m 0 #[.val (.ref a1), .val (.ref a2), .unset] [])) _
    refine XS.aloadN X0.here hx rfl (hb hby d25_0) rfl rfl ?_
    show Steps p.tables e below (s₁.setTop (mkF m 1 #[.val (.ref a1), .val (.ref a2), .unset] [(.ref a2)])) _
    refine st3 _ ?_
    show Steps p.tables e below (T3.setTop (mkF m 4 #[.val (.ref a1), .val (.ref a2), .unset] [(.int (1 : Int32))])) _
    refine XS.ifNo X3.here hx rfl (hb hby d25_4) rfl ((if0 _ _).trans (feq (by decide : ¬ ((1 : Int32) = (0 : Int32)))).1) ?_
    show Steps p.tables e below (T3.setTop (mkF m 7 #[.val (.ref a1), .val (.ref a2), .unset] [])) _
    refine XS.aloadN X3.here hx rfl (hb hby d25_7) rfl rfl ?_
    show Steps p.tables e below (T3.setTop (mkF m 8 #[.val (.ref a1), .val (.ref a2), .unset] [(.ref a2)])) _
    refine st4 _ ?_
    show Steps p.tables e below (T4.setTop (mkF m 11 #[.val (.ref a1), .val (.ref a2), .unset] [(.ref a2)])) _
    refine XS.astoreN X4.here hx rfl (hb hby d25_11) rfl rfl (l' := #[.val (.ref a1), .val (.ref a2), .val (.ref a2)]) rfl ?_
    show Steps p.tables e below (T4.setTop (mkF m 12 #[.val (.ref a1), .val (.ref a2), .val (.ref a2)] [])) _
    refine XS.goto X4.here hx rfl (pc0 := 12) (pc' := 17) rfl (hb hby d25_12) (by decide) (by decide) ?_
    show Steps p.tables e below (T4.setTop (mkF m 17 #[.val (.ref a1), .val (.ref a2), .val (.ref a2)] [])) _
    refine XS.aloadN X4.here hx rfl (hb hby d25_17) rfl rfl ?_
    show Steps p.tables e below (T4.setTop (mkF m 18 #[.val (.ref a1), .val (.ref a2), .val (.ref a2)] [(.ref a1)])) _
    refine st6 _ ?_
    show Steps p.tables e below (T6.setTop (mkF m 21 #[.val (.ref a1), .val (.ref a2), .val (.ref a2)] [(.ref w5)])) _
    refine XS.aloadN X6.here hx rfl (hb hby d25_21) rfl rfl ?_
    show Steps p.tables e below (T6.setTop (mkF m 22 #[.val (.ref a1), .val (.ref a2), .val (.ref a2)] [(.ref a2), (.ref w5)])) _
    refine st8 _ ?_
    show Steps p.tables e below (T8.setTop (mkF m 25 #[.val (.ref a1), .val (.ref a2), .val (.ref a2)] [(.ref w7), (.ref w5)])) _
    refine st9.trans ?_
    show Steps p.tables e below (T9.setTop (mkF m 28 #[.val (.ref a1), .val (.ref a2), .val (.ref a2)] [(.int (1 : Int32))])) _
    refine XS.ifNo X9.here hx rfl (hb hby d25_28) rfl ((if0 _ _).trans (feq ((by decide) : ¬ ((1 : Int32) = (0 : Int32)))).1) ?_
    show Steps p.tables e below (T9.setTop (mkF m 31 #[.val (.ref a1), .val (.ref a2), .val (.ref a2)] [])) _
    refine XS.aloadN X9.here hx rfl (hb hby d25_31) rfl rfl ?_
    show Steps p.tables e below (T9.setTop (mkF m 32 #[.val (.ref a1), .val (.ref a2), .val (.ref a2)] [(.ref a1)])) _
    refine st11 _ ?_
    show Steps p.tables e below (T11.setTop (mkF m 35 #[.val (.ref a1), .val (.ref a2), .val (.ref a2)] [(.ref w10)])) _
    refine XS.aloadN X11.here hx rfl (hb hby d25_35) rfl rfl ?_
    show Steps p.tables e below (T11.setTop (mkF m 36 #[.val (.ref a1), .val (.ref a2), .val (.ref a2)] [(.ref a2), (.ref w10)])) _
    refine st13 _ ?_
    show Steps p.tables e below (T13.setTop (mkF m 39 #[.val (.ref a1), .val (.ref a2), .val (.ref a2)] [(.ref w12), (.ref w10)])) _
    refine st14.trans ?_
    show Steps p.tables e below (T14.setTop (mkF m 42 #[.val (.ref a1), .val (.ref a2), .val (.ref a2)] [(.int (1 : Int32))])) _
    refine XS.ifNo X14.here hx rfl (hb hby d25_42) rfl ((if0 _ _).trans (feq ((by decide) : ¬ ((1 : Int32) = (0 : Int32)))).1) ?_
    show Steps p.tables e below (T14.setTop (mkF m 45 #[.val (.ref a1), .val (.ref a2), .val (.ref a2)] [])) _
    refine XS.aloadN X14.here hx rfl (hb hby d25_45) rfl rfl ?_
    show Steps p.tables e below (T14.setTop (mkF m 46 #[.val (.ref a1), .val (.ref a2), .val (.ref a2)] [(.ref a1)])) _
    refine st16 _ ?_
    show Steps p.tables e below (T16.setTop (mkF m 49 #[.val (.ref a1), .val (.ref a2), .val (.ref a2)] [(.ref w15)])) _
    refine XS.aloadN X16.here hx rfl (hb hby d25_49) rfl rfl ?_
    show Steps p.tables e below (T16.setTop (mkF m 50 #[.val (.ref a1), .val (.ref a2), .val (.ref a2)] [(.ref a2), (.ref w15)])) _
    refine st18 _ ?_
    show Steps p.tables e below (T18.setTop (mkF m 53 #[.val (.ref a1), .val (.ref a2), .val (.ref a2)] [(.ref w17), (.ref w15)])) _
    refine st19.trans ?_
    show Steps p.tables e below (T19.setTop (mkF m 56 #[.val (.ref a1), .val (.ref a2), .val (.ref a2)] [(.int (1 : Int32))])) _
    refine XS.ifNo X19.here hx rfl (hb hby d25_56) rfl ((if0 _ _).trans (feq ((by decide) : ¬ ((1 : Int32) = (0 : Int32)))).1) ?_
    show Steps p.tables e below (T19.setTop (mkF m 59 #[.val (.ref a1), .val (.ref a2), .val (.ref a2)] [])) _
    refine XS.iconst X19.here hx rfl (hb hby d25_59) ?_
    show Steps p.tables e below (T19.setTop (mkF m 60 #[.val (.ref a1), .val (.ref a2), .val (.ref a2)] [(.int (1 : Int32))])) _
    refine XS.goto X19.here hx rfl (pc0 := 60) (pc' := 64) rfl (hb hby d25_60) (by decide) (by decide) ?_
    show Steps p.tables e below (T19.setTop (mkF m 64 #[.val (.ref a1), .val (.ref a2), .val (.ref a2)] [(.int (1 : Int32))])) _
    exact retN X19 hx (t := .boolean) Bd.returns (by simp) (hb hby d25_64) hr
  · show Q25 c1 c2 c3 d1 d2 d3 h0 n0 _ T19.heap _
    exact ⟨congrArg (fun z => some (Value.int z)) ((if_pos ⟨q1, q2, q3⟩).symm), N19, E19q.trans (E14q.trans E9q)⟩
theorem rm25 (l : Launch) (Z : State) (a0 : Array Value) (hw : ∀ d ∈ tables_1, d.before a0 Z = true) (ws : List Jvm.Cond) (a1 a2 : Addr) (c1 c2 c3 d1 d2 d3 : List Int32) (zc : Int32) (h0 : Heap) (n0 : Nat) (Z0 : n0 ≤ h0.size) (I1 : own_Id Z h0 a1 c1 c2 c3) (I2 : own_Id Z h0 a2 d1 d2 d3) (S_C : Sta Z Z.heap "java/lang/String" "COMPACT_STRINGS" "Z" (.int zc)) (hzc : ¬ zc = 0) (X00 : Old Z n0 h0) : MetFree l (⟨"com/example/nto1/nto1/Identity", "equals", "(Ljava/lang/Object;)Z"⟩ : MethodName) (head1 (Jvm.Cond.code (⟨"com/example/nto1/nto1/Identity", "equals", "(Ljava/lang/Object;)Z"⟩ : MethodName) prog_5_method_6_code 3 (some .boolean) :: ws) ({ frames := 2, cells := 0, slots := 0, locals := 28 } : Room)) (fun a U => a = #[(.ref a1), (.ref a2)] ∧ Z.Warmed39 U.vm ∧ U.heap = h0) (fun _ _ _ _ _ => True) (fun _ U o U' => ∃ v L, o = .returned v ∧ Q25 c1 c2 c3 d1 d2 d3 h0 n0 v U'.heap L ∧ FrameEnd U o U' L ({ frames := 2, cells := 0, slots := 0, locals := 28 } : Room).cells ({ frames := 2, cells := 0, slots := 0, locals := 28 } : Room).slots) := by
  obtain ⟨r1, r2, r3, e, f1, f2, f3, s1, s2, s3⟩ := I1
  obtain ⟨t1, t2, t3, e', g1, g2, g3, u1, u2, u3⟩ := I2
  by_cases q1 : c1 = d1
  · by_cases q2 : c2 = d2
    · by_cases q3 : c3 = d3
      · exact rm25d l Z a0 hw ws a1 a2 r1 t1 r2 t2 r3 t3 h0 n0 Z0 e' f1 g1 f2 g2 f3 g3 c1 c2 c3 d1 d2 d3 zc s1 u1 s2 u2 s3 u3 S_C hzc X00 q1 q2 q3
      · exact rm25c l Z a0 hw ws a1 a2 r1 t1 r2 t2 r3 t3 h0 n0 Z0 e' f1 g1 f2 g2 f3 g3 c1 c2 c3 d1 d2 d3 zc s1 u1 s2 u2 s3 u3 S_C hzc X00 q1 q2 q3
    · exact rm25b l Z a0 hw ws a1 a2 r1 t1 r2 t2 h0 n0 Z0 e' f1 g1 f2 g2 c1 c2 c3 d1 d2 d3 zc s1 u1 s2 u2 S_C hzc X00 q1 q2
  · exact rm25a l Z a0 hw ws a1 a2 r1 t1 h0 n0 Z0 e' f1 g1 c1 c2 c3 d1 d2 d3 zc s1 u1 S_C hzc X00 q1
theorem own_part_pos {p : Int32} (h : own_b p) : 1 ≤ (own_part p 1).length := by
  unfold own_part
  rw [if_neg (own_len1' h)]
  split
  · exact Nat.le_of_ble_eq_true rfl
  · split <;> exact Nat.le_of_ble_eq_true rfl
theorem own_and255 (p : Int32) : own_b (p &&& (255 : Int32)) := by
  have h1 := (c_and p 255) (by decide)
  have e : (255 : Int32).toInt = 255 := by decide
  exact ⟨by omega, by omega⟩
theorem own_b_ite {c : Prop} [Decidable c] {x y : Int32} (hx : own_b x) (hy : own_b y) : own_b (if c then x else y) := by
  split
  · exact hx
  · exact hy
theorem pd_0_0 : parseMethodDescriptor "(II)Ljava/lang/String;" = some ⟨[.int, .int], some (.object "java/lang/String")⟩ := by decide +kernel
theorem pd_0_9 : parseMethodDescriptor "(Ljava/lang/String;Ljava/lang/String;Ljava/lang/String;)V" = some ⟨[(.object "java/lang/String"), (.object "java/lang/String"), (.object "java/lang/String")], none⟩ := by decide +kernel
theorem os0_116 {s0 : Slot} {s1 : Slot} {s2 : Slot} {z3 : Value} {z4 : Value} {z5 : Value} {s6 : Slot} {s7 : Slot} {s8 : Slot} {s9 : Slot} {s10 : Slot} {s11 : Slot} {s12 : Slot} {v : Addr} (h : One s10) : storeLocals #[s0, s1, s2, .val z3, .val z4, .val z5, s6, s7, s8, s9, s10, s11, s12] 10 (.ref v) = some #[s0, s1, s2, .val z3, .val z4, .val z5, s6, s7, s8, s9, .val (.ref v), s11, s12] := by
  rcases h with rfl | ⟨w, rfl, hw⟩
  · rfl
  · cases w <;> first | rfl | (simp [Value.category] at hw)
set_option maxRecDepth 65536 in
set_option maxHeartbeats 40000000 in
theorem pi92 {p : Program} {l : Launch} {e : Env} {s : State} {vm0 : Vm} {k0 : Nat} {m : MethodId} {args : Array Value} {below : List Frame} {meth : Method} {c : Code} {T0 : State} {locs : List Loc} {cells slots : Nat} {Z : State} {a0 : Array Value} {h0 : Heap} (s0 : Slot) (s1 : Slot) (s2 : Slot) (i3 : Int32) (i4 : Int32) (i5 : Int32) (s6 : Slot) (s7 : Slot) (s8 : Slot) (s9 : Slot) (s10 : Slot) (s11 : Slot) (s12 : Slot) (zc : Int32) (wf : Value) (n0 : Nat)
    (X0 : Stand p l e room_1 (s.setVm vm0) m args below meth c T0 locs cells slots) (hx : p.tables.exec = Jvm.exec) (hZ : Z.Warmed39 vm0) (hw : ∀ d ∈ tables_1, d.before a0 Z = true) (hby : c.code = code) (hml : c.maxLocals = 13) (hown : vm0.findClass "com/example/nto1/nto1/IdentityEqualsPinLaw" = some m.cls) (e0 : T0.heap = h0) (hS : s.Since vm0 k0) (hk : k0 ≤ h0.size) (H0 : CHv Z consts_1 vm0 h0) (Z0 : n0 ≤ h0.size) (N0 : Fr n0 locs) (S_C : Sta Z Z.heap "java/lang/String" "COMPACT_STRINGS" "Z" (.int zc)) (hzc : ¬ zc = 0) (X00 : Old Z n0 h0) (S_F : Sta Z Z.heap "jdk/internal/util/Preconditions" "SIOOBE_FORMATTER" "Ljava/util/function/BiFunction;" wf) (hwf : wf.isRef = true) (hbo : own_b i4) (hbk : own_b i5) (hcl : cells + 16 ≤ 56) (hsl : slots + 113 ≤ 4352) (hs10 : One s10) :
    ∃ (T' : State) (h' : Heap) (locs' : List Loc) (b4 : Addr), Stand p l e room_1 (s.setVm T'.vm) m args below meth c T' locs' (cells + 16) (slots + 113) ∧ T'.heap = h' ∧ s.Since T'.vm h'.size ∧ Z.Warmed39 T'.vm ∧ T'.vm.findClass "com/example/nto1/nto1/IdentityEqualsPinLaw" = some m.cls ∧ CHv Z consts_1 T'.vm h' ∧ Fr n0 locs' ∧ Keep h0 h' [] ∧ own_Id Z h' b4 (own_part i3 0) (own_part i4 1) (own_part i5 1) ∧
      ∀ target, Steps p.tables e below (T'.setTop (mkF m 118 #[s0, s1, s2, .val (.int i3), .val (.int i4), .val (.int i5), s6, s7, s8, s9, .val (.ref b4), s11, s12] [])) target → Steps p.tables e below (T0.setTop (mkF m 92 #[s0, s1, s2, .val (.int i3), .val (.int i4), .val (.int i5), s6, s7, s8, s9, s10, s11, s12] [])) target := by
  have hEL := own_EL hw
  obtain ⟨T4, h4, X4, e4, E4, A4, D4, -, st4⟩ := newO X0 hx hZ hown (hw _ (List.mem_of_getElem? (i := 0) rfl)) (hw _ (List.mem_of_getElem? (i := 1) rfl)) (hw _ (List.mem_of_getElem? (i := 2) rfl)) e0 (g := (mkF m 92 #[s0, s1, s2, .val (.int i3), .val (.int i4), .val (.int i5), s6, s7, s8, s9, s10, s11, s12] [])) rfl (hb hby at_92) (by show cells + 1 ≤ 56; omega) (by show slots + 3 ≤ 4352; omega)
  obtain ⟨b4, g4⟩ : ∃ z, z = h0.size := ⟨_, rfl⟩      -- the fresh object's address
  have Z4 : n0 ≤ h4.size := Nat.le_trans Z0 E4.1
  rw [← g4] at A4 D4 st4      -- A4 : Exa Z h4 b4 "com/example/nto1/nto1/Identity"; E4 : Ext h0 h4 (carries every older fact: .ext E4)
  have F_scope_b4 : Fld Z h4 b4 "com/example/nto1/nto1/Identity" "scope" "Ljava/lang/String;" .null := D4 (Or.inr (hw _ (List.mem_of_getElem? (i := 87) rfl))) (ty := (.object "java/lang/String")) (by decide)
  have F_operation_b4 : Fld Z h4 b4 "com/example/nto1/nto1/Identity" "operation" "Ljava/lang/String;" .null := D4 (Or.inr (hw _ (List.mem_of_getElem? (i := 111) rfl))) (ty := (.object "java/lang/String")) (by decide)
  have F_key_b4 : Fld Z h4 b4 "com/example/nto1/nto1/Identity" "key" "Ljava/lang/String;" .null := D4 (Or.inr (hw _ (List.mem_of_getElem? (i := 114) rfl))) (ty := (.object "java/lang/String")) (by decide)
  have E_b4 := A4
  have g_b4 : n0 ≤ b4 := Nat.le_trans Z0 (Nat.le_of_eq g4.symm)
  have sz_b4 : h0.size ≤ b4 := (Nat.le_trans (Keep.refl h0 []).1 (Nat.le_of_eq g4.symm))
  have K4 : Keep h0 h4 [] := (Keep.refl h0 []).ext E4
  have CE1_b4 := E_b4
  obtain ⟨_, _, ⟨T5, L5, k5, n5⟩, -, X5, hS5, hg5, ⟨Lc5, hQ5, l5, y5, z5, CH5⟩, st5⟩ := callSS X4 hx (y := (⟨"com/example/nto1/nto1/IdentityEqualsPinLaw", "part", "(II)Ljava/lang/String;"⟩ : MethodName)) hown (mvT hZ (hw _ (List.mem_of_getElem? (i := 3) rfl))) (mvT hZ (hw _ (List.mem_of_getElem? (i := 4) rfl))) (mvT hZ (hw _ (List.mem_of_getElem? (i := 5) rfl))) (mvT hZ (hw _ (List.mem_of_getElem? (i := 6) rfl))) (by decide) (own_backSH (W := 2) (EL := consts_1) (fun _ => True) (rm1 l Z a0 hw [] i3 (0 : Int32) h4 n0 Z4 zc S_C hzc (X00.ext E4)) hZ (hw _ (List.mem_of_getElem? (i := 6) rfl)) (hw _ (List.mem_of_getElem? (i := 5) rfl)) (by decide) (by decide) hEL (H0.ext E4) (fun _ _ => trivial)) (g := (mkF m 98 #[s0, s1, s2, .val (.int i3), .val (.int i4), .val (.int i5), s6, s7, s8, s9, s10, s11, s12] [(.int (0 : Int32)), (.int i3), (.ref b4), (.ref b4)])) rfl (by rw [hml]; rfl) (argsL := [(.int i3), (.int (0 : Int32))]) (rest := [(.ref b4), (.ref b4)]) (lenOf pd_0_0 rfl) rfl (by show 2 * 0 + _ ≤ _; exact Nat.le_of_eq rfl) (hb hby at_98) (fun _ _ => ⟨rfl, e4, (by show cells + 4 ≤ 56; omega), (by show slots + 13 ≤ 4352; omega)⟩)
  dsimp only [Pt.U, Pt.locs, Pt.cells, Pt.slots] at X5 hS5 hg5 l5 y5 z5 st5 hQ5 CH5
  subst l5 y5 z5
  obtain ⟨X5, hS, hZ, hown⟩ := rebS hS (by rw [e4]; exact Nat.le_trans hk E4.1) X5 hS5 hg5 hZ hown
  obtain ⟨r5, rfl, N5q, K5q, S5⟩ := hQ5
  have Z5 : n0 ≤ T5.heap.size := Nat.le_trans Z4 K5q.1
  have N5 := Fr.app N0 N5q
  have CE2_b4 := (E_b4.keep K5q)
  obtain ⟨_, _, ⟨T6, L6, k6, n6⟩, -, X6, hS6, hg6, ⟨Lc6, hQ6, l6, y6, z6, CH6⟩, st6⟩ := callSS X5 hx (y := (⟨"com/example/nto1/nto1/IdentityEqualsPinLaw", "part", "(II)Ljava/lang/String;"⟩ : MethodName)) hown (mvT hZ (hw _ (List.mem_of_getElem? (i := 3) rfl))) (mvT hZ (hw _ (List.mem_of_getElem? (i := 4) rfl))) (mvT hZ (hw _ (List.mem_of_getElem? (i := 5) rfl))) (mvT hZ (hw _ (List.mem_of_getElem? (i := 6) rfl))) (by decide) (own_backSH (W := 3) (EL := consts_1) (fun _ => True) (rm1 l Z a0 hw [] i4 (1 : Int32) T5.heap n0 Z5 zc S_C hzc ((X00.ext E4).keep K5q all0)) hZ (hw _ (List.mem_of_getElem? (i := 6) rfl)) (hw _ (List.mem_of_getElem? (i := 5) rfl)) (by decide) (by decide) hEL CH5.1 (fun _ _ => trivial)) (g := (mkF m 104 #[s0, s1, s2, .val (.int i3), .val (.int i4), .val (.int i5), s6, s7, s8, s9, s10, s11, s12] [(.int (1 : Int32)), (.int i4), (.ref r5), (.ref b4), (.ref b4)])) rfl (by rw [hml]; rfl) (argsL := [(.int i4), (.int (1 : Int32))]) (rest := [(.ref r5), (.ref b4), (.ref b4)]) (lenOf pd_0_0 rfl) rfl (by show 2 * 0 + _ ≤ _; exact Nat.le_of_eq rfl) (hb hby at_104) (fun _ _ => ⟨rfl, rfl, (by show cells + 7 ≤ 56; omega), (by show slots + 23 ≤ 4352; omega)⟩)
  dsimp only [Pt.U, Pt.locs, Pt.cells, Pt.slots] at X6 hS6 hg6 l6 y6 z6 st6 hQ6 CH6
  subst l6 y6 z6
  obtain ⟨X6, hS, hZ, hown⟩ := rebS hS (Nat.le_refl _) X6 hS6 hg6 hZ hown
  obtain ⟨r6, rfl, N6q, K6q, S6⟩ := hQ6
  have Z6 : n0 ≤ T6.heap.size := Nat.le_trans Z5 K6q.1
  have N6 := Fr.app N5 N6q
  have CE3_b4 := ((E_b4.keep K5q).keep K6q)
  obtain ⟨_, _, ⟨T7, L7, k7, n7⟩, -, X7, hS7, hg7, ⟨Lc7, hQ7, l7, y7, z7, CH7⟩, st7⟩ := callSS X6 hx (y := (⟨"com/example/nto1/nto1/IdentityEqualsPinLaw", "part", "(II)Ljava/lang/String;"⟩ : MethodName)) hown (mvT hZ (hw _ (List.mem_of_getElem? (i := 3) rfl))) (mvT hZ (hw _ (List.mem_of_getElem? (i := 4) rfl))) (mvT hZ (hw _ (List.mem_of_getElem? (i := 5) rfl))) (mvT hZ (hw _ (List.mem_of_getElem? (i := 6) rfl))) (by decide) (own_backSH (W := 4) (EL := consts_1) (fun _ => True) (rm1 l Z a0 hw [] i5 (1 : Int32) T6.heap n0 Z6 zc S_C hzc (((X00.ext E4).keep K5q all0).keep K6q all0)) hZ (hw _ (List.mem_of_getElem? (i := 6) rfl)) (hw _ (List.mem_of_getElem? (i := 5) rfl)) (by decide) (by decide) hEL CH6.1 (fun _ _ => trivial)) (g := (mkF m 110 #[s0, s1, s2, .val (.int i3), .val (.int i4), .val (.int i5), s6, s7, s8, s9, s10, s11, s12] [(.int (1 : Int32)), (.int i5), (.ref r6), (.ref r5), (.ref b4), (.ref b4)])) rfl (by rw [hml]; rfl) (argsL := [(.int i5), (.int (1 : Int32))]) (rest := [(.ref r6), (.ref r5), (.ref b4), (.ref b4)]) (lenOf pd_0_0 rfl) rfl (by show 2 * 0 + _ ≤ _; exact Nat.le_of_eq rfl) (hb hby at_110) (fun _ _ => ⟨rfl, rfl, (by show cells + 10 ≤ 56; omega), (by show slots + 33 ≤ 4352; omega)⟩)
  dsimp only [Pt.U, Pt.locs, Pt.cells, Pt.slots] at X7 hS7 hg7 l7 y7 z7 st7 hQ7 CH7
  subst l7 y7 z7
  obtain ⟨X7, hS, hZ, hown⟩ := rebS hS (Nat.le_refl _) X7 hS7 hg7 hZ hown
  obtain ⟨r7, rfl, N7q, K7q, S7⟩ := hQ7
  have Z7 : n0 ≤ T7.heap.size := Nat.le_trans Z6 K7q.1
  have N7 := Fr.app N6 N7q
  have CE4_b4 := (((E_b4.keep K5q).keep K6q).keep K7q)
  obtain ⟨_, _, ⟨T8, L8, k8, n8⟩, -, X8, hS8, hg8, ⟨Lc8, hQ8, l8, y8, z8, CH8⟩, st8⟩ := X7.specialBackS hx (y := (⟨"com/example/nto1/nto1/Identity", "<init>", "(Ljava/lang/String;Ljava/lang/String;Ljava/lang/String;)V"⟩ : MethodName)) rfl hown (mvT hZ (hw _ (List.mem_of_getElem? (i := 46) rfl))) (mvT hZ (hw _ (List.mem_of_getElem? (i := 47) rfl))) (mvT hZ (hw _ (List.mem_of_getElem? (i := 48) rfl))) (by decide) (own_backSH (W := 1) (EL := consts_1) (fun _ => True) (rm10 l Z a0 hw [] b4 r5 r6 r7 .null .null .null T7.heap n0 Z7 (((E_b4.keep K5q).keep K6q).keep K7q) (((F_scope_b4.keep K5q nin0).keep K6q nin0).keep K7q nin0) g_b4 (((F_operation_b4.keep K5q nin0).keep K6q nin0).keep K7q nin0) (((F_key_b4.keep K5q nin0).keep K6q nin0).keep K7q nin0) (own_part i3 0) (own_part i4 1) (own_part i5 1) zc wf (own_Str_keep (own_Str_keep S5 K6q) K7q) (own_part_ok _ _) (own_part_len _ _) (own_Str_keep S6 K7q) (own_part_ok _ _) (own_part_len _ _) S7 (own_part_ok _ _) (own_part_len _ _) (own_part_pos hbo) (own_part_pos hbk) S_C hzc ((((X00.ext E4).keep K5q all0).keep K6q all0).keep K7q all0) S_F hwf) hZ (hw _ (List.mem_of_getElem? (i := 48) rfl)) (hw _ (List.mem_of_getElem? (i := 2) rfl)) (by decide) (by decide) hEL CH7.1 (fun _ _ => trivial)) (g := (mkF m 113 #[s0, s1, s2, .val (.int i3), .val (.int i4), .val (.int i5), s6, s7, s8, s9, s10, s11, s12] [(.ref r7), (.ref r6), (.ref r5), (.ref b4), (.ref b4)])) rfl (by rw [hml]; rfl) (Steps.refl _) (a := b4) (argsL := [(.ref r5), (.ref r6), (.ref r7)]) (rest := [(.ref b4)]) (lenOf pd_0_9 rfl) rfl (by show 2 * 0 + _ ≤ _; exact Nat.le_of_eq rfl) (hb hby at_113) (fun _ _ => ⟨rfl, rfl, (by show cells + 16 ≤ 56; omega), (by show slots + 113 ≤ 4352; omega)⟩)
  dsimp only [Pt.U, Pt.locs, Pt.cells, Pt.slots] at X8 hS8 hg8 l8 y8 z8 st8 hQ8 CH8
  subst l8 y8 z8
  obtain ⟨X8, hS, hZ, hown⟩ := rebS hS (Nat.le_refl _) X8 hS8 hg8 hZ hown
  obtain ⟨rfl, N8q, K8q, I8, F8a, F8b, F8c⟩ := hQ8
  have Z8 : n0 ≤ T8.heap.size := Nat.le_trans Z7 K8q.1
  have N8 := Fr.app N7 N8q
  have X8' := X8.more (cells' := cells + 16) (slots' := slots + 113) (by first | omega | (dsimp only; omega)) (by first | omega | (dsimp only; omega))
  refine ⟨T8, _, _, b4, X8', rfl, hS, hZ, hown, CH8.1, N8, (((K4.trans K5q all0).trans K6q all0).trans K7q all0).trans K8q (allS (Or.inr sz_b4) all0), ⟨r5, r6, r7, I8, F8a, F8b, F8c, own_Str_kp (own_Str_keep (own_Str_keep S5 K6q) K7q) K8q (((E_b4.keep K5q).keep K6q).keep K7q) (hw _ (List.mem_of_getElem? (i := 1) rfl)), own_Str_kp (own_Str_keep S6 K7q) K8q (((E_b4.keep K5q).keep K6q).keep K7q) (hw _ (List.mem_of_getElem? (i := 1) rfl)), own_Str_kp S7 K8q (((E_b4.keep K5q).keep K6q).keep K7q) (hw _ (List.mem_of_getElem? (i := 1) rfl))⟩, fun target kt => ?_⟩
  show Steps p.tables e below (T0.setTop (mkF m 92 #[s0, s1, s2, .val (.int i3), .val (.int i4), .val (.int i5), s6, s7, s8, s9, s10, s11, s12] [])) _
  refine st4 _ ?_
  show Steps p.tables e below (T4.setTop (mkF m 95 #[s0, s1, s2, .val (.int i3), .val (.int i4), .val (.int i5), s6, s7, s8, s9, s10, s11, s12] [(.ref b4)])) _
  refine XS.dup X4.here hx rfl (hb hby at_95) rfl rfl ?_
  show Steps p.tables e below (T4.setTop (mkF m 96 #[s0, s1, s2, .val (.int i3), .val (.int i4), .val (.int i5), s6, s7, s8, s9, s10, s11, s12] [(.ref b4), (.ref b4)])) _
  refine XS.iloadN X4.here hx rfl (hb hby at_96) rfl ?_
  show Steps p.tables e below (T4.setTop (mkF m 97 #[s0, s1, s2, .val (.int i3), .val (.int i4), .val (.int i5), s6, s7, s8, s9, s10, s11, s12] [(.int i3), (.ref b4), (.ref b4)])) _
  refine XS.iconst X4.here hx rfl (hb hby at_97) ?_
  show Steps p.tables e below (T4.setTop (mkF m 98 #[s0, s1, s2, .val (.int i3), .val (.int i4), .val (.int i5), s6, s7, s8, s9, s10, s11, s12] [(.int (0 : Int32)), (.int i3), (.ref b4), (.ref b4)])) _
  refine st5.trans ?_
  show Steps p.tables e below (T5.setTop (mkF m 101 #[s0, s1, s2, .val (.int i3), .val (.int i4), .val (.int i5), s6, s7, s8, s9, s10, s11, s12] [(.ref r5), (.ref b4), (.ref b4)])) _
  refine XS.iload X5.here hx rfl (hb hby at_101) rfl ?_
  show Steps p.tables e below (T5.setTop (mkF m 103 #[s0, s1, s2, .val (.int i3), .val (.int i4), .val (.int i5), s6, s7, s8, s9, s10, s11, s12] [(.int i4), (.ref r5), (.ref b4), (.ref b4)])) _
  refine XS.iconst X5.here hx rfl (hb hby at_103) ?_
  show Steps p.tables e below (T5.setTop (mkF m 104 #[s0, s1, s2, .val (.int i3), .val (.int i4), .val (.int i5), s6, s7, s8, s9, s10, s11, s12] [(.int (1 : Int32)), (.int i4), (.ref r5), (.ref b4), (.ref b4)])) _
  refine st6.trans ?_
  show Steps p.tables e below (T6.setTop (mkF m 107 #[s0, s1, s2, .val (.int i3), .val (.int i4), .val (.int i5), s6, s7, s8, s9, s10, s11, s12] [(.ref r6), (.ref r5), (.ref b4), (.ref b4)])) _
  refine XS.iload X6.here hx rfl (hb hby at_107) rfl ?_
  show Steps p.tables e below (T6.setTop (mkF m 109 #[s0, s1, s2, .val (.int i3), .val (.int i4), .val (.int i5), s6, s7, s8, s9, s10, s11, s12] [(.int i5), (.ref r6), (.ref r5), (.ref b4), (.ref b4)])) _
  refine XS.iconst X6.here hx rfl (hb hby at_109) ?_
  show Steps p.tables e below (T6.setTop (mkF m 110 #[s0, s1, s2, .val (.int i3), .val (.int i4), .val (.int i5), s6, s7, s8, s9, s10, s11, s12] [(.int (1 : Int32)), (.int i5), (.ref r6), (.ref r5), (.ref b4), (.ref b4)])) _
  refine st7.trans ?_
  show Steps p.tables e below (T7.setTop (mkF m 113 #[s0, s1, s2, .val (.int i3), .val (.int i4), .val (.int i5), s6, s7, s8, s9, s10, s11, s12] [(.ref r7), (.ref r6), (.ref r5), (.ref b4), (.ref b4)])) _
  refine st8.trans ?_
  show Steps p.tables e below (T8.setTop (mkF m 116 #[s0, s1, s2, .val (.int i3), .val (.int i4), .val (.int i5), s6, s7, s8, s9, s10, s11, s12] [(.ref b4)])) _
  refine XS.astore X8.here hx rfl (hb hby at_116) rfl rfl (l' := #[s0, s1, s2, .val (.int i3), .val (.int i4), .val (.int i5), s6, s7, s8, s9, .val (.ref b4), s11, s12]) (os0_116 hs10) ?_
  exact kt
theorem os0_204 {s0 : Slot} {s1 : Slot} {s2 : Slot} {s3 : Slot} {s4 : Slot} {s5 : Slot} {z6 : Value} {z7 : Value} {z8 : Value} {s9 : Slot} {s10 : Slot} {s11 : Slot} {s12 : Slot} {v : Addr} (h : One s11) : storeLocals #[s0, s1, s2, s3, s4, s5, .val z6, .val z7, .val z8, s9, s10, s11, s12] 11 (.ref v) = some #[s0, s1, s2, s3, s4, s5, .val z6, .val z7, .val z8, s9, s10, .val (.ref v), s12] := by
  rcases h with rfl | ⟨w, rfl, hw⟩
  · rfl
  · cases w <;> first | rfl | (simp [Value.category] at hw)
set_option maxRecDepth 65536 in
set_option maxHeartbeats 40000000 in
theorem pi179 {p : Program} {l : Launch} {e : Env} {s : State} {vm0 : Vm} {k0 : Nat} {m : MethodId} {args : Array Value} {below : List Frame} {meth : Method} {c : Code} {T0 : State} {locs : List Loc} {cells slots : Nat} {Z : State} {a0 : Array Value} {h0 : Heap} (s0 : Slot) (s1 : Slot) (s2 : Slot) (s3 : Slot) (s4 : Slot) (s5 : Slot) (i6 : Int32) (i7 : Int32) (i8 : Int32) (s9 : Slot) (s10 : Slot) (s11 : Slot) (s12 : Slot) (zc : Int32) (wf : Value) (n0 : Nat)
    (X0 : Stand p l e room_1 (s.setVm vm0) m args below meth c T0 locs cells slots) (hx : p.tables.exec = Jvm.exec) (hZ : Z.Warmed39 vm0) (hw : ∀ d ∈ tables_1, d.before a0 Z = true) (hby : c.code = code) (hml : c.maxLocals = 13) (hown : vm0.findClass "com/example/nto1/nto1/IdentityEqualsPinLaw" = some m.cls) (e0 : T0.heap = h0) (hS : s.Since vm0 k0) (hk : k0 ≤ h0.size) (H0 : CHv Z consts_1 vm0 h0) (Z0 : n0 ≤ h0.size) (N0 : Fr n0 locs) (S_C : Sta Z Z.heap "java/lang/String" "COMPACT_STRINGS" "Z" (.int zc)) (hzc : ¬ zc = 0) (X00 : Old Z n0 h0) (S_F : Sta Z Z.heap "jdk/internal/util/Preconditions" "SIOOBE_FORMATTER" "Ljava/util/function/BiFunction;" wf) (hwf : wf.isRef = true) (hbo : own_b i7) (hbk : own_b i8) (hcl : cells + 16 ≤ 56) (hsl : slots + 113 ≤ 4352) (hs11 : One s11) :
    ∃ (T' : State) (h' : Heap) (locs' : List Loc) (b4 : Addr), Stand p l e room_1 (s.setVm T'.vm) m args below meth c T' locs' (cells + 16) (slots + 113) ∧ T'.heap = h' ∧ s.Since T'.vm h'.size ∧ Z.Warmed39 T'.vm ∧ T'.vm.findClass "com/example/nto1/nto1/IdentityEqualsPinLaw" = some m.cls ∧ CHv Z consts_1 T'.vm h' ∧ Fr n0 locs' ∧ Keep h0 h' [] ∧ own_Id Z h' b4 (own_part i6 0) (own_part i7 1) (own_part i8 1) ∧
      ∀ target, Steps p.tables e below (T'.setTop (mkF m 206 #[s0, s1, s2, s3, s4, s5, .val (.int i6), .val (.int i7), .val (.int i8), s9, s10, .val (.ref b4), s12] [])) target → Steps p.tables e below (T0.setTop (mkF m 179 #[s0, s1, s2, s3, s4, s5, .val (.int i6), .val (.int i7), .val (.int i8), s9, s10, s11, s12] [])) target := by
  have hEL := own_EL hw
  obtain ⟨T4, h4, X4, e4, E4, A4, D4, -, st4⟩ := newO X0 hx hZ hown (hw _ (List.mem_of_getElem? (i := 0) rfl)) (hw _ (List.mem_of_getElem? (i := 1) rfl)) (hw _ (List.mem_of_getElem? (i := 2) rfl)) e0 (g := (mkF m 179 #[s0, s1, s2, s3, s4, s5, .val (.int i6), .val (.int i7), .val (.int i8), s9, s10, s11, s12] [])) rfl (hb hby at_179) (by show cells + 1 ≤ 56; omega) (by show slots + 3 ≤ 4352; omega)
  obtain ⟨b4, g4⟩ : ∃ z, z = h0.size := ⟨_, rfl⟩      -- the fresh object's address
  have Z4 : n0 ≤ h4.size := Nat.le_trans Z0 E4.1
  rw [← g4] at A4 D4 st4      -- A4 : Exa Z h4 b4 "com/example/nto1/nto1/Identity"; E4 : Ext h0 h4 (carries every older fact: .ext E4)
  have F_scope_b4 : Fld Z h4 b4 "com/example/nto1/nto1/Identity" "scope" "Ljava/lang/String;" .null := D4 (Or.inr (hw _ (List.mem_of_getElem? (i := 87) rfl))) (ty := (.object "java/lang/String")) (by decide)
  have F_operation_b4 : Fld Z h4 b4 "com/example/nto1/nto1/Identity" "operation" "Ljava/lang/String;" .null := D4 (Or.inr (hw _ (List.mem_of_getElem? (i := 111) rfl))) (ty := (.object "java/lang/String")) (by decide)
  have F_key_b4 : Fld Z h4 b4 "com/example/nto1/nto1/Identity" "key" "Ljava/lang/String;" .null := D4 (Or.inr (hw _ (List.mem_of_getElem? (i := 114) rfl))) (ty := (.object "java/lang/String")) (by decide)
  have E_b4 := A4
  have g_b4 : n0 ≤ b4 := Nat.le_trans Z0 (Nat.le_of_eq g4.symm)
  have sz_b4 : h0.size ≤ b4 := (Nat.le_trans (Keep.refl h0 []).1 (Nat.le_of_eq g4.symm))
  have K4 : Keep h0 h4 [] := (Keep.refl h0 []).ext E4
  have CE1_b4 := E_b4
  obtain ⟨_, _, ⟨T5, L5, k5, n5⟩, -, X5, hS5, hg5, ⟨Lc5, hQ5, l5, y5, z5, CH5⟩, st5⟩ := callSS X4 hx (y := (⟨"com/example/nto1/nto1/IdentityEqualsPinLaw", "part", "(II)Ljava/lang/String;"⟩ : MethodName)) hown (mvT hZ (hw _ (List.mem_of_getElem? (i := 3) rfl))) (mvT hZ (hw _ (List.mem_of_getElem? (i := 4) rfl))) (mvT hZ (hw _ (List.mem_of_getElem? (i := 5) rfl))) (mvT hZ (hw _ (List.mem_of_getElem? (i := 6) rfl))) (by decide) (own_backSH (W := 2) (EL := consts_1) (fun _ => True) (rm1 l Z a0 hw [] i6 (0 : Int32) h4 n0 Z4 zc S_C hzc (X00.ext E4)) hZ (hw _ (List.mem_of_getElem? (i := 6) rfl)) (hw _ (List.mem_of_getElem? (i := 5) rfl)) (by decide) (by decide) hEL (H0.ext E4) (fun _ _ => trivial)) (g := (mkF m 186 #[s0, s1, s2, s3, s4, s5, .val (.int i6), .val (.int i7), .val (.int i8), s9, s10, s11, s12] [(.int (0 : Int32)), (.int i6), (.ref b4), (.ref b4)])) rfl (by rw [hml]; rfl) (argsL := [(.int i6), (.int (0 : Int32))]) (rest := [(.ref b4), (.ref b4)]) (lenOf pd_0_0 rfl) rfl (by show 2 * 0 + _ ≤ _; exact Nat.le_of_eq rfl) (hb hby at_186) (fun _ _ => ⟨rfl, e4, (by show cells + 4 ≤ 56; omega), (by show slots + 13 ≤ 4352; omega)⟩)
  dsimp only [Pt.U, Pt.locs, Pt.cells, Pt.slots] at X5 hS5 hg5 l5 y5 z5 st5 hQ5 CH5
  subst l5 y5 z5
  obtain ⟨X5, hS, hZ, hown⟩ := rebS hS (by rw [e4]; exact Nat.le_trans hk E4.1) X5 hS5 hg5 hZ hown
  obtain ⟨r5, rfl, N5q, K5q, S5⟩ := hQ5
  have Z5 : n0 ≤ T5.heap.size := Nat.le_trans Z4 K5q.1
  have N5 := Fr.app N0 N5q
  have CE2_b4 := (E_b4.keep K5q)
  obtain ⟨_, _, ⟨T6, L6, k6, n6⟩, -, X6, hS6, hg6, ⟨Lc6, hQ6, l6, y6, z6, CH6⟩, st6⟩ := callSS X5 hx (y := (⟨"com/example/nto1/nto1/IdentityEqualsPinLaw", "part", "(II)Ljava/lang/String;"⟩ : MethodName)) hown (mvT hZ (hw _ (List.mem_of_getElem? (i := 3) rfl))) (mvT hZ (hw _ (List.mem_of_getElem? (i := 4) rfl))) (mvT hZ (hw _ (List.mem_of_getElem? (i := 5) rfl))) (mvT hZ (hw _ (List.mem_of_getElem? (i := 6) rfl))) (by decide) (own_backSH (W := 3) (EL := consts_1) (fun _ => True) (rm1 l Z a0 hw [] i7 (1 : Int32) T5.heap n0 Z5 zc S_C hzc ((X00.ext E4).keep K5q all0)) hZ (hw _ (List.mem_of_getElem? (i := 6) rfl)) (hw _ (List.mem_of_getElem? (i := 5) rfl)) (by decide) (by decide) hEL CH5.1 (fun _ _ => trivial)) (g := (mkF m 192 #[s0, s1, s2, s3, s4, s5, .val (.int i6), .val (.int i7), .val (.int i8), s9, s10, s11, s12] [(.int (1 : Int32)), (.int i7), (.ref r5), (.ref b4), (.ref b4)])) rfl (by rw [hml]; rfl) (argsL := [(.int i7), (.int (1 : Int32))]) (rest := [(.ref r5), (.ref b4), (.ref b4)]) (lenOf pd_0_0 rfl) rfl (by show 2 * 0 + _ ≤ _; exact Nat.le_of_eq rfl) (hb hby at_192) (fun _ _ => ⟨rfl, rfl, (by show cells + 7 ≤ 56; omega), (by show slots + 23 ≤ 4352; omega)⟩)
  dsimp only [Pt.U, Pt.locs, Pt.cells, Pt.slots] at X6 hS6 hg6 l6 y6 z6 st6 hQ6 CH6
  subst l6 y6 z6
  obtain ⟨X6, hS, hZ, hown⟩ := rebS hS (Nat.le_refl _) X6 hS6 hg6 hZ hown
  obtain ⟨r6, rfl, N6q, K6q, S6⟩ := hQ6
  have Z6 : n0 ≤ T6.heap.size := Nat.le_trans Z5 K6q.1
  have N6 := Fr.app N5 N6q
  have CE3_b4 := ((E_b4.keep K5q).keep K6q)
  obtain ⟨_, _, ⟨T7, L7, k7, n7⟩, -, X7, hS7, hg7, ⟨Lc7, hQ7, l7, y7, z7, CH7⟩, st7⟩ := callSS X6 hx (y := (⟨"com/example/nto1/nto1/IdentityEqualsPinLaw", "part", "(II)Ljava/lang/String;"⟩ : MethodName)) hown (mvT hZ (hw _ (List.mem_of_getElem? (i := 3) rfl))) (mvT hZ (hw _ (List.mem_of_getElem? (i := 4) rfl))) (mvT hZ (hw _ (List.mem_of_getElem? (i := 5) rfl))) (mvT hZ (hw _ (List.mem_of_getElem? (i := 6) rfl))) (by decide) (own_backSH (W := 4) (EL := consts_1) (fun _ => True) (rm1 l Z a0 hw [] i8 (1 : Int32) T6.heap n0 Z6 zc S_C hzc (((X00.ext E4).keep K5q all0).keep K6q all0)) hZ (hw _ (List.mem_of_getElem? (i := 6) rfl)) (hw _ (List.mem_of_getElem? (i := 5) rfl)) (by decide) (by decide) hEL CH6.1 (fun _ _ => trivial)) (g := (mkF m 198 #[s0, s1, s2, s3, s4, s5, .val (.int i6), .val (.int i7), .val (.int i8), s9, s10, s11, s12] [(.int (1 : Int32)), (.int i8), (.ref r6), (.ref r5), (.ref b4), (.ref b4)])) rfl (by rw [hml]; rfl) (argsL := [(.int i8), (.int (1 : Int32))]) (rest := [(.ref r6), (.ref r5), (.ref b4), (.ref b4)]) (lenOf pd_0_0 rfl) rfl (by show 2 * 0 + _ ≤ _; exact Nat.le_of_eq rfl) (hb hby at_198) (fun _ _ => ⟨rfl, rfl, (by show cells + 10 ≤ 56; omega), (by show slots + 33 ≤ 4352; omega)⟩)
  dsimp only [Pt.U, Pt.locs, Pt.cells, Pt.slots] at X7 hS7 hg7 l7 y7 z7 st7 hQ7 CH7
  subst l7 y7 z7
  obtain ⟨X7, hS, hZ, hown⟩ := rebS hS (Nat.le_refl _) X7 hS7 hg7 hZ hown
  obtain ⟨r7, rfl, N7q, K7q, S7⟩ := hQ7
  have Z7 : n0 ≤ T7.heap.size := Nat.le_trans Z6 K7q.1
  have N7 := Fr.app N6 N7q
  have CE4_b4 := (((E_b4.keep K5q).keep K6q).keep K7q)
  obtain ⟨_, _, ⟨T8, L8, k8, n8⟩, -, X8, hS8, hg8, ⟨Lc8, hQ8, l8, y8, z8, CH8⟩, st8⟩ := X7.specialBackS hx (y := (⟨"com/example/nto1/nto1/Identity", "<init>", "(Ljava/lang/String;Ljava/lang/String;Ljava/lang/String;)V"⟩ : MethodName)) rfl hown (mvT hZ (hw _ (List.mem_of_getElem? (i := 46) rfl))) (mvT hZ (hw _ (List.mem_of_getElem? (i := 47) rfl))) (mvT hZ (hw _ (List.mem_of_getElem? (i := 48) rfl))) (by decide) (own_backSH (W := 1) (EL := consts_1) (fun _ => True) (rm10 l Z a0 hw [] b4 r5 r6 r7 .null .null .null T7.heap n0 Z7 (((E_b4.keep K5q).keep K6q).keep K7q) (((F_scope_b4.keep K5q nin0).keep K6q nin0).keep K7q nin0) g_b4 (((F_operation_b4.keep K5q nin0).keep K6q nin0).keep K7q nin0) (((F_key_b4.keep K5q nin0).keep K6q nin0).keep K7q nin0) (own_part i6 0) (own_part i7 1) (own_part i8 1) zc wf (own_Str_keep (own_Str_keep S5 K6q) K7q) (own_part_ok _ _) (own_part_len _ _) (own_Str_keep S6 K7q) (own_part_ok _ _) (own_part_len _ _) S7 (own_part_ok _ _) (own_part_len _ _) (own_part_pos hbo) (own_part_pos hbk) S_C hzc ((((X00.ext E4).keep K5q all0).keep K6q all0).keep K7q all0) S_F hwf) hZ (hw _ (List.mem_of_getElem? (i := 48) rfl)) (hw _ (List.mem_of_getElem? (i := 2) rfl)) (by decide) (by decide) hEL CH7.1 (fun _ _ => trivial)) (g := (mkF m 201 #[s0, s1, s2, s3, s4, s5, .val (.int i6), .val (.int i7), .val (.int i8), s9, s10, s11, s12] [(.ref r7), (.ref r6), (.ref r5), (.ref b4), (.ref b4)])) rfl (by rw [hml]; rfl) (Steps.refl _) (a := b4) (argsL := [(.ref r5), (.ref r6), (.ref r7)]) (rest := [(.ref b4)]) (lenOf pd_0_9 rfl) rfl (by show 2 * 0 + _ ≤ _; exact Nat.le_of_eq rfl) (hb hby at_201) (fun _ _ => ⟨rfl, rfl, (by show cells + 16 ≤ 56; omega), (by show slots + 113 ≤ 4352; omega)⟩)
  dsimp only [Pt.U, Pt.locs, Pt.cells, Pt.slots] at X8 hS8 hg8 l8 y8 z8 st8 hQ8 CH8
  subst l8 y8 z8
  obtain ⟨X8, hS, hZ, hown⟩ := rebS hS (Nat.le_refl _) X8 hS8 hg8 hZ hown
  obtain ⟨rfl, N8q, K8q, I8, F8a, F8b, F8c⟩ := hQ8
  have Z8 : n0 ≤ T8.heap.size := Nat.le_trans Z7 K8q.1
  have N8 := Fr.app N7 N8q
  have X8' := X8.more (cells' := cells + 16) (slots' := slots + 113) (by first | omega | (dsimp only; omega)) (by first | omega | (dsimp only; omega))
  refine ⟨T8, _, _, b4, X8', rfl, hS, hZ, hown, CH8.1, N8, (((K4.trans K5q all0).trans K6q all0).trans K7q all0).trans K8q (allS (Or.inr sz_b4) all0), ⟨r5, r6, r7, I8, F8a, F8b, F8c, own_Str_kp (own_Str_keep (own_Str_keep S5 K6q) K7q) K8q (((E_b4.keep K5q).keep K6q).keep K7q) (hw _ (List.mem_of_getElem? (i := 1) rfl)), own_Str_kp (own_Str_keep S6 K7q) K8q (((E_b4.keep K5q).keep K6q).keep K7q) (hw _ (List.mem_of_getElem? (i := 1) rfl)), own_Str_kp S7 K8q (((E_b4.keep K5q).keep K6q).keep K7q) (hw _ (List.mem_of_getElem? (i := 1) rfl))⟩, fun target kt => ?_⟩
  show Steps p.tables e below (T0.setTop (mkF m 179 #[s0, s1, s2, s3, s4, s5, .val (.int i6), .val (.int i7), .val (.int i8), s9, s10, s11, s12] [])) _
  refine st4 _ ?_
  show Steps p.tables e below (T4.setTop (mkF m 182 #[s0, s1, s2, s3, s4, s5, .val (.int i6), .val (.int i7), .val (.int i8), s9, s10, s11, s12] [(.ref b4)])) _
  refine XS.dup X4.here hx rfl (hb hby at_182) rfl rfl ?_
  show Steps p.tables e below (T4.setTop (mkF m 183 #[s0, s1, s2, s3, s4, s5, .val (.int i6), .val (.int i7), .val (.int i8), s9, s10, s11, s12] [(.ref b4), (.ref b4)])) _
  refine XS.iload X4.here hx rfl (hb hby at_183) rfl ?_
  show Steps p.tables e below (T4.setTop (mkF m 185 #[s0, s1, s2, s3, s4, s5, .val (.int i6), .val (.int i7), .val (.int i8), s9, s10, s11, s12] [(.int i6), (.ref b4), (.ref b4)])) _
  refine XS.iconst X4.here hx rfl (hb hby at_185) ?_
  show Steps p.tables e below (T4.setTop (mkF m 186 #[s0, s1, s2, s3, s4, s5, .val (.int i6), .val (.int i7), .val (.int i8), s9, s10, s11, s12] [(.int (0 : Int32)), (.int i6), (.ref b4), (.ref b4)])) _
  refine st5.trans ?_
  show Steps p.tables e below (T5.setTop (mkF m 189 #[s0, s1, s2, s3, s4, s5, .val (.int i6), .val (.int i7), .val (.int i8), s9, s10, s11, s12] [(.ref r5), (.ref b4), (.ref b4)])) _
  refine XS.iload X5.here hx rfl (hb hby at_189) rfl ?_
  show Steps p.tables e below (T5.setTop (mkF m 191 #[s0, s1, s2, s3, s4, s5, .val (.int i6), .val (.int i7), .val (.int i8), s9, s10, s11, s12] [(.int i7), (.ref r5), (.ref b4), (.ref b4)])) _
  refine XS.iconst X5.here hx rfl (hb hby at_191) ?_
  show Steps p.tables e below (T5.setTop (mkF m 192 #[s0, s1, s2, s3, s4, s5, .val (.int i6), .val (.int i7), .val (.int i8), s9, s10, s11, s12] [(.int (1 : Int32)), (.int i7), (.ref r5), (.ref b4), (.ref b4)])) _
  refine st6.trans ?_
  show Steps p.tables e below (T6.setTop (mkF m 195 #[s0, s1, s2, s3, s4, s5, .val (.int i6), .val (.int i7), .val (.int i8), s9, s10, s11, s12] [(.ref r6), (.ref r5), (.ref b4), (.ref b4)])) _
  refine XS.iload X6.here hx rfl (hb hby at_195) rfl ?_
  show Steps p.tables e below (T6.setTop (mkF m 197 #[s0, s1, s2, s3, s4, s5, .val (.int i6), .val (.int i7), .val (.int i8), s9, s10, s11, s12] [(.int i8), (.ref r6), (.ref r5), (.ref b4), (.ref b4)])) _
  refine XS.iconst X6.here hx rfl (hb hby at_197) ?_
  show Steps p.tables e below (T6.setTop (mkF m 198 #[s0, s1, s2, s3, s4, s5, .val (.int i6), .val (.int i7), .val (.int i8), s9, s10, s11, s12] [(.int (1 : Int32)), (.int i8), (.ref r6), (.ref r5), (.ref b4), (.ref b4)])) _
  refine st7.trans ?_
  show Steps p.tables e below (T7.setTop (mkF m 201 #[s0, s1, s2, s3, s4, s5, .val (.int i6), .val (.int i7), .val (.int i8), s9, s10, s11, s12] [(.ref r7), (.ref r6), (.ref r5), (.ref b4), (.ref b4)])) _
  refine st8.trans ?_
  show Steps p.tables e below (T8.setTop (mkF m 204 #[s0, s1, s2, s3, s4, s5, .val (.int i6), .val (.int i7), .val (.int i8), s9, s10, s11, s12] [(.ref b4)])) _
  refine XS.astore X8.here hx rfl (hb hby at_204) rfl rfl (l' := #[s0, s1, s2, s3, s4, s5, .val (.int i6), .val (.int i7), .val (.int i8), s9, s10, .val (.ref b4), s12]) (os0_204 hs11) ?_
  exact kt
theorem own_no {Z : State} {a0 : Array Value} {C O K : String} {n : Nat} (w1 : (Jvm.Cond.superclass C O).before a0 Z = true) (w3 : (Jvm.Cond.noSuperclass O).before a0 Z = true) (wk : (Jvm.Cond.instantiable K n).before a0 Z = true) (h1 : C ≠ K) (h3 : O ≠ K) :
    ∃ c t, Z.vm.findClass C = some c ∧ Z.vm.findClass K = some t ∧ Z.vm.assignable c t = false := by
  obtain ⟨t, k', g0, g2, g5, g7, -, -⟩ := Cond.instantiable_spec wk
  have g8 : k'.isInterface = false := (Bool.or_eq_false_iff.mp g7).1
  obtain ⟨c, h0⟩ := found_sup w1
  obtain ⟨p, k, kp, a1, a2, a3, a4, a5, -, -⟩ := Cond.superclass_spec h0 w1
  obtain ⟨o, ko, c1, c2, c3, -, -⟩ := Cond.noSuperclass_spec w3
  cases a1.symm.trans c1
  have ne1 := ids_ne h0 g0 h1
  have ne3 := ids_ne a1 g0 h3
  have N3 : ∀ fuel, Z.vm.isSubclassAux fuel p t = false := fun fuel => by
    cases fuel with
    | zero => rfl
    | succ f => simp [Vm.isSubclassAux, ne3, c2, c3]
  have N1 : ∀ fuel, Z.vm.isSubclassAux fuel c t = false := fun fuel => by
    cases fuel with
    | zero => rfl
    | succ f => simp [Vm.isSubclassAux, ne1, a2, a4, N3]
  refine ⟨c, t, h0, g0, ?_⟩
  show Z.vm.assignableAux (255 + 1) c t = false
  simp [Vm.assignableAux, ne1, a2, g2, a5, g5, g8, Vm.isSubclass, N1]
theorem own_Id_exa {Z : State} {h : Heap} {a : Addr} {c1 c2 c3 : List Int32} (I : own_Id Z h a c1 c2 c3) : Exa Z h a "com/example/nto1/nto1/Identity" := by
  obtain ⟨r1, r2, r3, e, -⟩ := I; exact e
theorem own_e3_refl (c1 c2 c3 : List Int32) : own_e3 c1 c2 c3 c1 c2 c3 = 1 := if_pos ⟨rfl, rfl, rfl⟩
theorem own_e3_symm (c1 c2 c3 d1 d2 d3 : List Int32) : own_e3 d1 d2 d3 c1 c2 c3 = own_e3 c1 c2 c3 d1 d2 d3 := by
  unfold own_e3
  by_cases h : c1 = d1 ∧ c2 = d2 ∧ c3 = d3
  · rw [if_pos h, if_pos ⟨h.1.symm, h.2.1.symm, h.2.2.symm⟩]
  · rw [if_neg h, if_neg (fun q => h ⟨q.1.symm, q.2.1.symm, q.2.2.symm⟩)]
theorem os0a_5 {z0 : Value} {s1 : Slot} {s2 : Slot} {s3 : Slot} {s4 : Slot} {s5 : Slot} {s6 : Slot} {s7 : Slot} {s8 : Slot} {s9 : Slot} {s10 : Slot} {s11 : Slot} {s12 : Slot} {v : Int32} (h : One s3) : storeLocals #[.val z0, s1, s2, s3, s4, s5, s6, s7, s8, s9, s10, s11, s12] 3 (.int v) = some #[.val z0, s1, s2, .val (.int v), s4, s5, s6, s7, s8, s9, s10, s11, s12] := by
  rcases h with rfl | ⟨w, rfl, hw⟩
  · rfl
  · cases w <;> first | rfl | (simp [Value.category] at hw)
theorem os0a_14 {z0 : Value} {s1 : Slot} {s2 : Slot} {z3 : Value} {s4 : Slot} {s5 : Slot} {s6 : Slot} {s7 : Slot} {s8 : Slot} {s9 : Slot} {s10 : Slot} {s11 : Slot} {s12 : Slot} {v : Int32} (h : One s4) : storeLocals #[.val z0, s1, s2, .val z3, s4, s5, s6, s7, s8, s9, s10, s11, s12] 4 (.int v) = some #[.val z0, s1, s2, .val z3, .val (.int v), s5, s6, s7, s8, s9, s10, s11, s12] := by
  rcases h with rfl | ⟨w, rfl, hw⟩
  · rfl
  · cases w <;> first | rfl | (simp [Value.category] at hw)
theorem os0a_24 {z0 : Value} {s1 : Slot} {s2 : Slot} {z3 : Value} {z4 : Value} {s5 : Slot} {s6 : Slot} {s7 : Slot} {s8 : Slot} {s9 : Slot} {s10 : Slot} {s11 : Slot} {s12 : Slot} {v : Int32} (h : One s5) : storeLocals #[.val z0, s1, s2, .val z3, .val z4, s5, s6, s7, s8, s9, s10, s11, s12] 5 (.int v) = some #[.val z0, s1, s2, .val z3, .val z4, .val (.int v), s6, s7, s8, s9, s10, s11, s12] := by
  rcases h with rfl | ⟨w, rfl, hw⟩
  · rfl
  · cases w <;> first | rfl | (simp [Value.category] at hw)
set_option maxRecDepth 65536 in
set_option maxHeartbeats 40000000 in
theorem ps0 {p : Program} {l : Launch} {e : Env} {s : State} {m : MethodId} {args : Array Value} {below : List Frame} {meth : Method} {c : Code} {T0 : State} {locs : List Loc} {cells slots : Nat} {Z : State} {a0 : Array Value} {h0 : Heap} (i0 : Int32) (s1 : Slot) (s2 : Slot) (s3 : Slot) (s4 : Slot) (s5 : Slot) (s6 : Slot) (s7 : Slot) (s8 : Slot) (s9 : Slot) (s10 : Slot) (s11 : Slot) (s12 : Slot)
    (X0 : Stand p l e room_1 s m args below meth c T0 locs cells slots) (hx : p.tables.exec = Jvm.exec) (hZ : Z.Warmed39 s.vm) (hw : ∀ d ∈ tables_1, d.before a0 Z = true) (hby : c.code = code) (hml : c.maxLocals = 13) (hown : s.vm.findClass "com/example/nto1/nto1/IdentityEqualsPinLaw" = some m.cls) (e0 : T0.heap = h0) (hs3 : One s3) (hs4 : One s4) (hs5 : One s5) :
    ∃ (T' : State), Stand p l e room_1 s m args below meth c T' locs cells slots ∧ T'.heap = h0 ∧
      ∀ target, Steps p.tables e below (T'.setTop (mkF m 26 #[.val (.int i0), s1, s2, .val (.int (i0 &&& (255 : Int32))), .val (.int (((i0.toUInt32 >>> ((8 : Int32) &&& 31).toUInt32).toInt32) &&& (255 : Int32))), .val (.int (((i0.toUInt32 >>> ((16 : Int32) &&& 31).toUInt32).toInt32) &&& (255 : Int32))), s6, s7, s8, s9, s10, s11, s12] [])) target → Steps p.tables e below (T0.setTop (mkF m 0 #[.val (.int i0), s1, s2, s3, s4, s5, s6, s7, s8, s9, s10, s11, s12] [])) target := by

  refine ⟨T0, X0, e0, fun target kt => ?_⟩
  show Steps p.tables e below (T0.setTop (mkF m 0 #[.val (.int i0), s1, s2, s3, s4, s5, s6, s7, s8, s9, s10, s11, s12] [])) _
  refine XS.iloadN X0.here hx rfl (hb hby at_0) rfl ?_
  show Steps p.tables e below (T0.setTop (mkF m 1 #[.val (.int i0), s1, s2, s3, s4, s5, s6, s7, s8, s9, s10, s11, s12] [(.int i0)])) _
  refine XS.sipush X0.here hx rfl (hb hby at_1) ?_
  show Steps p.tables e below (T0.setTop (mkF m 4 #[.val (.int i0), s1, s2, s3, s4, s5, s6, s7, s8, s9, s10, s11, s12] [(.int (255 : Int32)), (.int i0)])) _
  refine XS.iand X0.here hx rfl (hb hby at_4) rfl ?_
  show Steps p.tables e below (T0.setTop (mkF m 5 #[.val (.int i0), s1, s2, s3, s4, s5, s6, s7, s8, s9, s10, s11, s12] [(.int (i0 &&& (255 : Int32)))])) _
  refine XS.istoreN X0.here hx rfl (hb hby at_5) rfl (l' := #[.val (.int i0), s1, s2, .val (.int (i0 &&& (255 : Int32))), s4, s5, s6, s7, s8, s9, s10, s11, s12]) (os0a_5 hs3) ?_
  show Steps p.tables e below (T0.setTop (mkF m 6 #[.val (.int i0), s1, s2, .val (.int (i0 &&& (255 : Int32))), s4, s5, s6, s7, s8, s9, s10, s11, s12] [])) _
  refine XS.iloadN X0.here hx rfl (hb hby at_6) rfl ?_
  show Steps p.tables e below (T0.setTop (mkF m 7 #[.val (.int i0), s1, s2, .val (.int (i0 &&& (255 : Int32))), s4, s5, s6, s7, s8, s9, s10, s11, s12] [(.int i0)])) _
  refine XS.bipush X0.here hx rfl (hb hby at_7) ?_
  show Steps p.tables e below (T0.setTop (mkF m 9 #[.val (.int i0), s1, s2, .val (.int (i0 &&& (255 : Int32))), s4, s5, s6, s7, s8, s9, s10, s11, s12] [(.int (8 : Int32)), (.int i0)])) _
  refine XS.iushr X0.here hx rfl (hb hby at_9) rfl ?_
  show Steps p.tables e below (T0.setTop (mkF m 10 #[.val (.int i0), s1, s2, .val (.int (i0 &&& (255 : Int32))), s4, s5, s6, s7, s8, s9, s10, s11, s12] [(.int ((i0.toUInt32 >>> ((8 : Int32) &&& 31).toUInt32).toInt32))])) _
  refine XS.sipush X0.here hx rfl (hb hby at_10) ?_
  show Steps p.tables e below (T0.setTop (mkF m 13 #[.val (.int i0), s1, s2, .val (.int (i0 &&& (255 : Int32))), s4, s5, s6, s7, s8, s9, s10, s11, s12] [(.int (255 : Int32)), (.int ((i0.toUInt32 >>> ((8 : Int32) &&& 31).toUInt32).toInt32))])) _
  refine XS.iand X0.here hx rfl (hb hby at_13) rfl ?_
  show Steps p.tables e below (T0.setTop (mkF m 14 #[.val (.int i0), s1, s2, .val (.int (i0 &&& (255 : Int32))), s4, s5, s6, s7, s8, s9, s10, s11, s12] [(.int (((i0.toUInt32 >>> ((8 : Int32) &&& 31).toUInt32).toInt32) &&& (255 : Int32)))])) _
  refine XS.istore X0.here hx rfl (hb hby at_14) rfl (l' := #[.val (.int i0), s1, s2, .val (.int (i0 &&& (255 : Int32))), .val (.int (((i0.toUInt32 >>> ((8 : Int32) &&& 31).toUInt32).toInt32) &&& (255 : Int32))), s5, s6, s7, s8, s9, s10, s11, s12]) (os0a_14 hs4) ?_
  show Steps p.tables e below (T0.setTop (mkF m 16 #[.val (.int i0), s1, s2, .val (.int (i0 &&& (255 : Int32))), .val (.int (((i0.toUInt32 >>> ((8 : Int32) &&& 31).toUInt32).toInt32) &&& (255 : Int32))), s5, s6, s7, s8, s9, s10, s11, s12] [])) _
  refine XS.iloadN X0.here hx rfl (hb hby at_16) rfl ?_
  show Steps p.tables e below (T0.setTop (mkF m 17 #[.val (.int i0), s1, s2, .val (.int (i0 &&& (255 : Int32))), .val (.int (((i0.toUInt32 >>> ((8 : Int32) &&& 31).toUInt32).toInt32) &&& (255 : Int32))), s5, s6, s7, s8, s9, s10, s11, s12] [(.int i0)])) _
  refine XS.bipush X0.here hx rfl (hb hby at_17) ?_
  show Steps p.tables e below (T0.setTop (mkF m 19 #[.val (.int i0), s1, s2, .val (.int (i0 &&& (255 : Int32))), .val (.int (((i0.toUInt32 >>> ((8 : Int32) &&& 31).toUInt32).toInt32) &&& (255 : Int32))), s5, s6, s7, s8, s9, s10, s11, s12] [(.int (16 : Int32)), (.int i0)])) _
  refine XS.iushr X0.here hx rfl (hb hby at_19) rfl ?_
  show Steps p.tables e below (T0.setTop (mkF m 20 #[.val (.int i0), s1, s2, .val (.int (i0 &&& (255 : Int32))), .val (.int (((i0.toUInt32 >>> ((8 : Int32) &&& 31).toUInt32).toInt32) &&& (255 : Int32))), s5, s6, s7, s8, s9, s10, s11, s12] [(.int ((i0.toUInt32 >>> ((16 : Int32) &&& 31).toUInt32).toInt32))])) _
  refine XS.sipush X0.here hx rfl (hb hby at_20) ?_
  show Steps p.tables e below (T0.setTop (mkF m 23 #[.val (.int i0), s1, s2, .val (.int (i0 &&& (255 : Int32))), .val (.int (((i0.toUInt32 >>> ((8 : Int32) &&& 31).toUInt32).toInt32) &&& (255 : Int32))), s5, s6, s7, s8, s9, s10, s11, s12] [(.int (255 : Int32)), (.int ((i0.toUInt32 >>> ((16 : Int32) &&& 31).toUInt32).toInt32))])) _
  refine XS.iand X0.here hx rfl (hb hby at_23) rfl ?_
  show Steps p.tables e below (T0.setTop (mkF m 24 #[.val (.int i0), s1, s2, .val (.int (i0 &&& (255 : Int32))), .val (.int (((i0.toUInt32 >>> ((8 : Int32) &&& 31).toUInt32).toInt32) &&& (255 : Int32))), s5, s6, s7, s8, s9, s10, s11, s12] [(.int (((i0.toUInt32 >>> ((16 : Int32) &&& 31).toUInt32).toInt32) &&& (255 : Int32)))])) _
  refine XS.istore X0.here hx rfl (hb hby at_24) rfl (l' := #[.val (.int i0), s1, s2, .val (.int (i0 &&& (255 : Int32))), .val (.int (((i0.toUInt32 >>> ((8 : Int32) &&& 31).toUInt32).toInt32) &&& (255 : Int32))), .val (.int (((i0.toUInt32 >>> ((16 : Int32) &&& 31).toUInt32).toInt32) &&& (255 : Int32))), s6, s7, s8, s9, s10, s11, s12]) (os0a_24 hs5) ?_
  exact kt
theorem os0b26t_41 {s0 : Slot} {z1 : Value} {z2 : Value} {s3 : Slot} {s4 : Slot} {s5 : Slot} {s6 : Slot} {s7 : Slot} {s8 : Slot} {s9 : Slot} {s10 : Slot} {s11 : Slot} {s12 : Slot} {v : Int32} (h : One s6) : storeLocals #[s0, .val z1, .val z2, s3, s4, s5, s6, s7, s8, s9, s10, s11, s12] 6 (.int v) = some #[s0, .val z1, .val z2, s3, s4, s5, .val (.int v), s7, s8, s9, s10, s11, s12] := by
  rcases h with rfl | ⟨w, rfl, hw⟩
  · rfl
  · cases w <;> first | rfl | (simp [Value.category] at hw)
set_option maxRecDepth 65536 in
set_option maxHeartbeats 40000000 in
theorem ps26t {p : Program} {l : Launch} {e : Env} {s : State} {m : MethodId} {args : Array Value} {below : List Frame} {meth : Method} {c : Code} {T0 : State} {locs : List Loc} {cells slots : Nat} {Z : State} {a0 : Array Value} {h0 : Heap} (s0 : Slot) (i1 : Int32) (i2 : Int32) (s3 : Slot) (s4 : Slot) (s5 : Slot) (s6 : Slot) (s7 : Slot) (s8 : Slot) (s9 : Slot) (s10 : Slot) (s11 : Slot) (s12 : Slot)
    (X0 : Stand p l e room_1 s m args below meth c T0 locs cells slots) (hx : p.tables.exec = Jvm.exec) (hZ : Z.Warmed39 s.vm) (hw : ∀ d ∈ tables_1, d.before a0 Z = true) (hby : c.code = code) (hml : c.maxLocals = 13) (hown : s.vm.findClass "com/example/nto1/nto1/IdentityEqualsPinLaw" = some m.cls) (e0 : T0.heap = h0) (hs6 : One s6) (hc29 : (i2 &&& (1 : Int32)) = (0 : Int32)) :
    ∃ (T' : State), Stand p l e room_1 s m args below meth c T' locs cells slots ∧ T'.heap = h0 ∧
      ∀ target, Steps p.tables e below (T'.setTop (mkF m 43 #[s0, .val (.int i1), .val (.int i2), s3, s4, s5, .val (.int (i1 &&& (255 : Int32))), s7, s8, s9, s10, s11, s12] [])) target → Steps p.tables e below (T0.setTop (mkF m 26 #[s0, .val (.int i1), .val (.int i2), s3, s4, s5, s6, s7, s8, s9, s10, s11, s12] [])) target := by

  refine ⟨T0, X0, e0, fun target kt => ?_⟩
  show Steps p.tables e below (T0.setTop (mkF m 26 #[s0, .val (.int i1), .val (.int i2), s3, s4, s5, s6, s7, s8, s9, s10, s11, s12] [])) _
  refine XS.iloadN X0.here hx rfl (hb hby at_26) rfl ?_
  show Steps p.tables e below (T0.setTop (mkF m 27 #[s0, .val (.int i1), .val (.int i2), s3, s4, s5, s6, s7, s8, s9, s10, s11, s12] [(.int i2)])) _
  refine XS.iconst X0.here hx rfl (hb hby at_27) ?_
  show Steps p.tables e below (T0.setTop (mkF m 28 #[s0, .val (.int i1), .val (.int i2), s3, s4, s5, s6, s7, s8, s9, s10, s11, s12] [(.int (1 : Int32)), (.int i2)])) _
  refine XS.iand X0.here hx rfl (hb hby at_28) rfl ?_
  show Steps p.tables e below (T0.setTop (mkF m 29 #[s0, .val (.int i1), .val (.int i2), s3, s4, s5, s6, s7, s8, s9, s10, s11, s12] [(.int (i2 &&& (1 : Int32)))])) _
  refine XS.ifYes X0.here hx rfl (pc0 := 29) (pc' := 36) rfl (hb hby at_29) rfl ((if0 _ _).trans (teq hc29).1) (by decide) (by decide) ?_
  show Steps p.tables e below (T0.setTop (mkF m 36 #[s0, .val (.int i1), .val (.int i2), s3, s4, s5, s6, s7, s8, s9, s10, s11, s12] [])) _
  refine XS.iloadN X0.here hx rfl (hb hby at_36) rfl ?_
  show Steps p.tables e below (T0.setTop (mkF m 37 #[s0, .val (.int i1), .val (.int i2), s3, s4, s5, s6, s7, s8, s9, s10, s11, s12] [(.int i1)])) _
  refine XS.sipush X0.here hx rfl (hb hby at_37) ?_
  show Steps p.tables e below (T0.setTop (mkF m 40 #[s0, .val (.int i1), .val (.int i2), s3, s4, s5, s6, s7, s8, s9, s10, s11, s12] [(.int (255 : Int32)), (.int i1)])) _
  refine XS.iand X0.here hx rfl (hb hby at_40) rfl ?_
  show Steps p.tables e below (T0.setTop (mkF m 41 #[s0, .val (.int i1), .val (.int i2), s3, s4, s5, s6, s7, s8, s9, s10, s11, s12] [(.int (i1 &&& (255 : Int32)))])) _
  refine XS.istore X0.here hx rfl (hb hby at_41) rfl (l' := #[s0, .val (.int i1), .val (.int i2), s3, s4, s5, .val (.int (i1 &&& (255 : Int32))), s7, s8, s9, s10, s11, s12]) (os0b26t_41 hs6) ?_
  exact kt
theorem os0b26f_41 {s0 : Slot} {s1 : Slot} {z2 : Value} {z3 : Value} {s4 : Slot} {s5 : Slot} {s6 : Slot} {s7 : Slot} {s8 : Slot} {s9 : Slot} {s10 : Slot} {s11 : Slot} {s12 : Slot} {v : Int32} (h : One s6) : storeLocals #[s0, s1, .val z2, .val z3, s4, s5, s6, s7, s8, s9, s10, s11, s12] 6 (.int v) = some #[s0, s1, .val z2, .val z3, s4, s5, .val (.int v), s7, s8, s9, s10, s11, s12] := by
  rcases h with rfl | ⟨w, rfl, hw⟩
  · rfl
  · cases w <;> first | rfl | (simp [Value.category] at hw)
set_option maxRecDepth 65536 in
set_option maxHeartbeats 40000000 in
theorem ps26f {p : Program} {l : Launch} {e : Env} {s : State} {m : MethodId} {args : Array Value} {below : List Frame} {meth : Method} {c : Code} {T0 : State} {locs : List Loc} {cells slots : Nat} {Z : State} {a0 : Array Value} {h0 : Heap} (s0 : Slot) (s1 : Slot) (i2 : Int32) (i3 : Int32) (s4 : Slot) (s5 : Slot) (s6 : Slot) (s7 : Slot) (s8 : Slot) (s9 : Slot) (s10 : Slot) (s11 : Slot) (s12 : Slot)
    (X0 : Stand p l e room_1 s m args below meth c T0 locs cells slots) (hx : p.tables.exec = Jvm.exec) (hZ : Z.Warmed39 s.vm) (hw : ∀ d ∈ tables_1, d.before a0 Z = true) (hby : c.code = code) (hml : c.maxLocals = 13) (hown : s.vm.findClass "com/example/nto1/nto1/IdentityEqualsPinLaw" = some m.cls) (e0 : T0.heap = h0) (hs6 : One s6) (hc29 : ¬ ((i2 &&& (1 : Int32)) = (0 : Int32))) :
    ∃ (T' : State), Stand p l e room_1 s m args below meth c T' locs cells slots ∧ T'.heap = h0 ∧
      ∀ target, Steps p.tables e below (T'.setTop (mkF m 43 #[s0, s1, .val (.int i2), .val (.int i3), s4, s5, .val (.int i3), s7, s8, s9, s10, s11, s12] [])) target → Steps p.tables e below (T0.setTop (mkF m 26 #[s0, s1, .val (.int i2), .val (.int i3), s4, s5, s6, s7, s8, s9, s10, s11, s12] [])) target := by

  refine ⟨T0, X0, e0, fun target kt => ?_⟩
  show Steps p.tables e below (T0.setTop (mkF m 26 #[s0, s1, .val (.int i2), .val (.int i3), s4, s5, s6, s7, s8, s9, s10, s11, s12] [])) _
  refine XS.iloadN X0.here hx rfl (hb hby at_26) rfl ?_
  show Steps p.tables e below (T0.setTop (mkF m 27 #[s0, s1, .val (.int i2), .val (.int i3), s4, s5, s6, s7, s8, s9, s10, s11, s12] [(.int i2)])) _
  refine XS.iconst X0.here hx rfl (hb hby at_27) ?_
  show Steps p.tables e below (T0.setTop (mkF m 28 #[s0, s1, .val (.int i2), .val (.int i3), s4, s5, s6, s7, s8, s9, s10, s11, s12] [(.int (1 : Int32)), (.int i2)])) _
  refine XS.iand X0.here hx rfl (hb hby at_28) rfl ?_
  show Steps p.tables e below (T0.setTop (mkF m 29 #[s0, s1, .val (.int i2), .val (.int i3), s4, s5, s6, s7, s8, s9, s10, s11, s12] [(.int (i2 &&& (1 : Int32)))])) _
  refine XS.ifNo X0.here hx rfl (hb hby at_29) rfl ((if0 _ _).trans (feq hc29).1) ?_
  show Steps p.tables e below (T0.setTop (mkF m 32 #[s0, s1, .val (.int i2), .val (.int i3), s4, s5, s6, s7, s8, s9, s10, s11, s12] [])) _
  refine XS.iloadN X0.here hx rfl (hb hby at_32) rfl ?_
  show Steps p.tables e below (T0.setTop (mkF m 33 #[s0, s1, .val (.int i2), .val (.int i3), s4, s5, s6, s7, s8, s9, s10, s11, s12] [(.int i3)])) _
  refine XS.goto X0.here hx rfl (pc0 := 33) (pc' := 41) rfl (hb hby at_33) (by decide) (by decide) ?_
  show Steps p.tables e below (T0.setTop (mkF m 41 #[s0, s1, .val (.int i2), .val (.int i3), s4, s5, s6, s7, s8, s9, s10, s11, s12] [(.int i3)])) _
  refine XS.istore X0.here hx rfl (hb hby at_41) rfl (l' := #[s0, s1, .val (.int i2), .val (.int i3), s4, s5, .val (.int i3), s7, s8, s9, s10, s11, s12]) (os0b26f_41 hs6) ?_
  exact kt
theorem os0b43t_62 {s0 : Slot} {z1 : Value} {z2 : Value} {s3 : Slot} {s4 : Slot} {s5 : Slot} {s6 : Slot} {s7 : Slot} {s8 : Slot} {s9 : Slot} {s10 : Slot} {s11 : Slot} {s12 : Slot} {v : Int32} (h : One s7) : storeLocals #[s0, .val z1, .val z2, s3, s4, s5, s6, s7, s8, s9, s10, s11, s12] 7 (.int v) = some #[s0, .val z1, .val z2, s3, s4, s5, s6, .val (.int v), s8, s9, s10, s11, s12] := by
  rcases h with rfl | ⟨w, rfl, hw⟩
  · rfl
  · cases w <;> first | rfl | (simp [Value.category] at hw)
set_option maxRecDepth 65536 in
set_option maxHeartbeats 40000000 in
theorem ps43t {p : Program} {l : Launch} {e : Env} {s : State} {m : MethodId} {args : Array Value} {below : List Frame} {meth : Method} {c : Code} {T0 : State} {locs : List Loc} {cells slots : Nat} {Z : State} {a0 : Array Value} {h0 : Heap} (s0 : Slot) (i1 : Int32) (i2 : Int32) (s3 : Slot) (s4 : Slot) (s5 : Slot) (s6 : Slot) (s7 : Slot) (s8 : Slot) (s9 : Slot) (s10 : Slot) (s11 : Slot) (s12 : Slot)
    (X0 : Stand p l e room_1 s m args below meth c T0 locs cells slots) (hx : p.tables.exec = Jvm.exec) (hZ : Z.Warmed39 s.vm) (hw : ∀ d ∈ tables_1, d.before a0 Z = true) (hby : c.code = code) (hml : c.maxLocals = 13) (hown : s.vm.findClass "com/example/nto1/nto1/IdentityEqualsPinLaw" = some m.cls) (e0 : T0.heap = h0) (hs7 : One s7) (hc46 : (i2 &&& (2 : Int32)) = (0 : Int32)) :
    ∃ (T' : State), Stand p l e room_1 s m args below meth c T' locs cells slots ∧ T'.heap = h0 ∧
      ∀ target, Steps p.tables e below (T'.setTop (mkF m 64 #[s0, .val (.int i1), .val (.int i2), s3, s4, s5, s6, .val (.int (((i1.toUInt32 >>> ((8 : Int32) &&& 31).toUInt32).toInt32) &&& (255 : Int32))), s8, s9, s10, s11, s12] [])) target → Steps p.tables e below (T0.setTop (mkF m 43 #[s0, .val (.int i1), .val (.int i2), s3, s4, s5, s6, s7, s8, s9, s10, s11, s12] [])) target := by

  refine ⟨T0, X0, e0, fun target kt => ?_⟩
  show Steps p.tables e below (T0.setTop (mkF m 43 #[s0, .val (.int i1), .val (.int i2), s3, s4, s5, s6, s7, s8, s9, s10, s11, s12] [])) _
  refine XS.iloadN X0.here hx rfl (hb hby at_43) rfl ?_
  show Steps p.tables e below (T0.setTop (mkF m 44 #[s0, .val (.int i1), .val (.int i2), s3, s4, s5, s6, s7, s8, s9, s10, s11, s12] [(.int i2)])) _
  refine XS.iconst X0.here hx rfl (hb hby at_44) ?_
  show Steps p.tables e below (T0.setTop (mkF m 45 #[s0, .val (.int i1), .val (.int i2), s3, s4, s5, s6, s7, s8, s9, s10, s11, s12] [(.int (2 : Int32)), (.int i2)])) _
  refine XS.iand X0.here hx rfl (hb hby at_45) rfl ?_
  show Steps p.tables e below (T0.setTop (mkF m 46 #[s0, .val (.int i1), .val (.int i2), s3, s4, s5, s6, s7, s8, s9, s10, s11, s12] [(.int (i2 &&& (2 : Int32)))])) _
  refine XS.ifYes X0.here hx rfl (pc0 := 46) (pc' := 54) rfl (hb hby at_46) rfl ((if0 _ _).trans (teq hc46).1) (by decide) (by decide) ?_
  show Steps p.tables e below (T0.setTop (mkF m 54 #[s0, .val (.int i1), .val (.int i2), s3, s4, s5, s6, s7, s8, s9, s10, s11, s12] [])) _
  refine XS.iloadN X0.here hx rfl (hb hby at_54) rfl ?_
  show Steps p.tables e below (T0.setTop (mkF m 55 #[s0, .val (.int i1), .val (.int i2), s3, s4, s5, s6, s7, s8, s9, s10, s11, s12] [(.int i1)])) _
  refine XS.bipush X0.here hx rfl (hb hby at_55) ?_
  show Steps p.tables e below (T0.setTop (mkF m 57 #[s0, .val (.int i1), .val (.int i2), s3, s4, s5, s6, s7, s8, s9, s10, s11, s12] [(.int (8 : Int32)), (.int i1)])) _
  refine XS.iushr X0.here hx rfl (hb hby at_57) rfl ?_
  show Steps p.tables e below (T0.setTop (mkF m 58 #[s0, .val (.int i1), .val (.int i2), s3, s4, s5, s6, s7, s8, s9, s10, s11, s12] [(.int ((i1.toUInt32 >>> ((8 : Int32) &&& 31).toUInt32).toInt32))])) _
  refine XS.sipush X0.here hx rfl (hb hby at_58) ?_
  show Steps p.tables e below (T0.setTop (mkF m 61 #[s0, .val (.int i1), .val (.int i2), s3, s4, s5, s6, s7, s8, s9, s10, s11, s12] [(.int (255 : Int32)), (.int ((i1.toUInt32 >>> ((8 : Int32) &&& 31).toUInt32).toInt32))])) _
  refine XS.iand X0.here hx rfl (hb hby at_61) rfl ?_
  show Steps p.tables e below (T0.setTop (mkF m 62 #[s0, .val (.int i1), .val (.int i2), s3, s4, s5, s6, s7, s8, s9, s10, s11, s12] [(.int (((i1.toUInt32 >>> ((8 : Int32) &&& 31).toUInt32).toInt32) &&& (255 : Int32)))])) _
  refine XS.istore X0.here hx rfl (hb hby at_62) rfl (l' := #[s0, .val (.int i1), .val (.int i2), s3, s4, s5, s6, .val (.int (((i1.toUInt32 >>> ((8 : Int32) &&& 31).toUInt32).toInt32) &&& (255 : Int32))), s8, s9, s10, s11, s12]) (os0b43t_62 hs7) ?_
  exact kt
theorem os0b43f_62 {s0 : Slot} {s1 : Slot} {z2 : Value} {s3 : Slot} {z4 : Value} {s5 : Slot} {s6 : Slot} {s7 : Slot} {s8 : Slot} {s9 : Slot} {s10 : Slot} {s11 : Slot} {s12 : Slot} {v : Int32} (h : One s7) : storeLocals #[s0, s1, .val z2, s3, .val z4, s5, s6, s7, s8, s9, s10, s11, s12] 7 (.int v) = some #[s0, s1, .val z2, s3, .val z4, s5, s6, .val (.int v), s8, s9, s10, s11, s12] := by
  rcases h with rfl | ⟨w, rfl, hw⟩
  · rfl
  · cases w <;> first | rfl | (simp [Value.category] at hw)
set_option maxRecDepth 65536 in
set_option maxHeartbeats 40000000 in
theorem ps43f {p : Program} {l : Launch} {e : Env} {s : State} {m : MethodId} {args : Array Value} {below : List Frame} {meth : Method} {c : Code} {T0 : State} {locs : List Loc} {cells slots : Nat} {Z : State} {a0 : Array Value} {h0 : Heap} (s0 : Slot) (s1 : Slot) (i2 : Int32) (s3 : Slot) (i4 : Int32) (s5 : Slot) (s6 : Slot) (s7 : Slot) (s8 : Slot) (s9 : Slot) (s10 : Slot) (s11 : Slot) (s12 : Slot)
    (X0 : Stand p l e room_1 s m args below meth c T0 locs cells slots) (hx : p.tables.exec = Jvm.exec) (hZ : Z.Warmed39 s.vm) (hw : ∀ d ∈ tables_1, d.before a0 Z = true) (hby : c.code = code) (hml : c.maxLocals = 13) (hown : s.vm.findClass "com/example/nto1/nto1/IdentityEqualsPinLaw" = some m.cls) (e0 : T0.heap = h0) (hs7 : One s7) (hc46 : ¬ ((i2 &&& (2 : Int32)) = (0 : Int32))) :
    ∃ (T' : State), Stand p l e room_1 s m args below meth c T' locs cells slots ∧ T'.heap = h0 ∧
      ∀ target, Steps p.tables e below (T'.setTop (mkF m 64 #[s0, s1, .val (.int i2), s3, .val (.int i4), s5, s6, .val (.int i4), s8, s9, s10, s11, s12] [])) target → Steps p.tables e below (T0.setTop (mkF m 43 #[s0, s1, .val (.int i2), s3, .val (.int i4), s5, s6, s7, s8, s9, s10, s11, s12] [])) target := by

  refine ⟨T0, X0, e0, fun target kt => ?_⟩
  show Steps p.tables e below (T0.setTop (mkF m 43 #[s0, s1, .val (.int i2), s3, .val (.int i4), s5, s6, s7, s8, s9, s10, s11, s12] [])) _
  refine XS.iloadN X0.here hx rfl (hb hby at_43) rfl ?_
  show Steps p.tables e below (T0.setTop (mkF m 44 #[s0, s1, .val (.int i2), s3, .val (.int i4), s5, s6, s7, s8, s9, s10, s11, s12] [(.int i2)])) _
  refine XS.iconst X0.here hx rfl (hb hby at_44) ?_
  show Steps p.tables e below (T0.setTop (mkF m 45 #[s0, s1, .val (.int i2), s3, .val (.int i4), s5, s6, s7, s8, s9, s10, s11, s12] [(.int (2 : Int32)), (.int i2)])) _
  refine XS.iand X0.here hx rfl (hb hby at_45) rfl ?_
  show Steps p.tables e below (T0.setTop (mkF m 46 #[s0, s1, .val (.int i2), s3, .val (.int i4), s5, s6, s7, s8, s9, s10, s11, s12] [(.int (i2 &&& (2 : Int32)))])) _
  refine XS.ifNo X0.here hx rfl (hb hby at_46) rfl ((if0 _ _).trans (feq hc46).1) ?_
  show Steps p.tables e below (T0.setTop (mkF m 49 #[s0, s1, .val (.int i2), s3, .val (.int i4), s5, s6, s7, s8, s9, s10, s11, s12] [])) _
  refine XS.iload X0.here hx rfl (hb hby at_49) rfl ?_
  show Steps p.tables e below (T0.setTop (mkF m 51 #[s0, s1, .val (.int i2), s3, .val (.int i4), s5, s6, s7, s8, s9, s10, s11, s12] [(.int i4)])) _
  refine XS.goto X0.here hx rfl (pc0 := 51) (pc' := 62) rfl (hb hby at_51) (by decide) (by decide) ?_
  show Steps p.tables e below (T0.setTop (mkF m 62 #[s0, s1, .val (.int i2), s3, .val (.int i4), s5, s6, s7, s8, s9, s10, s11, s12] [(.int i4)])) _
  refine XS.istore X0.here hx rfl (hb hby at_62) rfl (l' := #[s0, s1, .val (.int i2), s3, .val (.int i4), s5, s6, .val (.int i4), s8, s9, s10, s11, s12]) (os0b43f_62 hs7) ?_
  exact kt
theorem os0b64t_83 {s0 : Slot} {z1 : Value} {z2 : Value} {s3 : Slot} {s4 : Slot} {s5 : Slot} {s6 : Slot} {s7 : Slot} {s8 : Slot} {s9 : Slot} {s10 : Slot} {s11 : Slot} {s12 : Slot} {v : Int32} (h : One s8) : storeLocals #[s0, .val z1, .val z2, s3, s4, s5, s6, s7, s8, s9, s10, s11, s12] 8 (.int v) = some #[s0, .val z1, .val z2, s3, s4, s5, s6, s7, .val (.int v), s9, s10, s11, s12] := by
  rcases h with rfl | ⟨w, rfl, hw⟩
  · rfl
  · cases w <;> first | rfl | (simp [Value.category] at hw)
set_option maxRecDepth 65536 in
set_option maxHeartbeats 40000000 in
theorem ps64t {p : Program} {l : Launch} {e : Env} {s : State} {m : MethodId} {args : Array Value} {below : List Frame} {meth : Method} {c : Code} {T0 : State} {locs : List Loc} {cells slots : Nat} {Z : State} {a0 : Array Value} {h0 : Heap} (s0 : Slot) (i1 : Int32) (i2 : Int32) (s3 : Slot) (s4 : Slot) (s5 : Slot) (s6 : Slot) (s7 : Slot) (s8 : Slot) (s9 : Slot) (s10 : Slot) (s11 : Slot) (s12 : Slot)
    (X0 : Stand p l e room_1 s m args below meth c T0 locs cells slots) (hx : p.tables.exec = Jvm.exec) (hZ : Z.Warmed39 s.vm) (hw : ∀ d ∈ tables_1, d.before a0 Z = true) (hby : c.code = code) (hml : c.maxLocals = 13) (hown : s.vm.findClass "com/example/nto1/nto1/IdentityEqualsPinLaw" = some m.cls) (e0 : T0.heap = h0) (hs8 : One s8) (hc67 : (i2 &&& (4 : Int32)) = (0 : Int32)) :
    ∃ (T' : State), Stand p l e room_1 s m args below meth c T' locs cells slots ∧ T'.heap = h0 ∧
      ∀ target, Steps p.tables e below (T'.setTop (mkF m 85 #[s0, .val (.int i1), .val (.int i2), s3, s4, s5, s6, s7, .val (.int (((i1.toUInt32 >>> ((16 : Int32) &&& 31).toUInt32).toInt32) &&& (255 : Int32))), s9, s10, s11, s12] [])) target → Steps p.tables e below (T0.setTop (mkF m 64 #[s0, .val (.int i1), .val (.int i2), s3, s4, s5, s6, s7, s8, s9, s10, s11, s12] [])) target := by

  refine ⟨T0, X0, e0, fun target kt => ?_⟩
  show Steps p.tables e below (T0.setTop (mkF m 64 #[s0, .val (.int i1), .val (.int i2), s3, s4, s5, s6, s7, s8, s9, s10, s11, s12] [])) _
  refine XS.iloadN X0.here hx rfl (hb hby at_64) rfl ?_
  show Steps p.tables e below (T0.setTop (mkF m 65 #[s0, .val (.int i1), .val (.int i2), s3, s4, s5, s6, s7, s8, s9, s10, s11, s12] [(.int i2)])) _
  refine XS.iconst X0.here hx rfl (hb hby at_65) ?_
  show Steps p.tables e below (T0.setTop (mkF m 66 #[s0, .val (.int i1), .val (.int i2), s3, s4, s5, s6, s7, s8, s9, s10, s11, s12] [(.int (4 : Int32)), (.int i2)])) _
  refine XS.iand X0.here hx rfl (hb hby at_66) rfl ?_
  show Steps p.tables e below (T0.setTop (mkF m 67 #[s0, .val (.int i1), .val (.int i2), s3, s4, s5, s6, s7, s8, s9, s10, s11, s12] [(.int (i2 &&& (4 : Int32)))])) _
  refine XS.ifYes X0.here hx rfl (pc0 := 67) (pc' := 75) rfl (hb hby at_67) rfl ((if0 _ _).trans (teq hc67).1) (by decide) (by decide) ?_
  show Steps p.tables e below (T0.setTop (mkF m 75 #[s0, .val (.int i1), .val (.int i2), s3, s4, s5, s6, s7, s8, s9, s10, s11, s12] [])) _
  refine XS.iloadN X0.here hx rfl (hb hby at_75) rfl ?_
  show Steps p.tables e below (T0.setTop (mkF m 76 #[s0, .val (.int i1), .val (.int i2), s3, s4, s5, s6, s7, s8, s9, s10, s11, s12] [(.int i1)])) _
  refine XS.bipush X0.here hx rfl (hb hby at_76) ?_
  show Steps p.tables e below (T0.setTop (mkF m 78 #[s0, .val (.int i1), .val (.int i2), s3, s4, s5, s6, s7, s8, s9, s10, s11, s12] [(.int (16 : Int32)), (.int i1)])) _
  refine XS.iushr X0.here hx rfl (hb hby at_78) rfl ?_
  show Steps p.tables e below (T0.setTop (mkF m 79 #[s0, .val (.int i1), .val (.int i2), s3, s4, s5, s6, s7, s8, s9, s10, s11, s12] [(.int ((i1.toUInt32 >>> ((16 : Int32) &&& 31).toUInt32).toInt32))])) _
  refine XS.sipush X0.here hx rfl (hb hby at_79) ?_
  show Steps p.tables e below (T0.setTop (mkF m 82 #[s0, .val (.int i1), .val (.int i2), s3, s4, s5, s6, s7, s8, s9, s10, s11, s12] [(.int (255 : Int32)), (.int ((i1.toUInt32 >>> ((16 : Int32) &&& 31).toUInt32).toInt32))])) _
  refine XS.iand X0.here hx rfl (hb hby at_82) rfl ?_
  show Steps p.tables e below (T0.setTop (mkF m 83 #[s0, .val (.int i1), .val (.int i2), s3, s4, s5, s6, s7, s8, s9, s10, s11, s12] [(.int (((i1.toUInt32 >>> ((16 : Int32) &&& 31).toUInt32).toInt32) &&& (255 : Int32)))])) _
  refine XS.istore X0.here hx rfl (hb hby at_83) rfl (l' := #[s0, .val (.int i1), .val (.int i2), s3, s4, s5, s6, s7, .val (.int (((i1.toUInt32 >>> ((16 : Int32) &&& 31).toUInt32).toInt32) &&& (255 : Int32))), s9, s10, s11, s12]) (os0b64t_83 hs8) ?_
  exact kt
theorem os0b64f_83 {s0 : Slot} {s1 : Slot} {z2 : Value} {s3 : Slot} {s4 : Slot} {z5 : Value} {s6 : Slot} {s7 : Slot} {s8 : Slot} {s9 : Slot} {s10 : Slot} {s11 : Slot} {s12 : Slot} {v : Int32} (h : One s8) : storeLocals #[s0, s1, .val z2, s3, s4, .val z5, s6, s7, s8, s9, s10, s11, s12] 8 (.int v) = some #[s0, s1, .val z2, s3, s4, .val z5, s6, s7, .val (.int v), s9, s10, s11, s12] := by
  rcases h with rfl | ⟨w, rfl, hw⟩
  · rfl
  · cases w <;> first | rfl | (simp [Value.category] at hw)
set_option maxRecDepth 65536 in
set_option maxHeartbeats 40000000 in
theorem ps64f {p : Program} {l : Launch} {e : Env} {s : State} {m : MethodId} {args : Array Value} {below : List Frame} {meth : Method} {c : Code} {T0 : State} {locs : List Loc} {cells slots : Nat} {Z : State} {a0 : Array Value} {h0 : Heap} (s0 : Slot) (s1 : Slot) (i2 : Int32) (s3 : Slot) (s4 : Slot) (i5 : Int32) (s6 : Slot) (s7 : Slot) (s8 : Slot) (s9 : Slot) (s10 : Slot) (s11 : Slot) (s12 : Slot)
    (X0 : Stand p l e room_1 s m args below meth c T0 locs cells slots) (hx : p.tables.exec = Jvm.exec) (hZ : Z.Warmed39 s.vm) (hw : ∀ d ∈ tables_1, d.before a0 Z = true) (hby : c.code = code) (hml : c.maxLocals = 13) (hown : s.vm.findClass "com/example/nto1/nto1/IdentityEqualsPinLaw" = some m.cls) (e0 : T0.heap = h0) (hs8 : One s8) (hc67 : ¬ ((i2 &&& (4 : Int32)) = (0 : Int32))) :
    ∃ (T' : State), Stand p l e room_1 s m args below meth c T' locs cells slots ∧ T'.heap = h0 ∧
      ∀ target, Steps p.tables e below (T'.setTop (mkF m 85 #[s0, s1, .val (.int i2), s3, s4, .val (.int i5), s6, s7, .val (.int i5), s9, s10, s11, s12] [])) target → Steps p.tables e below (T0.setTop (mkF m 64 #[s0, s1, .val (.int i2), s3, s4, .val (.int i5), s6, s7, s8, s9, s10, s11, s12] [])) target := by

  refine ⟨T0, X0, e0, fun target kt => ?_⟩
  show Steps p.tables e below (T0.setTop (mkF m 64 #[s0, s1, .val (.int i2), s3, s4, .val (.int i5), s6, s7, s8, s9, s10, s11, s12] [])) _
  refine XS.iloadN X0.here hx rfl (hb hby at_64) rfl ?_
  show Steps p.tables e below (T0.setTop (mkF m 65 #[s0, s1, .val (.int i2), s3, s4, .val (.int i5), s6, s7, s8, s9, s10, s11, s12] [(.int i2)])) _
  refine XS.iconst X0.here hx rfl (hb hby at_65) ?_
  show Steps p.tables e below (T0.setTop (mkF m 66 #[s0, s1, .val (.int i2), s3, s4, .val (.int i5), s6, s7, s8, s9, s10, s11, s12] [(.int (4 : Int32)), (.int i2)])) _
  refine XS.iand X0.here hx rfl (hb hby at_66) rfl ?_
  show Steps p.tables e below (T0.setTop (mkF m 67 #[s0, s1, .val (.int i2), s3, s4, .val (.int i5), s6, s7, s8, s9, s10, s11, s12] [(.int (i2 &&& (4 : Int32)))])) _
  refine XS.ifNo X0.here hx rfl (hb hby at_67) rfl ((if0 _ _).trans (feq hc67).1) ?_
  show Steps p.tables e below (T0.setTop (mkF m 70 #[s0, s1, .val (.int i2), s3, s4, .val (.int i5), s6, s7, s8, s9, s10, s11, s12] [])) _
  refine XS.iload X0.here hx rfl (hb hby at_70) rfl ?_
  show Steps p.tables e below (T0.setTop (mkF m 72 #[s0, s1, .val (.int i2), s3, s4, .val (.int i5), s6, s7, s8, s9, s10, s11, s12] [(.int i5)])) _
  refine XS.goto X0.here hx rfl (pc0 := 72) (pc' := 83) rfl (hb hby at_72) (by decide) (by decide) ?_
  show Steps p.tables e below (T0.setTop (mkF m 83 #[s0, s1, .val (.int i2), s3, s4, .val (.int i5), s6, s7, s8, s9, s10, s11, s12] [(.int i5)])) _
  refine XS.istore X0.here hx rfl (hb hby at_83) rfl (l' := #[s0, s1, .val (.int i2), s3, s4, .val (.int i5), s6, s7, .val (.int i5), s9, s10, s11, s12]) (os0b64f_83 hs8) ?_
  exact kt
theorem os0c_90 {s0 : Slot} {s1 : Slot} {z2 : Value} {s3 : Slot} {s4 : Slot} {s5 : Slot} {s6 : Slot} {s7 : Slot} {s8 : Slot} {s9 : Slot} {s10 : Slot} {s11 : Slot} {s12 : Slot} {v : Int32} (h : One s9) : storeLocals #[s0, s1, .val z2, s3, s4, s5, s6, s7, s8, s9, s10, s11, s12] 9 (.int v) = some #[s0, s1, .val z2, s3, s4, s5, s6, s7, s8, .val (.int v), s10, s11, s12] := by
  rcases h with rfl | ⟨w, rfl, hw⟩
  · rfl
  · cases w <;> first | rfl | (simp [Value.category] at hw)
set_option maxRecDepth 65536 in
set_option maxHeartbeats 40000000 in
theorem ps85 {p : Program} {l : Launch} {e : Env} {s : State} {m : MethodId} {args : Array Value} {below : List Frame} {meth : Method} {c : Code} {T0 : State} {locs : List Loc} {cells slots : Nat} {Z : State} {a0 : Array Value} {h0 : Heap} (s0 : Slot) (s1 : Slot) (i2 : Int32) (s3 : Slot) (s4 : Slot) (s5 : Slot) (s6 : Slot) (s7 : Slot) (s8 : Slot) (s9 : Slot) (s10 : Slot) (s11 : Slot) (s12 : Slot)
    (X0 : Stand p l e room_1 s m args below meth c T0 locs cells slots) (hx : p.tables.exec = Jvm.exec) (hZ : Z.Warmed39 s.vm) (hw : ∀ d ∈ tables_1, d.before a0 Z = true) (hby : c.code = code) (hml : c.maxLocals = 13) (hown : s.vm.findClass "com/example/nto1/nto1/IdentityEqualsPinLaw" = some m.cls) (e0 : T0.heap = h0) (hs9 : One s9) :
    ∃ (T' : State), Stand p l e room_1 s m args below meth c T' locs cells slots ∧ T'.heap = h0 ∧
      ∀ target, Steps p.tables e below (T'.setTop (mkF m 92 #[s0, s1, .val (.int i2), s3, s4, s5, s6, s7, s8, .val (.int (((i2.toUInt32 >>> ((3 : Int32) &&& 31).toUInt32).toInt32) &&& (3 : Int32))), s10, s11, s12] [])) target → Steps p.tables e below (T0.setTop (mkF m 85 #[s0, s1, .val (.int i2), s3, s4, s5, s6, s7, s8, s9, s10, s11, s12] [])) target := by

  refine ⟨T0, X0, e0, fun target kt => ?_⟩
  show Steps p.tables e below (T0.setTop (mkF m 85 #[s0, s1, .val (.int i2), s3, s4, s5, s6, s7, s8, s9, s10, s11, s12] [])) _
  refine XS.iloadN X0.here hx rfl (hb hby at_85) rfl ?_
  show Steps p.tables e below (T0.setTop (mkF m 86 #[s0, s1, .val (.int i2), s3, s4, s5, s6, s7, s8, s9, s10, s11, s12] [(.int i2)])) _
  refine XS.iconst X0.here hx rfl (hb hby at_86) ?_
  show Steps p.tables e below (T0.setTop (mkF m 87 #[s0, s1, .val (.int i2), s3, s4, s5, s6, s7, s8, s9, s10, s11, s12] [(.int (3 : Int32)), (.int i2)])) _
  refine XS.iushr X0.here hx rfl (hb hby at_87) rfl ?_
  show Steps p.tables e below (T0.setTop (mkF m 88 #[s0, s1, .val (.int i2), s3, s4, s5, s6, s7, s8, s9, s10, s11, s12] [(.int ((i2.toUInt32 >>> ((3 : Int32) &&& 31).toUInt32).toInt32))])) _
  refine XS.iconst X0.here hx rfl (hb hby at_88) ?_
  show Steps p.tables e below (T0.setTop (mkF m 89 #[s0, s1, .val (.int i2), s3, s4, s5, s6, s7, s8, s9, s10, s11, s12] [(.int (3 : Int32)), (.int ((i2.toUInt32 >>> ((3 : Int32) &&& 31).toUInt32).toInt32))])) _
  refine XS.iand X0.here hx rfl (hb hby at_89) rfl ?_
  show Steps p.tables e below (T0.setTop (mkF m 90 #[s0, s1, .val (.int i2), s3, s4, s5, s6, s7, s8, s9, s10, s11, s12] [(.int (((i2.toUInt32 >>> ((3 : Int32) &&& 31).toUInt32).toInt32) &&& (3 : Int32)))])) _
  refine XS.istore X0.here hx rfl (hb hby at_90) rfl (l' := #[s0, s1, .val (.int i2), s3, s4, s5, s6, s7, s8, .val (.int (((i2.toUInt32 >>> ((3 : Int32) &&& 31).toUInt32).toInt32) &&& (3 : Int32))), s10, s11, s12]) (os0c_90 hs9) ?_
  exact kt
def own_kd (p3 : Int32) : Int32 := (((p3.toUInt32 >>> ((3 : Int32) &&& 31).toUInt32).toInt32) &&& (3 : Int32))
set_option maxHeartbeats 4000000 in
theorem own_start {p : Program} {l : Launch} {e : Env} {s : State} {m : MethodId} {args : Array Value} {below : List Frame} {meth : Method} {c : Code} {T0 : State} {locs : List Loc} {cells slots : Nat} {Z : State} {a0 : Array Value} {h0 : Heap} (p1 p2 p3 : Int32) (X0 : Stand p l e room_1 s m args below meth c T0 locs cells slots) (hx : p.tables.exec = Jvm.exec) (hZ : Z.Warmed39 s.vm) (hw : ∀ d ∈ tables_1, d.before a0 Z = true) (hby : c.code = code) (hml : c.maxLocals = 13) (hown : s.vm.findClass "com/example/nto1/nto1/IdentityEqualsPinLaw" = some m.cls) (e0 : T0.heap = h0) :
    ∃ (T' : State) (sA oA kA sB oB kB : Int32), own_b sA ∧ own_b oA ∧ own_b kA ∧ own_b sB ∧ own_b oB ∧ own_b kB ∧ Stand p l e room_1 s m args below meth c T' locs cells slots ∧ T'.heap = h0 ∧
      ∀ target, Steps p.tables e below (T'.setTop (mkF m 92 #[.val (.int p1), .val (.int p2), .val (.int p3), .val (.int sA), .val (.int oA), .val (.int kA), .val (.int sB), .val (.int oB), .val (.int kB), .val (.int (own_kd p3)), .unset, .unset, .unset] [])) target → Steps p.tables e below (T0.setTop (mkF m 0 #[.val (.int p1), .val (.int p2), .val (.int p3), .unset, .unset, .unset, .unset, .unset, .unset, .unset, .unset, .unset, .unset] [])) target := by
  obtain ⟨T1, X1, e1, st1⟩ := ps0 p1 (.val (.int p2)) (.val (.int p3)) .unset .unset .unset .unset .unset .unset .unset .unset .unset .unset X0 hx hZ hw hby hml hown e0 One.u One.u One.u
  obtain ⟨T2, X2, e2, st2⟩ : ∃ T' : State, Stand p l e room_1 s m args below meth c T' locs cells slots ∧ T'.heap = h0 ∧ ∀ target, Steps p.tables e below (T'.setTop (mkF m 43 #[.val (.int p1), .val (.int p2), .val (.int p3), .val (.int (p1 &&& (255 : Int32))), .val (.int (((p1.toUInt32 >>> ((8 : Int32) &&& 31).toUInt32).toInt32) &&& (255 : Int32))), .val (.int (((p1.toUInt32 >>> ((16 : Int32) &&& 31).toUInt32).toInt32) &&& (255 : Int32))), .val (.int (if (p3 &&& (1 : Int32)) = (0 : Int32) then (p2 &&& (255 : Int32)) else (p1 &&& (255 : Int32)))), .unset, .unset, .unset, .unset, .unset, .unset] [])) target → Steps p.tables e below (T1.setTop (mkF m 26 #[.val (.int p1), .val (.int p2), .val (.int p3), .val (.int (p1 &&& (255 : Int32))), .val (.int (((p1.toUInt32 >>> ((8 : Int32) &&& 31).toUInt32).toInt32) &&& (255 : Int32))), .val (.int (((p1.toUInt32 >>> ((16 : Int32) &&& 31).toUInt32).toInt32) &&& (255 : Int32))), .unset, .unset, .unset, .unset, .unset, .unset, .unset] [])) target := by
    by_cases hc : (p3 &&& (1 : Int32)) = (0 : Int32)
    · rw [if_pos hc]; exact ps26t (.val (.int p1)) p2 p3 (.val (.int (p1 &&& (255 : Int32)))) (.val (.int (((p1.toUInt32 >>> ((8 : Int32) &&& 31).toUInt32).toInt32) &&& (255 : Int32)))) (.val (.int (((p1.toUInt32 >>> ((16 : Int32) &&& 31).toUInt32).toInt32) &&& (255 : Int32)))) .unset .unset .unset .unset .unset .unset .unset X1 hx hZ hw hby hml hown e1 One.u hc
    · rw [if_neg hc]; exact ps26f (.val (.int p1)) (.val (.int p2)) p3 (p1 &&& (255 : Int32)) (.val (.int (((p1.toUInt32 >>> ((8 : Int32) &&& 31).toUInt32).toInt32) &&& (255 : Int32)))) (.val (.int (((p1.toUInt32 >>> ((16 : Int32) &&& 31).toUInt32).toInt32) &&& (255 : Int32)))) .unset .unset .unset .unset .unset .unset .unset X1 hx hZ hw hby hml hown e1 One.u hc
  obtain ⟨T3, X3, e3, st3⟩ : ∃ T' : State, Stand p l e room_1 s m args below meth c T' locs cells slots ∧ T'.heap = h0 ∧ ∀ target, Steps p.tables e below (T'.setTop (mkF m 64 #[.val (.int p1), .val (.int p2), .val (.int p3), .val (.int (p1 &&& (255 : Int32))), .val (.int (((p1.toUInt32 >>> ((8 : Int32) &&& 31).toUInt32).toInt32) &&& (255 : Int32))), .val (.int (((p1.toUInt32 >>> ((16 : Int32) &&& 31).toUInt32).toInt32) &&& (255 : Int32))), .val (.int (if (p3 &&& (1 : Int32)) = (0 : Int32) then (p2 &&& (255 : Int32)) else (p1 &&& (255 : Int32)))), .val (.int (if (p3 &&& (2 : Int32)) = (0 : Int32) then (((p2.toUInt32 >>> ((8 : Int32) &&& 31).toUInt32).toInt32) &&& (255 : Int32)) else (((p1.toUInt32 >>> ((8 : Int32) &&& 31).toUInt32).toInt32) &&& (255 : Int32)))), .unset, .unset, .unset, .unset, .unset] [])) target → Steps p.tables e below (T2.setTop (mkF m 43 #[.val (.int p1), .val (.int p2), .val (.int p3), .val (.int (p1 &&& (255 : Int32))), .val (.int (((p1.toUInt32 >>> ((8 : Int32) &&& 31).toUInt32).toInt32) &&& (255 : Int32))), .val (.int (((p1.toUInt32 >>> ((16 : Int32) &&& 31).toUInt32).toInt32) &&& (255 : Int32))), .val (.int (if (p3 &&& (1 : Int32)) = (0 : Int32) then (p2 &&& (255 : Int32)) else (p1 &&& (255 : Int32)))), .unset, .unset, .unset, .unset, .unset, .unset] [])) target := by
    by_cases hc : (p3 &&& (2 : Int32)) = (0 : Int32)
    · rw [if_pos hc]; exact ps43t (.val (.int p1)) p2 p3 (.val (.int (p1 &&& (255 : Int32)))) (.val (.int (((p1.toUInt32 >>> ((8 : Int32) &&& 31).toUInt32).toInt32) &&& (255 : Int32)))) (.val (.int (((p1.toUInt32 >>> ((16 : Int32) &&& 31).toUInt32).toInt32) &&& (255 : Int32)))) (.val (.int (if (p3 &&& (1 : Int32)) = (0 : Int32) then (p2 &&& (255 : Int32)) else (p1 &&& (255 : Int32))))) .unset .unset .unset .unset .unset .unset X2 hx hZ hw hby hml hown e2 One.u hc
    · rw [if_neg hc]; exact ps43f (.val (.int p1)) (.val (.int p2)) p3 (.val (.int (p1 &&& (255 : Int32)))) (((p1.toUInt32 >>> ((8 : Int32) &&& 31).toUInt32).toInt32) &&& (255 : Int32)) (.val (.int (((p1.toUInt32 >>> ((16 : Int32) &&& 31).toUInt32).toInt32) &&& (255 : Int32)))) (.val (.int (if (p3 &&& (1 : Int32)) = (0 : Int32) then (p2 &&& (255 : Int32)) else (p1 &&& (255 : Int32))))) .unset .unset .unset .unset .unset .unset X2 hx hZ hw hby hml hown e2 One.u hc
  obtain ⟨T4, X4, e4, st4⟩ : ∃ T' : State, Stand p l e room_1 s m args below meth c T' locs cells slots ∧ T'.heap = h0 ∧ ∀ target, Steps p.tables e below (T'.setTop (mkF m 85 #[.val (.int p1), .val (.int p2), .val (.int p3), .val (.int (p1 &&& (255 : Int32))), .val (.int (((p1.toUInt32 >>> ((8 : Int32) &&& 31).toUInt32).toInt32) &&& (255 : Int32))), .val (.int (((p1.toUInt32 >>> ((16 : Int32) &&& 31).toUInt32).toInt32) &&& (255 : Int32))), .val (.int (if (p3 &&& (1 : Int32)) = (0 : Int32) then (p2 &&& (255 : Int32)) else (p1 &&& (255 : Int32)))), .val (.int (if (p3 &&& (2 : Int32)) = (0 : Int32) then (((p2.toUInt32 >>> ((8 : Int32) &&& 31).toUInt32).toInt32) &&& (255 : Int32)) else (((p1.toUInt32 >>> ((8 : Int32) &&& 31).toUInt32).toInt32) &&& (255 : Int32)))), .val (.int (if (p3 &&& (4 : Int32)) = (0 : Int32) then (((p2.toUInt32 >>> ((16 : Int32) &&& 31).toUInt32).toInt32) &&& (255 : Int32)) else (((p1.toUInt32 >>> ((16 : Int32) &&& 31).toUInt32).toInt32) &&& (255 : Int32)))), .unset, .unset, .unset, .unset] [])) target → Steps p.tables e below (T3.setTop (mkF m 64 #[.val (.int p1), .val (.int p2), .val (.int p3), .val (.int (p1 &&& (255 : Int32))), .val (.int (((p1.toUInt32 >>> ((8 : Int32) &&& 31).toUInt32).toInt32) &&& (255 : Int32))), .val (.int (((p1.toUInt32 >>> ((16 : Int32) &&& 31).toUInt32).toInt32) &&& (255 : Int32))), .val (.int (if (p3 &&& (1 : Int32)) = (0 : Int32) then (p2 &&& (255 : Int32)) else (p1 &&& (255 : Int32)))), .val (.int (if (p3 &&& (2 : Int32)) = (0 : Int32) then (((p2.toUInt32 >>> ((8 : Int32) &&& 31).toUInt32).toInt32) &&& (255 : Int32)) else (((p1.toUInt32 >>> ((8 : Int32) &&& 31).toUInt32).toInt32) &&& (255 : Int32)))), .unset, .unset, .unset, .unset, .unset] [])) target := by
    by_cases hc : (p3 &&& (4 : Int32)) = (0 : Int32)
    · rw [if_pos hc]; exact ps64t (.val (.int p1)) p2 p3 (.val (.int (p1 &&& (255 : Int32)))) (.val (.int (((p1.toUInt32 >>> ((8 : Int32) &&& 31).toUInt32).toInt32) &&& (255 : Int32)))) (.val (.int (((p1.toUInt32 >>> ((16 : Int32) &&& 31).toUInt32).toInt32) &&& (255 : Int32)))) (.val (.int (if (p3 &&& (1 : Int32)) = (0 : Int32) then (p2 &&& (255 : Int32)) else (p1 &&& (255 : Int32))))) (.val (.int (if (p3 &&& (2 : Int32)) = (0 : Int32) then (((p2.toUInt32 >>> ((8 : Int32) &&& 31).toUInt32).toInt32) &&& (255 : Int32)) else (((p1.toUInt32 >>> ((8 : Int32) &&& 31).toUInt32).toInt32) &&& (255 : Int32))))) .unset .unset .unset .unset .unset X3 hx hZ hw hby hml hown e3 One.u hc
    · rw [if_neg hc]; exact ps64f (.val (.int p1)) (.val (.int p2)) p3 (.val (.int (p1 &&& (255 : Int32)))) (.val (.int (((p1.toUInt32 >>> ((8 : Int32) &&& 31).toUInt32).toInt32) &&& (255 : Int32)))) (((p1.toUInt32 >>> ((16 : Int32) &&& 31).toUInt32).toInt32) &&& (255 : Int32)) (.val (.int (if (p3 &&& (1 : Int32)) = (0 : Int32) then (p2 &&& (255 : Int32)) else (p1 &&& (255 : Int32))))) (.val (.int (if (p3 &&& (2 : Int32)) = (0 : Int32) then (((p2.toUInt32 >>> ((8 : Int32) &&& 31).toUInt32).toInt32) &&& (255 : Int32)) else (((p1.toUInt32 >>> ((8 : Int32) &&& 31).toUInt32).toInt32) &&& (255 : Int32))))) .unset .unset .unset .unset .unset X3 hx hZ hw hby hml hown e3 One.u hc
  obtain ⟨T5, X5, e5, st5⟩ := ps85 (.val (.int p1)) (.val (.int p2)) p3 (.val (.int (p1 &&& (255 : Int32)))) (.val (.int (((p1.toUInt32 >>> ((8 : Int32) &&& 31).toUInt32).toInt32) &&& (255 : Int32)))) (.val (.int (((p1.toUInt32 >>> ((16 : Int32) &&& 31).toUInt32).toInt32) &&& (255 : Int32)))) (.val (.int (if (p3 &&& (1 : Int32)) = (0 : Int32) then (p2 &&& (255 : Int32)) else (p1 &&& (255 : Int32))))) (.val (.int (if (p3 &&& (2 : Int32)) = (0 : Int32) then (((p2.toUInt32 >>> ((8 : Int32) &&& 31).toUInt32).toInt32) &&& (255 : Int32)) else (((p1.toUInt32 >>> ((8 : Int32) &&& 31).toUInt32).toInt32) &&& (255 : Int32))))) (.val (.int (if (p3 &&& (4 : Int32)) = (0 : Int32) then (((p2.toUInt32 >>> ((16 : Int32) &&& 31).toUInt32).toInt32) &&& (255 : Int32)) else (((p1.toUInt32 >>> ((16 : Int32) &&& 31).toUInt32).toInt32) &&& (255 : Int32))))) .unset .unset .unset .unset X4 hx hZ hw hby hml hown e4 One.u
  exact ⟨T5, _, _, _, _, _, _, own_and255 _, own_and255 _, own_and255 _, own_b_ite (own_and255 _) (own_and255 _), own_b_ite (own_and255 _) (own_and255 _), own_b_ite (own_and255 _) (own_and255 _), X5, e5, fun target kt => st1 target (st2 target (st3 target (st4 target (st5 target kt))))⟩
theorem pd_0_21 : parseMethodDescriptor "(III)Z" = some ⟨[.int, .int, .int], some .boolean⟩ := by decide +kernel
theorem os0xt_243 {s0 : Slot} {s1 : Slot} {s2 : Slot} {z3 : Value} {s4 : Slot} {s5 : Slot} {z6 : Value} {s7 : Slot} {s8 : Slot} {s9 : Slot} {s10 : Slot} {s11 : Slot} {s12 : Slot} {v : Int32} (h : One s12) : storeLocals #[s0, s1, s2, .val z3, s4, s5, .val z6, s7, s8, s9, s10, s11, s12] 12 (.int v) = some #[s0, s1, s2, .val z3, s4, s5, .val z6, s7, s8, s9, s10, s11, .val (.int v)] := by
  rcases h with rfl | ⟨w, rfl, hw⟩
  · rfl
  · cases w <;> first | rfl | (simp [Value.category] at hw)
set_option maxRecDepth 65536 in
set_option maxHeartbeats 40000000 in
theorem pxt {p : Program} {l : Launch} {e : Env} {s : State} {m : MethodId} {args : Array Value} {below : List Frame} {meth : Method} {c : Code} {T0 : State} {locs : List Loc} {cells slots : Nat} {Z : State} {a0 : Array Value} {h0 : Heap} (s0 : Slot) (s1 : Slot) (s2 : Slot) (i3 : Int32) (s4 : Slot) (s5 : Slot) (i6 : Int32) (s7 : Slot) (s8 : Slot) (s9 : Slot) (s10 : Slot) (s11 : Slot) (s12 : Slot) (n0 : Nat)
    (X0 : Stand p l e room_1 s m args below meth c T0 locs cells slots) (hx : p.tables.exec = Jvm.exec) (hZ : Z.Warmed39 s.vm) (hw : ∀ d ∈ tables_1, d.before a0 Z = true) (hby : c.code = code) (hml : c.maxLocals = 13) (hown : s.vm.findClass "com/example/nto1/nto1/IdentityEqualsPinLaw" = some m.cls) (e0 : T0.heap = h0) (Z0 : n0 ≤ h0.size) (N0 : Fr n0 locs) (hcl : cells ≤ 56) (hsl : slots ≤ 4352) (k1 : own_same i3 i6 0 = 0) (hs12 : One s12) :
    ∃ (T' : State) (locs' : List Loc), Stand p l e room_1 s m args below meth c T' locs' cells slots ∧ T'.heap = h0 ∧ Fr n0 locs' ∧
      ∀ target, Steps p.tables e below (T'.setTop (mkF m 245 #[s0, s1, s2, .val (.int i3), s4, s5, .val (.int i6), s7, s8, s9, s10, s11, .val (.int (0 : Int32))] [])) target → Steps p.tables e below (T0.setTop (mkF m 206 #[s0, s1, s2, .val (.int i3), s4, s5, .val (.int i6), s7, s8, s9, s10, s11, s12] [])) target := by
  obtain ⟨_, _, ⟨T4, L4, k4, n4⟩, -, X4, ⟨Lc4, hQ4, l4, y4, z4⟩, st4⟩ := Jvm.LawKit.callS X0 hx (y := (⟨"com/example/nto1/nto1/IdentityEqualsPinLaw", "same", "(III)Z"⟩ : MethodName)) hown (mvT hZ (hw _ (List.mem_of_getElem? (i := 115) rfl))) (mvT hZ (hw _ (List.mem_of_getElem? (i := 116) rfl))) (mvT hZ (hw _ (List.mem_of_getElem? (i := 5) rfl))) (mvT hZ (hw _ (List.mem_of_getElem? (i := 117) rfl))) (by decide) (backOf (W := 0) (rm24 l Z a0 hw [] i3 i6 (0 : Int32) h0 n0 Z0) hZ (hw _ (List.mem_of_getElem? (i := 117) rfl)) (hw _ (List.mem_of_getElem? (i := 5) rfl)) (by decide) (by decide)) (g := (mkF m 210 #[s0, s1, s2, .val (.int i3), s4, s5, .val (.int i6), s7, s8, s9, s10, s11, s12] [(.int (0 : Int32)), (.int i6), (.int i3)])) rfl (by rw [hml]; rfl) (argsL := [(.int i3), (.int i6), (.int (0 : Int32))]) (rest := []) (lenOf pd_0_21 rfl) rfl (by show 2 * 0 + _ ≤ _; exact Nat.le_of_eq rfl) (hb hby at_210) (fun _ _ => ⟨rfl, e0, hcl, hsl⟩)
  dsimp only [Pt.U, Pt.locs, Pt.cells, Pt.slots] at X4 l4 y4 z4 st4 hQ4
  subst l4 y4 z4
  obtain ⟨rfl, N4q, E4q⟩ := hQ4
  have K4q : Keep h0 T4.heap [] := by rw [E4q]; exact Keep.refl _ _
  have Z4 : n0 ≤ T4.heap.size := Nat.le_trans Z0 K4q.1
  have N4 := Fr.app N0 N4q
  refine ⟨T4, _, X4, E4q, N4, fun target kt => ?_⟩
  show Steps p.tables e below (T0.setTop (mkF m 206 #[s0, s1, s2, .val (.int i3), s4, s5, .val (.int i6), s7, s8, s9, s10, s11, s12] [])) _
  refine XS.iloadN X0.here hx rfl (hb hby at_206) rfl ?_
  show Steps p.tables e below (T0.setTop (mkF m 207 #[s0, s1, s2, .val (.int i3), s4, s5, .val (.int i6), s7, s8, s9, s10, s11, s12] [(.int i3)])) _
  refine XS.iload X0.here hx rfl (hb hby at_207) rfl ?_
  show Steps p.tables e below (T0.setTop (mkF m 209 #[s0, s1, s2, .val (.int i3), s4, s5, .val (.int i6), s7, s8, s9, s10, s11, s12] [(.int i6), (.int i3)])) _
  refine XS.iconst X0.here hx rfl (hb hby at_209) ?_
  show Steps p.tables e below (T0.setTop (mkF m 210 #[s0, s1, s2, .val (.int i3), s4, s5, .val (.int i6), s7, s8, s9, s10, s11, s12] [(.int (0 : Int32)), (.int i6), (.int i3)])) _
  refine st4 _ ?_
  show Steps p.tables e below (T4.setTop (mkF m 213 #[s0, s1, s2, .val (.int i3), s4, s5, .val (.int i6), s7, s8, s9, s10, s11, s12] [(.int (own_same i3 i6 0))])) _
  refine XS.ifYes X4.here hx rfl (pc0 := 213) (pc' := 242) rfl (hb hby at_213) rfl ((if0 _ _).trans (teq (k1 : (own_same i3 i6 0) = (0 : Int32))).1) (by decide) (by decide) ?_
  show Steps p.tables e below (T4.setTop (mkF m 242 #[s0, s1, s2, .val (.int i3), s4, s5, .val (.int i6), s7, s8, s9, s10, s11, s12] [])) _
  refine XS.iconst X4.here hx rfl (hb hby at_242) ?_
  show Steps p.tables e below (T4.setTop (mkF m 243 #[s0, s1, s2, .val (.int i3), s4, s5, .val (.int i6), s7, s8, s9, s10, s11, s12] [(.int (0 : Int32))])) _
  refine XS.istore X4.here hx rfl (hb hby at_243) rfl (l' := #[s0, s1, s2, .val (.int i3), s4, s5, .val (.int i6), s7, s8, s9, s10, s11, .val (.int (0 : Int32))]) (os0xt_243 hs12) ?_
  exact kt
theorem os0xft_243 {s0 : Slot} {s1 : Slot} {s2 : Slot} {z3 : Value} {z4 : Value} {s5 : Slot} {z6 : Value} {z7 : Value} {s8 : Slot} {s9 : Slot} {s10 : Slot} {s11 : Slot} {s12 : Slot} {v : Int32} (h : One s12) : storeLocals #[s0, s1, s2, .val z3, .val z4, s5, .val z6, .val z7, s8, s9, s10, s11, s12] 12 (.int v) = some #[s0, s1, s2, .val z3, .val z4, s5, .val z6, .val z7, s8, s9, s10, s11, .val (.int v)] := by
  rcases h with rfl | ⟨w, rfl, hw⟩
  · rfl
  · cases w <;> first | rfl | (simp [Value.category] at hw)
set_option maxRecDepth 65536 in
set_option maxHeartbeats 40000000 in
theorem pxft {p : Program} {l : Launch} {e : Env} {s : State} {m : MethodId} {args : Array Value} {below : List Frame} {meth : Method} {c : Code} {T0 : State} {locs : List Loc} {cells slots : Nat} {Z : State} {a0 : Array Value} {h0 : Heap} (s0 : Slot) (s1 : Slot) (s2 : Slot) (i3 : Int32) (i4 : Int32) (s5 : Slot) (i6 : Int32) (i7 : Int32) (s8 : Slot) (s9 : Slot) (s10 : Slot) (s11 : Slot) (s12 : Slot) (n0 : Nat)
    (X0 : Stand p l e room_1 s m args below meth c T0 locs cells slots) (hx : p.tables.exec = Jvm.exec) (hZ : Z.Warmed39 s.vm) (hw : ∀ d ∈ tables_1, d.before a0 Z = true) (hby : c.code = code) (hml : c.maxLocals = 13) (hown : s.vm.findClass "com/example/nto1/nto1/IdentityEqualsPinLaw" = some m.cls) (e0 : T0.heap = h0) (Z0 : n0 ≤ h0.size) (N0 : Fr n0 locs) (hcl : cells ≤ 56) (hsl : slots ≤ 4352) (k1 : ¬ own_same i3 i6 0 = 0) (k2 : own_same i4 i7 1 = 0) (hs12 : One s12) :
    ∃ (T' : State) (locs' : List Loc), Stand p l e room_1 s m args below meth c T' locs' cells slots ∧ T'.heap = h0 ∧ Fr n0 locs' ∧
      ∀ target, Steps p.tables e below (T'.setTop (mkF m 245 #[s0, s1, s2, .val (.int i3), .val (.int i4), s5, .val (.int i6), .val (.int i7), s8, s9, s10, s11, .val (.int (0 : Int32))] [])) target → Steps p.tables e below (T0.setTop (mkF m 206 #[s0, s1, s2, .val (.int i3), .val (.int i4), s5, .val (.int i6), .val (.int i7), s8, s9, s10, s11, s12] [])) target := by
  obtain ⟨_, _, ⟨T4, L4, k4, n4⟩, -, X4, ⟨Lc4, hQ4, l4, y4, z4⟩, st4⟩ := Jvm.LawKit.callS X0 hx (y := (⟨"com/example/nto1/nto1/IdentityEqualsPinLaw", "same", "(III)Z"⟩ : MethodName)) hown (mvT hZ (hw _ (List.mem_of_getElem? (i := 115) rfl))) (mvT hZ (hw _ (List.mem_of_getElem? (i := 116) rfl))) (mvT hZ (hw _ (List.mem_of_getElem? (i := 5) rfl))) (mvT hZ (hw _ (List.mem_of_getElem? (i := 117) rfl))) (by decide) (backOf (W := 0) (rm24 l Z a0 hw [] i3 i6 (0 : Int32) h0 n0 Z0) hZ (hw _ (List.mem_of_getElem? (i := 117) rfl)) (hw _ (List.mem_of_getElem? (i := 5) rfl)) (by decide) (by decide)) (g := (mkF m 210 #[s0, s1, s2, .val (.int i3), .val (.int i4), s5, .val (.int i6), .val (.int i7), s8, s9, s10, s11, s12] [(.int (0 : Int32)), (.int i6), (.int i3)])) rfl (by rw [hml]; rfl) (argsL := [(.int i3), (.int i6), (.int (0 : Int32))]) (rest := []) (lenOf pd_0_21 rfl) rfl (by show 2 * 0 + _ ≤ _; exact Nat.le_of_eq rfl) (hb hby at_210) (fun _ _ => ⟨rfl, e0, hcl, hsl⟩)
  dsimp only [Pt.U, Pt.locs, Pt.cells, Pt.slots] at X4 l4 y4 z4 st4 hQ4
  subst l4 y4 z4
  obtain ⟨rfl, N4q, E4q⟩ := hQ4
  have K4q : Keep h0 T4.heap [] := by rw [E4q]; exact Keep.refl _ _
  have Z4 : n0 ≤ T4.heap.size := Nat.le_trans Z0 K4q.1
  have N4 := Fr.app N0 N4q
  obtain ⟨_, _, ⟨T5, L5, k5, n5⟩, -, X5, ⟨Lc5, hQ5, l5, y5, z5⟩, st5⟩ := Jvm.LawKit.callS X4 hx (y := (⟨"com/example/nto1/nto1/IdentityEqualsPinLaw", "same", "(III)Z"⟩ : MethodName)) hown (mvT hZ (hw _ (List.mem_of_getElem? (i := 115) rfl))) (mvT hZ (hw _ (List.mem_of_getElem? (i := 116) rfl))) (mvT hZ (hw _ (List.mem_of_getElem? (i := 5) rfl))) (mvT hZ (hw _ (List.mem_of_getElem? (i := 117) rfl))) (by decide) (backOf (W := 0) (rm24 l Z a0 hw [] i4 i7 (1 : Int32) T4.heap n0 Z4) hZ (hw _ (List.mem_of_getElem? (i := 117) rfl)) (hw _ (List.mem_of_getElem? (i := 5) rfl)) (by decide) (by decide)) (g := (mkF m 221 #[s0, s1, s2, .val (.int i3), .val (.int i4), s5, .val (.int i6), .val (.int i7), s8, s9, s10, s11, s12] [(.int (1 : Int32)), (.int i7), (.int i4)])) rfl (by rw [hml]; rfl) (argsL := [(.int i4), (.int i7), (.int (1 : Int32))]) (rest := []) (lenOf pd_0_21 rfl) rfl (by show 2 * 0 + _ ≤ _; exact Nat.le_of_eq rfl) (hb hby at_221) (fun _ _ => ⟨rfl, rfl, hcl, hsl⟩)
  dsimp only [Pt.U, Pt.locs, Pt.cells, Pt.slots] at X5 l5 y5 z5 st5 hQ5
  subst l5 y5 z5
  obtain ⟨rfl, N5q, E5q⟩ := hQ5
  have K5q : Keep T4.heap T5.heap [] := by rw [E5q]; exact Keep.refl _ _
  have Z5 : n0 ≤ T5.heap.size := Nat.le_trans Z4 K5q.1
  have N5 := Fr.app N4 N5q
  refine ⟨T5, _, X5, E5q.trans (E4q), N5, fun target kt => ?_⟩
  show Steps p.tables e below (T0.setTop (mkF m 206 #[s0, s1, s2, .val (.int i3), .val (.int i4), s5, .val (.int i6), .val (.int i7), s8, s9, s10, s11, s12] [])) _
  refine XS.iloadN X0.here hx rfl (hb hby at_206) rfl ?_
  show Steps p.tables e below (T0.setTop (mkF m 207 #[s0, s1, s2, .val (.int i3), .val (.int i4), s5, .val (.int i6), .val (.int i7), s8, s9, s10, s11, s12] [(.int i3)])) _
  refine XS.iload X0.here hx rfl (hb hby at_207) rfl ?_
  show Steps p.tables e below (T0.setTop (mkF m 209 #[s0, s1, s2, .val (.int i3), .val (.int i4), s5, .val (.int i6), .val (.int i7), s8, s9, s10, s11, s12] [(.int i6), (.int i3)])) _
  refine XS.iconst X0.here hx rfl (hb hby at_209) ?_
  show Steps p.tables e below (T0.setTop (mkF m 210 #[s0, s1, s2, .val (.int i3), .val (.int i4), s5, .val (.int i6), .val (.int i7), s8, s9, s10, s11, s12] [(.int (0 : Int32)), (.int i6), (.int i3)])) _
  refine st4 _ ?_
  show Steps p.tables e below (T4.setTop (mkF m 213 #[s0, s1, s2, .val (.int i3), .val (.int i4), s5, .val (.int i6), .val (.int i7), s8, s9, s10, s11, s12] [(.int (own_same i3 i6 0))])) _
  refine XS.ifNo X4.here hx rfl (hb hby at_213) rfl ((if0 _ _).trans (feq (k1 : ¬ ((own_same i3 i6 0) = (0 : Int32)))).1) ?_
  show Steps p.tables e below (T4.setTop (mkF m 216 #[s0, s1, s2, .val (.int i3), .val (.int i4), s5, .val (.int i6), .val (.int i7), s8, s9, s10, s11, s12] [])) _
  refine XS.iload X4.here hx rfl (hb hby at_216) rfl ?_
  show Steps p.tables e below (T4.setTop (mkF m 218 #[s0, s1, s2, .val (.int i3), .val (.int i4), s5, .val (.int i6), .val (.int i7), s8, s9, s10, s11, s12] [(.int i4)])) _
  refine XS.iload X4.here hx rfl (hb hby at_218) rfl ?_
  show Steps p.tables e below (T4.setTop (mkF m 220 #[s0, s1, s2, .val (.int i3), .val (.int i4), s5, .val (.int i6), .val (.int i7), s8, s9, s10, s11, s12] [(.int i7), (.int i4)])) _
  refine XS.iconst X4.here hx rfl (hb hby at_220) ?_
  show Steps p.tables e below (T4.setTop (mkF m 221 #[s0, s1, s2, .val (.int i3), .val (.int i4), s5, .val (.int i6), .val (.int i7), s8, s9, s10, s11, s12] [(.int (1 : Int32)), (.int i7), (.int i4)])) _
  refine st5 _ ?_
  show Steps p.tables e below (T5.setTop (mkF m 224 #[s0, s1, s2, .val (.int i3), .val (.int i4), s5, .val (.int i6), .val (.int i7), s8, s9, s10, s11, s12] [(.int (own_same i4 i7 1))])) _
  refine XS.ifYes X5.here hx rfl (pc0 := 224) (pc' := 242) rfl (hb hby at_224) rfl ((if0 _ _).trans (teq (k2 : (own_same i4 i7 1) = (0 : Int32))).1) (by decide) (by decide) ?_
  show Steps p.tables e below (T5.setTop (mkF m 242 #[s0, s1, s2, .val (.int i3), .val (.int i4), s5, .val (.int i6), .val (.int i7), s8, s9, s10, s11, s12] [])) _
  refine XS.iconst X5.here hx rfl (hb hby at_242) ?_
  show Steps p.tables e below (T5.setTop (mkF m 243 #[s0, s1, s2, .val (.int i3), .val (.int i4), s5, .val (.int i6), .val (.int i7), s8, s9, s10, s11, s12] [(.int (0 : Int32))])) _
  refine XS.istore X5.here hx rfl (hb hby at_243) rfl (l' := #[s0, s1, s2, .val (.int i3), .val (.int i4), s5, .val (.int i6), .val (.int i7), s8, s9, s10, s11, .val (.int (0 : Int32))]) (os0xft_243 hs12) ?_
  exact kt
theorem os0xfft_243 {s0 : Slot} {s1 : Slot} {s2 : Slot} {z3 : Value} {z4 : Value} {z5 : Value} {z6 : Value} {z7 : Value} {z8 : Value} {s9 : Slot} {s10 : Slot} {s11 : Slot} {s12 : Slot} {v : Int32} (h : One s12) : storeLocals #[s0, s1, s2, .val z3, .val z4, .val z5, .val z6, .val z7, .val z8, s9, s10, s11, s12] 12 (.int v) = some #[s0, s1, s2, .val z3, .val z4, .val z5, .val z6, .val z7, .val z8, s9, s10, s11, .val (.int v)] := by
  rcases h with rfl | ⟨w, rfl, hw⟩
  · rfl
  · cases w <;> first | rfl | (simp [Value.category] at hw)
set_option maxRecDepth 65536 in
set_option maxHeartbeats 40000000 in
theorem pxfft {p : Program} {l : Launch} {e : Env} {s : State} {m : MethodId} {args : Array Value} {below : List Frame} {meth : Method} {c : Code} {T0 : State} {locs : List Loc} {cells slots : Nat} {Z : State} {a0 : Array Value} {h0 : Heap} (s0 : Slot) (s1 : Slot) (s2 : Slot) (i3 : Int32) (i4 : Int32) (i5 : Int32) (i6 : Int32) (i7 : Int32) (i8 : Int32) (s9 : Slot) (s10 : Slot) (s11 : Slot) (s12 : Slot) (n0 : Nat)
    (X0 : Stand p l e room_1 s m args below meth c T0 locs cells slots) (hx : p.tables.exec = Jvm.exec) (hZ : Z.Warmed39 s.vm) (hw : ∀ d ∈ tables_1, d.before a0 Z = true) (hby : c.code = code) (hml : c.maxLocals = 13) (hown : s.vm.findClass "com/example/nto1/nto1/IdentityEqualsPinLaw" = some m.cls) (e0 : T0.heap = h0) (Z0 : n0 ≤ h0.size) (N0 : Fr n0 locs) (hcl : cells ≤ 56) (hsl : slots ≤ 4352) (k1 : ¬ own_same i3 i6 0 = 0) (k2 : ¬ own_same i4 i7 1 = 0) (k3 : own_same i5 i8 1 = 0) (hs12 : One s12) :
    ∃ (T' : State) (locs' : List Loc), Stand p l e room_1 s m args below meth c T' locs' cells slots ∧ T'.heap = h0 ∧ Fr n0 locs' ∧
      ∀ target, Steps p.tables e below (T'.setTop (mkF m 245 #[s0, s1, s2, .val (.int i3), .val (.int i4), .val (.int i5), .val (.int i6), .val (.int i7), .val (.int i8), s9, s10, s11, .val (.int (0 : Int32))] [])) target → Steps p.tables e below (T0.setTop (mkF m 206 #[s0, s1, s2, .val (.int i3), .val (.int i4), .val (.int i5), .val (.int i6), .val (.int i7), .val (.int i8), s9, s10, s11, s12] [])) target := by
  obtain ⟨_, _, ⟨T4, L4, k4, n4⟩, -, X4, ⟨Lc4, hQ4, l4, y4, z4⟩, st4⟩ := Jvm.LawKit.callS X0 hx (y := (⟨"com/example/nto1/nto1/IdentityEqualsPinLaw", "same", "(III)Z"⟩ : MethodName)) hown (mvT hZ (hw _ (List.mem_of_getElem? (i := 115) rfl))) (mvT hZ (hw _ (List.mem_of_getElem? (i := 116) rfl))) (mvT hZ (hw _ (List.mem_of_getElem? (i := 5) rfl))) (mvT hZ (hw _ (List.mem_of_getElem? (i := 117) rfl))) (by decide) (backOf (W := 0) (rm24 l Z a0 hw [] i3 i6 (0 : Int32) h0 n0 Z0) hZ (hw _ (List.mem_of_getElem? (i := 117) rfl)) (hw _ (List.mem_of_getElem? (i := 5) rfl)) (by decide) (by decide)) (g := (mkF m 210 #[s0, s1, s2, .val (.int i3), .val (.int i4), .val (.int i5), .val (.int i6), .val (.int i7), .val (.int i8), s9, s10, s11, s12] [(.int (0 : Int32)), (.int i6), (.int i3)])) rfl (by rw [hml]; rfl) (argsL := [(.int i3), (.int i6), (.int (0 : Int32))]) (rest := []) (lenOf pd_0_21 rfl) rfl (by show 2 * 0 + _ ≤ _; exact Nat.le_of_eq rfl) (hb hby at_210) (fun _ _ => ⟨rfl, e0, hcl, hsl⟩)
  dsimp only [Pt.U, Pt.locs, Pt.cells, Pt.slots] at X4 l4 y4 z4 st4 hQ4
  subst l4 y4 z4
  obtain ⟨rfl, N4q, E4q⟩ := hQ4
  have K4q : Keep h0 T4.heap [] := by rw [E4q]; exact Keep.refl _ _
  have Z4 : n0 ≤ T4.heap.size := Nat.le_trans Z0 K4q.1
  have N4 := Fr.app N0 N4q
  obtain ⟨_, _, ⟨T5, L5, k5, n5⟩, -, X5, ⟨Lc5, hQ5, l5, y5, z5⟩, st5⟩ := Jvm.LawKit.callS X4 hx (y := (⟨"com/example/nto1/nto1/IdentityEqualsPinLaw", "same", "(III)Z"⟩ : MethodName)) hown (mvT hZ (hw _ (List.mem_of_getElem? (i := 115) rfl))) (mvT hZ (hw _ (List.mem_of_getElem? (i := 116) rfl))) (mvT hZ (hw _ (List.mem_of_getElem? (i := 5) rfl))) (mvT hZ (hw _ (List.mem_of_getElem? (i := 117) rfl))) (by decide) (backOf (W := 0) (rm24 l Z a0 hw [] i4 i7 (1 : Int32) T4.heap n0 Z4) hZ (hw _ (List.mem_of_getElem? (i := 117) rfl)) (hw _ (List.mem_of_getElem? (i := 5) rfl)) (by decide) (by decide)) (g := (mkF m 221 #[s0, s1, s2, .val (.int i3), .val (.int i4), .val (.int i5), .val (.int i6), .val (.int i7), .val (.int i8), s9, s10, s11, s12] [(.int (1 : Int32)), (.int i7), (.int i4)])) rfl (by rw [hml]; rfl) (argsL := [(.int i4), (.int i7), (.int (1 : Int32))]) (rest := []) (lenOf pd_0_21 rfl) rfl (by show 2 * 0 + _ ≤ _; exact Nat.le_of_eq rfl) (hb hby at_221) (fun _ _ => ⟨rfl, rfl, hcl, hsl⟩)
  dsimp only [Pt.U, Pt.locs, Pt.cells, Pt.slots] at X5 l5 y5 z5 st5 hQ5
  subst l5 y5 z5
  obtain ⟨rfl, N5q, E5q⟩ := hQ5
  have K5q : Keep T4.heap T5.heap [] := by rw [E5q]; exact Keep.refl _ _
  have Z5 : n0 ≤ T5.heap.size := Nat.le_trans Z4 K5q.1
  have N5 := Fr.app N4 N5q
  obtain ⟨_, _, ⟨T6, L6, k6, n6⟩, -, X6, ⟨Lc6, hQ6, l6, y6, z6⟩, st6⟩ := Jvm.LawKit.callS X5 hx (y := (⟨"com/example/nto1/nto1/IdentityEqualsPinLaw", "same", "(III)Z"⟩ : MethodName)) hown (mvT hZ (hw _ (List.mem_of_getElem? (i := 115) rfl))) (mvT hZ (hw _ (List.mem_of_getElem? (i := 116) rfl))) (mvT hZ (hw _ (List.mem_of_getElem? (i := 5) rfl))) (mvT hZ (hw _ (List.mem_of_getElem? (i := 117) rfl))) (by decide) (backOf (W := 0) (rm24 l Z a0 hw [] i5 i8 (1 : Int32) T5.heap n0 Z5) hZ (hw _ (List.mem_of_getElem? (i := 117) rfl)) (hw _ (List.mem_of_getElem? (i := 5) rfl)) (by decide) (by decide)) (g := (mkF m 232 #[s0, s1, s2, .val (.int i3), .val (.int i4), .val (.int i5), .val (.int i6), .val (.int i7), .val (.int i8), s9, s10, s11, s12] [(.int (1 : Int32)), (.int i8), (.int i5)])) rfl (by rw [hml]; rfl) (argsL := [(.int i5), (.int i8), (.int (1 : Int32))]) (rest := []) (lenOf pd_0_21 rfl) rfl (by show 2 * 0 + _ ≤ _; exact Nat.le_of_eq rfl) (hb hby at_232) (fun _ _ => ⟨rfl, rfl, hcl, hsl⟩)
  dsimp only [Pt.U, Pt.locs, Pt.cells, Pt.slots] at X6 l6 y6 z6 st6 hQ6
  subst l6 y6 z6
  obtain ⟨rfl, N6q, E6q⟩ := hQ6
  have K6q : Keep T5.heap T6.heap [] := by rw [E6q]; exact Keep.refl _ _
  have Z6 : n0 ≤ T6.heap.size := Nat.le_trans Z5 K6q.1
  have N6 := Fr.app N5 N6q
  refine ⟨T6, _, X6, E6q.trans (E5q.trans (E4q)), N6, fun target kt => ?_⟩
  show Steps p.tables e below (T0.setTop (mkF m 206 #[s0, s1, s2, .val (.int i3), .val (.int i4), .val (.int i5), .val (.int i6), .val (.int i7), .val (.int i8), s9, s10, s11, s12] [])) _
  refine XS.iloadN X0.here hx rfl (hb hby at_206) rfl ?_
  show Steps p.tables e below (T0.setTop (mkF m 207 #[s0, s1, s2, .val (.int i3), .val (.int i4), .val (.int i5), .val (.int i6), .val (.int i7), .val (.int i8), s9, s10, s11, s12] [(.int i3)])) _
  refine XS.iload X0.here hx rfl (hb hby at_207) rfl ?_
  show Steps p.tables e below (T0.setTop (mkF m 209 #[s0, s1, s2, .val (.int i3), .val (.int i4), .val (.int i5), .val (.int i6), .val (.int i7), .val (.int i8), s9, s10, s11, s12] [(.int i6), (.int i3)])) _
  refine XS.iconst X0.here hx rfl (hb hby at_209) ?_
  show Steps p.tables e below (T0.setTop (mkF m 210 #[s0, s1, s2, .val (.int i3), .val (.int i4), .val (.int i5), .val (.int i6), .val (.int i7), .val (.int i8), s9, s10, s11, s12] [(.int (0 : Int32)), (.int i6), (.int i3)])) _
  refine st4 _ ?_
  show Steps p.tables e below (T4.setTop (mkF m 213 #[s0, s1, s2, .val (.int i3), .val (.int i4), .val (.int i5), .val (.int i6), .val (.int i7), .val (.int i8), s9, s10, s11, s12] [(.int (own_same i3 i6 0))])) _
  refine XS.ifNo X4.here hx rfl (hb hby at_213) rfl ((if0 _ _).trans (feq (k1 : ¬ ((own_same i3 i6 0) = (0 : Int32)))).1) ?_
  show Steps p.tables e below (T4.setTop (mkF m 216 #[s0, s1, s2, .val (.int i3), .val (.int i4), .val (.int i5), .val (.int i6), .val (.int i7), .val (.int i8), s9, s10, s11, s12] [])) _
  refine XS.iload X4.here hx rfl (hb hby at_216) rfl ?_
  show Steps p.tables e below (T4.setTop (mkF m 218 #[s0, s1, s2, .val (.int i3), .val (.int i4), .val (.int i5), .val (.int i6), .val (.int i7), .val (.int i8), s9, s10, s11, s12] [(.int i4)])) _
  refine XS.iload X4.here hx rfl (hb hby at_218) rfl ?_
  show Steps p.tables e below (T4.setTop (mkF m 220 #[s0, s1, s2, .val (.int i3), .val (.int i4), .val (.int i5), .val (.int i6), .val (.int i7), .val (.int i8), s9, s10, s11, s12] [(.int i7), (.int i4)])) _
  refine XS.iconst X4.here hx rfl (hb hby at_220) ?_
  show Steps p.tables e below (T4.setTop (mkF m 221 #[s0, s1, s2, .val (.int i3), .val (.int i4), .val (.int i5), .val (.int i6), .val (.int i7), .val (.int i8), s9, s10, s11, s12] [(.int (1 : Int32)), (.int i7), (.int i4)])) _
  refine st5 _ ?_
  show Steps p.tables e below (T5.setTop (mkF m 224 #[s0, s1, s2, .val (.int i3), .val (.int i4), .val (.int i5), .val (.int i6), .val (.int i7), .val (.int i8), s9, s10, s11, s12] [(.int (own_same i4 i7 1))])) _
  refine XS.ifNo X5.here hx rfl (hb hby at_224) rfl ((if0 _ _).trans (feq (k2 : ¬ ((own_same i4 i7 1) = (0 : Int32)))).1) ?_
  show Steps p.tables e below (T5.setTop (mkF m 227 #[s0, s1, s2, .val (.int i3), .val (.int i4), .val (.int i5), .val (.int i6), .val (.int i7), .val (.int i8), s9, s10, s11, s12] [])) _
  refine XS.iload X5.here hx rfl (hb hby at_227) rfl ?_
  show Steps p.tables e below (T5.setTop (mkF m 229 #[s0, s1, s2, .val (.int i3), .val (.int i4), .val (.int i5), .val (.int i6), .val (.int i7), .val (.int i8), s9, s10, s11, s12] [(.int i5)])) _
  refine XS.iload X5.here hx rfl (hb hby at_229) rfl ?_
  show Steps p.tables e below (T5.setTop (mkF m 231 #[s0, s1, s2, .val (.int i3), .val (.int i4), .val (.int i5), .val (.int i6), .val (.int i7), .val (.int i8), s9, s10, s11, s12] [(.int i8), (.int i5)])) _
  refine XS.iconst X5.here hx rfl (hb hby at_231) ?_
  show Steps p.tables e below (T5.setTop (mkF m 232 #[s0, s1, s2, .val (.int i3), .val (.int i4), .val (.int i5), .val (.int i6), .val (.int i7), .val (.int i8), s9, s10, s11, s12] [(.int (1 : Int32)), (.int i8), (.int i5)])) _
  refine st6 _ ?_
  show Steps p.tables e below (T6.setTop (mkF m 235 #[s0, s1, s2, .val (.int i3), .val (.int i4), .val (.int i5), .val (.int i6), .val (.int i7), .val (.int i8), s9, s10, s11, s12] [(.int (own_same i5 i8 1))])) _
  refine XS.ifYes X6.here hx rfl (pc0 := 235) (pc' := 242) rfl (hb hby at_235) rfl ((if0 _ _).trans (teq (k3 : (own_same i5 i8 1) = (0 : Int32))).1) (by decide) (by decide) ?_
  show Steps p.tables e below (T6.setTop (mkF m 242 #[s0, s1, s2, .val (.int i3), .val (.int i4), .val (.int i5), .val (.int i6), .val (.int i7), .val (.int i8), s9, s10, s11, s12] [])) _
  refine XS.iconst X6.here hx rfl (hb hby at_242) ?_
  show Steps p.tables e below (T6.setTop (mkF m 243 #[s0, s1, s2, .val (.int i3), .val (.int i4), .val (.int i5), .val (.int i6), .val (.int i7), .val (.int i8), s9, s10, s11, s12] [(.int (0 : Int32))])) _
  refine XS.istore X6.here hx rfl (hb hby at_243) rfl (l' := #[s0, s1, s2, .val (.int i3), .val (.int i4), .val (.int i5), .val (.int i6), .val (.int i7), .val (.int i8), s9, s10, s11, .val (.int (0 : Int32))]) (os0xfft_243 hs12) ?_
  exact kt
theorem os0xfff_243 {s0 : Slot} {s1 : Slot} {s2 : Slot} {z3 : Value} {z4 : Value} {z5 : Value} {z6 : Value} {z7 : Value} {z8 : Value} {s9 : Slot} {s10 : Slot} {s11 : Slot} {s12 : Slot} {v : Int32} (h : One s12) : storeLocals #[s0, s1, s2, .val z3, .val z4, .val z5, .val z6, .val z7, .val z8, s9, s10, s11, s12] 12 (.int v) = some #[s0, s1, s2, .val z3, .val z4, .val z5, .val z6, .val z7, .val z8, s9, s10, s11, .val (.int v)] := by
  rcases h with rfl | ⟨w, rfl, hw⟩
  · rfl
  · cases w <;> first | rfl | (simp [Value.category] at hw)
set_option maxRecDepth 65536 in
set_option maxHeartbeats 40000000 in
theorem pxfff {p : Program} {l : Launch} {e : Env} {s : State} {m : MethodId} {args : Array Value} {below : List Frame} {meth : Method} {c : Code} {T0 : State} {locs : List Loc} {cells slots : Nat} {Z : State} {a0 : Array Value} {h0 : Heap} (s0 : Slot) (s1 : Slot) (s2 : Slot) (i3 : Int32) (i4 : Int32) (i5 : Int32) (i6 : Int32) (i7 : Int32) (i8 : Int32) (s9 : Slot) (s10 : Slot) (s11 : Slot) (s12 : Slot) (n0 : Nat)
    (X0 : Stand p l e room_1 s m args below meth c T0 locs cells slots) (hx : p.tables.exec = Jvm.exec) (hZ : Z.Warmed39 s.vm) (hw : ∀ d ∈ tables_1, d.before a0 Z = true) (hby : c.code = code) (hml : c.maxLocals = 13) (hown : s.vm.findClass "com/example/nto1/nto1/IdentityEqualsPinLaw" = some m.cls) (e0 : T0.heap = h0) (Z0 : n0 ≤ h0.size) (N0 : Fr n0 locs) (hcl : cells ≤ 56) (hsl : slots ≤ 4352) (k1 : ¬ own_same i3 i6 0 = 0) (k2 : ¬ own_same i4 i7 1 = 0) (k3 : ¬ own_same i5 i8 1 = 0) (hs12 : One s12) :
    ∃ (T' : State) (locs' : List Loc), Stand p l e room_1 s m args below meth c T' locs' cells slots ∧ T'.heap = h0 ∧ Fr n0 locs' ∧
      ∀ target, Steps p.tables e below (T'.setTop (mkF m 245 #[s0, s1, s2, .val (.int i3), .val (.int i4), .val (.int i5), .val (.int i6), .val (.int i7), .val (.int i8), s9, s10, s11, .val (.int (1 : Int32))] [])) target → Steps p.tables e below (T0.setTop (mkF m 206 #[s0, s1, s2, .val (.int i3), .val (.int i4), .val (.int i5), .val (.int i6), .val (.int i7), .val (.int i8), s9, s10, s11, s12] [])) target := by
  obtain ⟨_, _, ⟨T4, L4, k4, n4⟩, -, X4, ⟨Lc4, hQ4, l4, y4, z4⟩, st4⟩ := Jvm.LawKit.callS X0 hx (y := (⟨"com/example/nto1/nto1/IdentityEqualsPinLaw", "same", "(III)Z"⟩ : MethodName)) hown (mvT hZ (hw _ (List.mem_of_getElem? (i := 115) rfl))) (mvT hZ (hw _ (List.mem_of_getElem? (i := 116) rfl))) (mvT hZ (hw _ (List.mem_of_getElem? (i := 5) rfl))) (mvT hZ (hw _ (List.mem_of_getElem? (i := 117) rfl))) (by decide) (backOf (W := 0) (rm24 l Z a0 hw [] i3 i6 (0 : Int32) h0 n0 Z0) hZ (hw _ (List.mem_of_getElem? (i := 117) rfl)) (hw _ (List.mem_of_getElem? (i := 5) rfl)) (by decide) (by decide)) (g := (mkF m 210 #[s0, s1, s2, .val (.int i3), .val (.int i4), .val (.int i5), .val (.int i6), .val (.int i7), .val (.int i8), s9, s10, s11, s12] [(.int (0 : Int32)), (.int i6), (.int i3)])) rfl (by rw [hml]; rfl) (argsL := [(.int i3), (.int i6), (.int (0 : Int32))]) (rest := []) (lenOf pd_0_21 rfl) rfl (by show 2 * 0 + _ ≤ _; exact Nat.le_of_eq rfl) (hb hby at_210) (fun _ _ => ⟨rfl, e0, hcl, hsl⟩)
  dsimp only [Pt.U, Pt.locs, Pt.cells, Pt.slots] at X4 l4 y4 z4 st4 hQ4
  subst l4 y4 z4
  obtain ⟨rfl, N4q, E4q⟩ := hQ4
  have K4q : Keep h0 T4.heap [] := by rw [E4q]; exact Keep.refl _ _
  have Z4 : n0 ≤ T4.heap.size := Nat.le_trans Z0 K4q.1
  have N4 := Fr.app N0 N4q
  obtain ⟨_, _, ⟨T5, L5, k5, n5⟩, -, X5, ⟨Lc5, hQ5, l5, y5, z5⟩, st5⟩ := Jvm.LawKit.callS X4 hx (y := (⟨"com/example/nto1/nto1/IdentityEqualsPinLaw", "same", "(III)Z"⟩ : MethodName)) hown (mvT hZ (hw _ (List.mem_of_getElem? (i := 115) rfl))) (mvT hZ (hw _ (List.mem_of_getElem? (i := 116) rfl))) (mvT hZ (hw _ (List.mem_of_getElem? (i := 5) rfl))) (mvT hZ (hw _ (List.mem_of_getElem? (i := 117) rfl))) (by decide) (backOf (W := 0) (rm24 l Z a0 hw [] i4 i7 (1 : Int32) T4.heap n0 Z4) hZ (hw _ (List.mem_of_getElem? (i := 117) rfl)) (hw _ (List.mem_of_getElem? (i := 5) rfl)) (by decide) (by decide)) (g := (mkF m 221 #[s0, s1, s2, .val (.int i3), .val (.int i4), .val (.int i5), .val (.int i6), .val (.int i7), .val (.int i8), s9, s10, s11, s12] [(.int (1 : Int32)), (.int i7), (.int i4)])) rfl (by rw [hml]; rfl) (argsL := [(.int i4), (.int i7), (.int (1 : Int32))]) (rest := []) (lenOf pd_0_21 rfl) rfl (by show 2 * 0 + _ ≤ _; exact Nat.le_of_eq rfl) (hb hby at_221) (fun _ _ => ⟨rfl, rfl, hcl, hsl⟩)
  dsimp only [Pt.U, Pt.locs, Pt.cells, Pt.slots] at X5 l5 y5 z5 st5 hQ5
  subst l5 y5 z5
  obtain ⟨rfl, N5q, E5q⟩ := hQ5
  have K5q : Keep T4.heap T5.heap [] := by rw [E5q]; exact Keep.refl _ _
  have Z5 : n0 ≤ T5.heap.size := Nat.le_trans Z4 K5q.1
  have N5 := Fr.app N4 N5q
  obtain ⟨_, _, ⟨T6, L6, k6, n6⟩, -, X6, ⟨Lc6, hQ6, l6, y6, z6⟩, st6⟩ := Jvm.LawKit.callS X5 hx (y := (⟨"com/example/nto1/nto1/IdentityEqualsPinLaw", "same", "(III)Z"⟩ : MethodName)) hown (mvT hZ (hw _ (List.mem_of_getElem? (i := 115) rfl))) (mvT hZ (hw _ (List.mem_of_getElem? (i := 116) rfl))) (mvT hZ (hw _ (List.mem_of_getElem? (i := 5) rfl))) (mvT hZ (hw _ (List.mem_of_getElem? (i := 117) rfl))) (by decide) (backOf (W := 0) (rm24 l Z a0 hw [] i5 i8 (1 : Int32) T5.heap n0 Z5) hZ (hw _ (List.mem_of_getElem? (i := 117) rfl)) (hw _ (List.mem_of_getElem? (i := 5) rfl)) (by decide) (by decide)) (g := (mkF m 232 #[s0, s1, s2, .val (.int i3), .val (.int i4), .val (.int i5), .val (.int i6), .val (.int i7), .val (.int i8), s9, s10, s11, s12] [(.int (1 : Int32)), (.int i8), (.int i5)])) rfl (by rw [hml]; rfl) (argsL := [(.int i5), (.int i8), (.int (1 : Int32))]) (rest := []) (lenOf pd_0_21 rfl) rfl (by show 2 * 0 + _ ≤ _; exact Nat.le_of_eq rfl) (hb hby at_232) (fun _ _ => ⟨rfl, rfl, hcl, hsl⟩)
  dsimp only [Pt.U, Pt.locs, Pt.cells, Pt.slots] at X6 l6 y6 z6 st6 hQ6
  subst l6 y6 z6
  obtain ⟨rfl, N6q, E6q⟩ := hQ6
  have K6q : Keep T5.heap T6.heap [] := by rw [E6q]; exact Keep.refl _ _
  have Z6 : n0 ≤ T6.heap.size := Nat.le_trans Z5 K6q.1
  have N6 := Fr.app N5 N6q
  refine ⟨T6, _, X6, E6q.trans (E5q.trans (E4q)), N6, fun target kt => ?_⟩
  show Steps p.tables e below (T0.setTop (mkF m 206 #[s0, s1, s2, .val (.int i3), .val (.int i4), .val (.int i5), .val (.int i6), .val (.int i7), .val (.int i8), s9, s10, s11, s12] [])) _
  refine XS.iloadN X0.here hx rfl (hb hby at_206) rfl ?_
  show Steps p.tables e below (T0.setTop (mkF m 207 #[s0, s1, s2, .val (.int i3), .val (.int i4), .val (.int i5), .val (.int i6), .val (.int i7), .val (.int i8), s9, s10, s11, s12] [(.int i3)])) _
  refine XS.iload X0.here hx rfl (hb hby at_207) rfl ?_
  show Steps p.tables e below (T0.setTop (mkF m 209 #[s0, s1, s2, .val (.int i3), .val (.int i4), .val (.int i5), .val (.int i6), .val (.int i7), .val (.int i8), s9, s10, s11, s12] [(.int i6), (.int i3)])) _
  refine XS.iconst X0.here hx rfl (hb hby at_209) ?_
  show Steps p.tables e below (T0.setTop (mkF m 210 #[s0, s1, s2, .val (.int i3), .val (.int i4), .val (.int i5), .val (.int i6), .val (.int i7), .val (.int i8), s9, s10, s11, s12] [(.int (0 : Int32)), (.int i6), (.int i3)])) _
  refine st4 _ ?_
  show Steps p.tables e below (T4.setTop (mkF m 213 #[s0, s1, s2, .val (.int i3), .val (.int i4), .val (.int i5), .val (.int i6), .val (.int i7), .val (.int i8), s9, s10, s11, s12] [(.int (own_same i3 i6 0))])) _
  refine XS.ifNo X4.here hx rfl (hb hby at_213) rfl ((if0 _ _).trans (feq (k1 : ¬ ((own_same i3 i6 0) = (0 : Int32)))).1) ?_
  show Steps p.tables e below (T4.setTop (mkF m 216 #[s0, s1, s2, .val (.int i3), .val (.int i4), .val (.int i5), .val (.int i6), .val (.int i7), .val (.int i8), s9, s10, s11, s12] [])) _
  refine XS.iload X4.here hx rfl (hb hby at_216) rfl ?_
  show Steps p.tables e below (T4.setTop (mkF m 218 #[s0, s1, s2, .val (.int i3), .val (.int i4), .val (.int i5), .val (.int i6), .val (.int i7), .val (.int i8), s9, s10, s11, s12] [(.int i4)])) _
  refine XS.iload X4.here hx rfl (hb hby at_218) rfl ?_
  show Steps p.tables e below (T4.setTop (mkF m 220 #[s0, s1, s2, .val (.int i3), .val (.int i4), .val (.int i5), .val (.int i6), .val (.int i7), .val (.int i8), s9, s10, s11, s12] [(.int i7), (.int i4)])) _
  refine XS.iconst X4.here hx rfl (hb hby at_220) ?_
  show Steps p.tables e below (T4.setTop (mkF m 221 #[s0, s1, s2, .val (.int i3), .val (.int i4), .val (.int i5), .val (.int i6), .val (.int i7), .val (.int i8), s9, s10, s11, s12] [(.int (1 : Int32)), (.int i7), (.int i4)])) _
  refine st5 _ ?_
  show Steps p.tables e below (T5.setTop (mkF m 224 #[s0, s1, s2, .val (.int i3), .val (.int i4), .val (.int i5), .val (.int i6), .val (.int i7), .val (.int i8), s9, s10, s11, s12] [(.int (own_same i4 i7 1))])) _
  refine XS.ifNo X5.here hx rfl (hb hby at_224) rfl ((if0 _ _).trans (feq (k2 : ¬ ((own_same i4 i7 1) = (0 : Int32)))).1) ?_
  show Steps p.tables e below (T5.setTop (mkF m 227 #[s0, s1, s2, .val (.int i3), .val (.int i4), .val (.int i5), .val (.int i6), .val (.int i7), .val (.int i8), s9, s10, s11, s12] [])) _
  refine XS.iload X5.here hx rfl (hb hby at_227) rfl ?_
  show Steps p.tables e below (T5.setTop (mkF m 229 #[s0, s1, s2, .val (.int i3), .val (.int i4), .val (.int i5), .val (.int i6), .val (.int i7), .val (.int i8), s9, s10, s11, s12] [(.int i5)])) _
  refine XS.iload X5.here hx rfl (hb hby at_229) rfl ?_
  show Steps p.tables e below (T5.setTop (mkF m 231 #[s0, s1, s2, .val (.int i3), .val (.int i4), .val (.int i5), .val (.int i6), .val (.int i7), .val (.int i8), s9, s10, s11, s12] [(.int i8), (.int i5)])) _
  refine XS.iconst X5.here hx rfl (hb hby at_231) ?_
  show Steps p.tables e below (T5.setTop (mkF m 232 #[s0, s1, s2, .val (.int i3), .val (.int i4), .val (.int i5), .val (.int i6), .val (.int i7), .val (.int i8), s9, s10, s11, s12] [(.int (1 : Int32)), (.int i8), (.int i5)])) _
  refine st6 _ ?_
  show Steps p.tables e below (T6.setTop (mkF m 235 #[s0, s1, s2, .val (.int i3), .val (.int i4), .val (.int i5), .val (.int i6), .val (.int i7), .val (.int i8), s9, s10, s11, s12] [(.int (own_same i5 i8 1))])) _
  refine XS.ifNo X6.here hx rfl (hb hby at_235) rfl ((if0 _ _).trans (feq (k3 : ¬ ((own_same i5 i8 1) = (0 : Int32)))).1) ?_
  show Steps p.tables e below (T6.setTop (mkF m 238 #[s0, s1, s2, .val (.int i3), .val (.int i4), .val (.int i5), .val (.int i6), .val (.int i7), .val (.int i8), s9, s10, s11, s12] [])) _
  refine XS.iconst X6.here hx rfl (hb hby at_238) ?_
  show Steps p.tables e below (T6.setTop (mkF m 239 #[s0, s1, s2, .val (.int i3), .val (.int i4), .val (.int i5), .val (.int i6), .val (.int i7), .val (.int i8), s9, s10, s11, s12] [(.int (1 : Int32))])) _
  refine XS.goto X6.here hx rfl (pc0 := 239) (pc' := 243) rfl (hb hby at_239) (by decide) (by decide) ?_
  show Steps p.tables e below (T6.setTop (mkF m 243 #[s0, s1, s2, .val (.int i3), .val (.int i4), .val (.int i5), .val (.int i6), .val (.int i7), .val (.int i8), s9, s10, s11, s12] [(.int (1 : Int32))])) _
  refine XS.istore X6.here hx rfl (hb hby at_243) rfl (l' := #[s0, s1, s2, .val (.int i3), .val (.int i4), .val (.int i5), .val (.int i6), .val (.int i7), .val (.int i8), s9, s10, s11, .val (.int (1 : Int32))]) (os0xfff_243 hs12) ?_
  exact kt
theorem own_same01 (p q m : Int32) : own_same p q m = 0 ∨ own_same p q m = 1 := by
  unfold own_same
  split
  · split
    · exact Or.inr rfl
    · exact Or.inl rfl
  · exact Or.inl rfl
set_option maxHeartbeats 4000000 in
theorem own_exp {p : Program} {l : Launch} {e : Env} {s : State} {m : MethodId} {args : Array Value} {below : List Frame} {meth : Method} {c : Code} {T0 : State} {locs : List Loc} {cells slots : Nat} {Z : State} {a0 : Array Value} {h0 : Heap} (s0 s1 s2 : Slot) (i3 i4 i5 i6 i7 i8 : Int32) (s9 s10 s11 : Slot) (n0 : Nat) (X0 : Stand p l e room_1 s m args below meth c T0 locs cells slots) (hx : p.tables.exec = Jvm.exec) (hZ : Z.Warmed39 s.vm) (hw : ∀ d ∈ tables_1, d.before a0 Z = true) (hby : c.code = code) (hml : c.maxLocals = 13) (hown : s.vm.findClass "com/example/nto1/nto1/IdentityEqualsPinLaw" = some m.cls) (e0 : T0.heap = h0) (Z0 : n0 ≤ h0.size) (N0 : Fr n0 locs) (hcl : cells ≤ 56) (hsl : slots ≤ 4352) (b3 : own_b i3) (b4 : own_b i4) (b5 : own_b i5) (b6 : own_b i6) (b7 : own_b i7) (b8 : own_b i8) :
    ∃ (T' : State) (locs' : List Loc), Stand p l e room_1 s m args below meth c T' locs' cells slots ∧ T'.heap = h0 ∧ Fr n0 locs' ∧
      ∀ target, Steps p.tables e below (T'.setTop (mkF m 245 #[s0, s1, s2, .val (.int i3), .val (.int i4), .val (.int i5), .val (.int i6), .val (.int i7), .val (.int i8), s9, s10, s11, .val (.int (own_e3 (own_part i3 0) (own_part i4 1) (own_part i5 1) (own_part i6 0) (own_part i7 1) (own_part i8 1)))] [])) target → Steps p.tables e below (T0.setTop (mkF m 206 #[s0, s1, s2, .val (.int i3), .val (.int i4), .val (.int i5), .val (.int i6), .val (.int i7), .val (.int i8), s9, s10, s11, .unset] [])) target := by
  have e1 := own_eq (m := 0) b3 b6 (fun x hx => own_len0 hx)
  have e2 := own_eq (m := 1) b4 b7 (fun x hx => own_len1 hx)
  have e3 := own_eq (m := 1) b5 b8 (fun x hx => own_len1 hx)
  by_cases k1 : own_same i3 i6 0 = 0
  · have z : own_e3 (own_part i3 0) (own_part i4 1) (own_part i5 1) (own_part i6 0) (own_part i7 1) (own_part i8 1) = 0 := if_neg (fun q => absurd (e1.mp q.1) (by rw [k1]; decide))
    rw [z]; exact pxt s0 s1 s2 i3 (.val (.int i4)) (.val (.int i5)) i6 (.val (.int i7)) (.val (.int i8)) s9 s10 s11 .unset n0 X0 hx hZ hw hby hml hown e0 Z0 N0 hcl hsl k1 One.u
  · have j1 := (own_same01 i3 i6 0).resolve_left k1
    by_cases k2 : own_same i4 i7 1 = 0
    · have z : own_e3 (own_part i3 0) (own_part i4 1) (own_part i5 1) (own_part i6 0) (own_part i7 1) (own_part i8 1) = 0 := if_neg (fun q => absurd (e2.mp q.2.1) (by rw [k2]; decide))
      rw [z]; exact pxft s0 s1 s2 i3 i4 (.val (.int i5)) i6 i7 (.val (.int i8)) s9 s10 s11 .unset n0 X0 hx hZ hw hby hml hown e0 Z0 N0 hcl hsl k1 k2 One.u
    · have j2 := (own_same01 i4 i7 1).resolve_left k2
      by_cases k3 : own_same i5 i8 1 = 0
      · have z : own_e3 (own_part i3 0) (own_part i4 1) (own_part i5 1) (own_part i6 0) (own_part i7 1) (own_part i8 1) = 0 := if_neg (fun q => absurd (e3.mp q.2.2) (by rw [k3]; decide))
        rw [z]; exact pxfft s0 s1 s2 i3 i4 i5 i6 i7 i8 s9 s10 s11 .unset n0 X0 hx hZ hw hby hml hown e0 Z0 N0 hcl hsl k1 k2 k3 One.u
      · have j3 := (own_same01 i5 i8 1).resolve_left k3
        have z : own_e3 (own_part i3 0) (own_part i4 1) (own_part i5 1) (own_part i6 0) (own_part i7 1) (own_part i8 1) = 1 := if_pos ⟨e1.mpr j1, e2.mpr j2, e3.mpr j3⟩
        rw [z]; exact pxfff s0 s1 s2 i3 i4 i5 i6 i7 i8 s9 s10 s11 .unset n0 X0 hx hZ hw hby hml hown e0 Z0 N0 hcl hsl k1 k2 k3 One.u
theorem pn_0 : plainName "com/example/nto1/nto1/IdentityEqualsPinLaw" = true := by first | (simp [plainName, overriddenIn]; done) | decide +kernel
theorem pd_0_22 : parseMethodDescriptor "(Ljava/lang/Object;)Z" = some ⟨[(.object "java/lang/Object")], some .boolean⟩ := by decide +kernel
theorem ef_0 (m : MethodId) (x0 : Int32) (x1 : Int32) (x2 : Int32) : entryFrame m #[(.int x0), (.int x1), (.int x2)] maxLocals = mkF m 0 #[.val (.int x0), .val (.int x1), .val (.int x2), .unset, .unset, .unset, .unset, .unset, .unset, .unset, .unset, .unset, .unset] [] := by first | (simp [entryFrame, mkF, argsToLocals, Value.category, maxLocals]; done) | rfl
def Q0 (Z : State) (p1 : Int32) (p2 : Int32) (p3 : Int32) (h0 : Heap) (n0 : Nat) (v : Option Value) (h : Heap) (L : List Loc) : Prop := v = some (.int (1 : Int32)) ∧ Fr n0 L
set_option maxRecDepth 65536 in
set_option maxHeartbeats 40000000 in
theorem rm0a (l : Launch) (Z : State) (a0 : Array Value) (hw : ∀ d ∈ tables_1, d.before a0 Z = true) (ws : List Jvm.Cond) (p1 : Int32) (p2 : Int32) (p3 : Int32) (h0 : Heap) (n0 : Nat) (Z0 : n0 ≤ h0.size) (hc121 : (own_kd p3) = (1 : Int32)) (zc : Int32) (wf : Value) (S_C : Sta Z Z.heap "java/lang/String" "COMPACT_STRINGS" "Z" (.int zc)) (hzc : ¬ zc = 0) (X00 : Old Z n0 h0) (S_F : Sta Z Z.heap "jdk/internal/util/Preconditions" "SIOOBE_FORMATTER" "Ljava/util/function/BiFunction;" wf) (hwf : wf.isRef = true) :
    MetFree l x (head1 (Jvm.Cond.code x code maxLocals ret :: ws) room_1) (fun a U => a = #[(.int p1), (.int p2), (.int p3)] ∧ Z.Warmed39 U.vm ∧ U.heap = h0 ∧ CHv Z consts_1 U.vm h0 ∧ True) (fun _ _ _ _ _ => True) (fun _ U o U' => ∃ v L, o = .returned v ∧ Q0 Z p1 p2 p3 h0 n0 v U'.heap L ∧ ReturnedEndW U o U' L room_1.cells room_1.slots) := by
  refine MetFree.of_bodySF (plainFor_of_name pn_0) hisR ?_
  intro p e s m args below meth c s₁ Bd hml0 hP hK
  obtain ⟨rfl, hZ, hh, H0, Sf0⟩ := hP
  have hx := Bd.exec
  have hby := Bd.bytes
  have hml : c.maxLocals = 13 := hml0
  have hown : s.vm.findClass "com/example/nto1/nto1/IdentityEqualsPinLaw" = some m.cls := findClass_of_methodNamed Bd.named
  have hnm := (name_of_methodNamed Bd.named Bd.method).1
  have X0 : Stand p l e room_1 (s.setVm s.vm) m #[(.int p1), (.int p2), (.int p3)] below meth c s₁ [] 0 0 := Stand.of_body Bd
  have e0 : s₁.heap = h0 := by rw [← hh, Bd.state]; rfl
  have N0 := Fr.nil n0
  have hS : s.Since s.vm h0.size := (State.WarmedH.refl s).since h0.size
  have hwS : ∀ a ∈ Bundle.stringAtoms, a.before a0 Z = true := fun d hd => hw d ((by decide +kernel : ∀ d ∈ Bundle.stringAtoms, d ∈ tables_1) d hd)
  have hEL := own_EL hw
  have hZ0 := hZ
  have hown0 := hown
  have pre0 : ∀ t, Steps p.tables e below (s₁.setTop (mkF m 0 #[.val (.int p1), .val (.int p2), .val (.int p3), .unset, .unset, .unset, .unset, .unset, .unset, .unset, .unset, .unset, .unset] [])) t → Steps p.tables e below (s₁.setTop (entryFrame m #[(.int p1), (.int p2), (.int p3)] maxLocals)) t := fun t k => castTop (ef_0 m p1 p2 p3) k
  obtain ⟨T4, sA, oA, kA, sB, oB, kB, hb1, hb2, hb3, hb4, hb5, hb6, X4, e4, st4⟩ := own_start p1 p2 p3 X0 hx hZ hw hby hml hown e0
  obtain ⟨T5, h5, locs5, b5, X5, e5, hS, hZ, hown, CH5, N5, K5q, I5, st5⟩ := pi92 (.val (.int p1)) (.val (.int p2)) (.val (.int p3)) sA oA kA (.val (.int sB)) (.val (.int oB)) (.val (.int kB)) (.val (.int (own_kd p3))) .unset .unset .unset zc wf n0 X4 hx hZ hw hby hml hown e4 hS (Nat.le_refl _) H0 Z0 N0 S_C hzc X00 S_F hwf hb2 hb3 (by decide) (by decide) One.u
  obtain ⟨cq6, kq6, q6a, q6b, q6c⟩ := isOf hZ e5 (own_Id_exa I5)
  obtain ⟨_, _, ⟨T6, L6, k6, n6⟩, -, X6, ⟨Lc6, hQ6, l6, y6, z6⟩, st6⟩ := X5.virtualBack hx (y := (⟨"com/example/nto1/nto1/Identity", "equals", "(Ljava/lang/Object;)Z"⟩ : MethodName)) (z := (⟨"com/example/nto1/nto1/Identity", "equals", "(Ljava/lang/Object;)Z"⟩ : MethodName)) hown (mvT hZ (hw _ (List.mem_of_getElem? (i := 118) rfl))) (mvT hZ (hw _ (List.mem_of_getElem? (i := 119) rfl))) (notFace_of_selects (args := #[]) (mvT hZ (hw _ (List.mem_of_getElem? (i := 121) rfl)))) (mvT hZ (hw _ (List.mem_of_getElem? (i := 121) rfl))) (mvT hZ (hw _ (List.mem_of_getElem? (i := 120) rfl))) (by decide) (backOf (W := 0) (rm25n l Z a0 hw [] b5 h5 n0 (Nat.le_trans Z0 K5q.1)) hZ (hw _ (List.mem_of_getElem? (i := 122) rfl)) (hw _ (List.mem_of_getElem? (i := 2) rfl)) (by decide) (by decide)) q6a q6c (g := (mkF m 127 #[.val (.int p1), .val (.int p2), .val (.int p3), .val (.int sA), .val (.int oA), .val (.int kA), .val (.int sB), .val (.int oB), .val (.int kB), .val (.int (own_kd p3)), .val (.ref b5), .unset, .unset] [.null, (.ref b5)])) rfl (by rw [hml]; rfl) (Steps.refl _) (argsL := [.null]) (rest := []) (lenOf pd_0_22 rfl) rfl (by show 2 * 0 + _ ≤ _; exact Nat.le_of_eq rfl) (hb hby at_127) (fun _ _ => ⟨rfl, e5, (by decide : 16 + 0 ≤ _), (by decide : 113 + 0 ≤ _)⟩)
  dsimp only [Pt.U, Pt.locs, Pt.cells, Pt.slots] at X6 l6 y6 z6 st6 hQ6
  subst l6 y6 z6
  obtain ⟨rfl, N6q, E6q⟩ := hQ6
  have K6q : Keep h5 T6.heap [] := by rw [E6q]; exact Keep.refl _ _
  have Z6 : n0 ≤ T6.heap.size := Nat.le_trans (Nat.le_trans Z0 K5q.1) K6q.1
  have N6 := Fr.app N5 N6q
  obtain ⟨fs, hr, hrun, hended, hRW⟩ := X6.leaveW hS (Nat.le_of_eq (by rw [E6q])) (v := some (.int (1 : Int32))) (fun h => by rw [Bd.returns] at h; cases h)
  refine ⟨_, _, pre0 _ ?_, hrun, hended, _, _, rfl, ?_, ⟨_, rfl⟩, hRW.2.1, hRW.2.2.1, hRW.2.2.2.mono (by decide) (by decide)⟩
  · show Steps p.tables e below (s₁.setTop (mkF m 0 #[.val (.int p1), .val (.int p2), .val (.int p3), .unset, .unset, .unset, .unset, .unset, .unset, .unset, .unset, .unset, .unset] [])) _
    refine st4 _ ?_
    show Steps p.tables e below (T4.setTop (mkF m 92 #[.val (.int p1), .val (.int p2), .val (.int p3), .val (.int sA), .val (.int oA), .val (.int kA), .val (.int sB), .val (.int oB), .val (.int kB), .val (.int (own_kd p3)), .unset, .unset, .unset] [])) _
    refine st5 _ ?_
    show Steps p.tables e below (T5.setTop (mkF m 118 #[.val (.int p1), .val (.int p2), .val (.int p3), .val (.int sA), .val (.int oA), .val (.int kA), .val (.int sB), .val (.int oB), .val (.int kB), .val (.int (own_kd p3)), .val (.ref b5), .unset, .unset] [])) _
    refine XS.iload X5.here hx rfl (hb hby at_118) rfl ?_
    show Steps p.tables e below (T5.setTop (mkF m 120 #[.val (.int p1), .val (.int p2), .val (.int p3), .val (.int sA), .val (.int oA), .val (.int kA), .val (.int sB), .val (.int oB), .val (.int kB), .val (.int (own_kd p3)), .val (.ref b5), .unset, .unset] [(.int (own_kd p3))])) _
    refine XS.iconst X5.here hx rfl (hb hby at_120) ?_
    show Steps p.tables e below (T5.setTop (mkF m 121 #[.val (.int p1), .val (.int p2), .val (.int p3), .val (.int sA), .val (.int oA), .val (.int kA), .val (.int sB), .val (.int oB), .val (.int kB), .val (.int (own_kd p3)), .val (.ref b5), .unset, .unset] [(.int (1 : Int32)), (.int (own_kd p3))])) _
    refine XS.icmpNo X5.here hx rfl (hb hby at_121) rfl (teq hc121).2 ?_
    show Steps p.tables e below (T5.setTop (mkF m 124 #[.val (.int p1), .val (.int p2), .val (.int p3), .val (.int sA), .val (.int oA), .val (.int kA), .val (.int sB), .val (.int oB), .val (.int kB), .val (.int (own_kd p3)), .val (.ref b5), .unset, .unset] [])) _
    refine XS.aload X5.here hx rfl (hb hby at_124) rfl rfl ?_
    show Steps p.tables e below (T5.setTop (mkF m 126 #[.val (.int p1), .val (.int p2), .val (.int p3), .val (.int sA), .val (.int oA), .val (.int kA), .val (.int sB), .val (.int oB), .val (.int kB), .val (.int (own_kd p3)), .val (.ref b5), .unset, .unset] [(.ref b5)])) _
    refine XS.aconstNull X5.here hx rfl (hb hby at_126) ?_
    show Steps p.tables e below (T5.setTop (mkF m 127 #[.val (.int p1), .val (.int p2), .val (.int p3), .val (.int sA), .val (.int oA), .val (.int kA), .val (.int sB), .val (.int oB), .val (.int kB), .val (.int (own_kd p3)), .val (.ref b5), .unset, .unset] [.null, (.ref b5)])) _
    refine st6.trans ?_
    show Steps p.tables e below (T6.setTop (mkF m 130 #[.val (.int p1), .val (.int p2), .val (.int p3), .val (.int sA), .val (.int oA), .val (.int kA), .val (.int sB), .val (.int oB), .val (.int kB), .val (.int (own_kd p3)), .val (.ref b5), .unset, .unset] [(.int (0 : Int32))])) _
    refine XS.ifNo X6.here hx rfl (hb hby at_130) rfl ((if0 _ _).trans (teq (rfl : (0 : Int32) = (0 : Int32))).2) ?_
    show Steps p.tables e below (T6.setTop (mkF m 133 #[.val (.int p1), .val (.int p2), .val (.int p3), .val (.int sA), .val (.int oA), .val (.int kA), .val (.int sB), .val (.int oB), .val (.int kB), .val (.int (own_kd p3)), .val (.ref b5), .unset, .unset] [])) _
    refine XS.iconst X6.here hx rfl (hb hby at_133) ?_
    show Steps p.tables e below (T6.setTop (mkF m 134 #[.val (.int p1), .val (.int p2), .val (.int p3), .val (.int sA), .val (.int oA), .val (.int kA), .val (.int sB), .val (.int oB), .val (.int kB), .val (.int (own_kd p3)), .val (.ref b5), .unset, .unset] [(.int (1 : Int32))])) _
    refine XS.goto X6.here hx rfl (pc0 := 134) (pc' := 138) rfl (hb hby at_134) (by decide) (by decide) ?_
    show Steps p.tables e below (T6.setTop (mkF m 138 #[.val (.int p1), .val (.int p2), .val (.int p3), .val (.int sA), .val (.int oA), .val (.int kA), .val (.int sB), .val (.int oB), .val (.int kB), .val (.int (own_kd p3)), .val (.ref b5), .unset, .unset] [(.int (1 : Int32))])) _
    exact retN X6 hx (t := .boolean) Bd.returns (by simp) (hb hby at_138) hr
  · show Q0 Z p1 p2 p3 h0 n0 _ T6.heap _
    exact ⟨rfl, N6⟩
set_option maxRecDepth 65536 in
set_option maxHeartbeats 40000000 in
theorem rm0b (l : Launch) (Z : State) (a0 : Array Value) (hw : ∀ d ∈ tables_1, d.before a0 Z = true) (ws : List Jvm.Cond) (p1 : Int32) (p2 : Int32) (p3 : Int32) (h0 : Heap) (n0 : Nat) (Z0 : n0 ≤ h0.size) (hc121 : ¬ ((own_kd p3) = (1 : Int32))) (hc142 : (own_kd p3) = (2 : Int32)) (zc : Int32) (wf : Value) (S_C : Sta Z Z.heap "java/lang/String" "COMPACT_STRINGS" "Z" (.int zc)) (hzc : ¬ zc = 0) (X00 : Old Z n0 h0) (S_F : Sta Z Z.heap "jdk/internal/util/Preconditions" "SIOOBE_FORMATTER" "Ljava/util/function/BiFunction;" wf) (hwf : wf.isRef = true) :
    MetFree l x (head1 (Jvm.Cond.code x code maxLocals ret :: ws) room_1) (fun a U => a = #[(.int p1), (.int p2), (.int p3)] ∧ Z.Warmed39 U.vm ∧ U.heap = h0 ∧ CHv Z consts_1 U.vm h0 ∧ True) (fun _ _ _ _ _ => True) (fun _ U o U' => ∃ v L, o = .returned v ∧ Q0 Z p1 p2 p3 h0 n0 v U'.heap L ∧ ReturnedEndW U o U' L room_1.cells room_1.slots) := by
  refine MetFree.of_bodySF (plainFor_of_name pn_0) hisR ?_
  intro p e s m args below meth c s₁ Bd hml0 hP hK
  obtain ⟨rfl, hZ, hh, H0, Sf0⟩ := hP
  have hx := Bd.exec
  have hby := Bd.bytes
  have hml : c.maxLocals = 13 := hml0
  have hown : s.vm.findClass "com/example/nto1/nto1/IdentityEqualsPinLaw" = some m.cls := findClass_of_methodNamed Bd.named
  have hnm := (name_of_methodNamed Bd.named Bd.method).1
  have X0 : Stand p l e room_1 (s.setVm s.vm) m #[(.int p1), (.int p2), (.int p3)] below meth c s₁ [] 0 0 := Stand.of_body Bd
  have e0 : s₁.heap = h0 := by rw [← hh, Bd.state]; rfl
  have N0 := Fr.nil n0
  have hS : s.Since s.vm h0.size := (State.WarmedH.refl s).since h0.size
  have hwS : ∀ a ∈ Bundle.stringAtoms, a.before a0 Z = true := fun d hd => hw d ((by decide +kernel : ∀ d ∈ Bundle.stringAtoms, d ∈ tables_1) d hd)
  have hEL := own_EL hw
  have hZ0 := hZ
  have hown0 := hown
  have pre0 : ∀ t, Steps p.tables e below (s₁.setTop (mkF m 0 #[.val (.int p1), .val (.int p2), .val (.int p3), .unset, .unset, .unset, .unset, .unset, .unset, .unset, .unset, .unset, .unset] [])) t → Steps p.tables e below (s₁.setTop (entryFrame m #[(.int p1), (.int p2), (.int p3)] maxLocals)) t := fun t k => castTop (ef_0 m p1 p2 p3) k
  obtain ⟨T4, sA, oA, kA, sB, oB, kB, hb1, hb2, hb3, hb4, hb5, hb6, X4, e4, st4⟩ := own_start p1 p2 p3 X0 hx hZ hw hby hml hown e0
  obtain ⟨T5, h5, locs5, b5, X5, e5, hS, hZ, hown, CH5, N5, K5q, I5, st5⟩ := pi92 (.val (.int p1)) (.val (.int p2)) (.val (.int p3)) sA oA kA (.val (.int sB)) (.val (.int oB)) (.val (.int kB)) (.val (.int (own_kd p3))) .unset .unset .unset zc wf n0 X4 hx hZ hw hby hml hown e4 hS (Nat.le_refl _) H0 Z0 N0 S_C hzc X00 S_F hwf hb2 hb3 (by decide) (by decide) One.u
  obtain ⟨_, _, ⟨T6, L6, k6, n6⟩, -, X6, hS6, hg6, ⟨Lc6, hQ6, l6, y6, z6, CH6⟩, st6⟩ := callSS X5 hx (y := (⟨"com/example/nto1/nto1/IdentityEqualsPinLaw", "part", "(II)Ljava/lang/String;"⟩ : MethodName)) hown (mvT hZ (hw _ (List.mem_of_getElem? (i := 3) rfl))) (mvT hZ (hw _ (List.mem_of_getElem? (i := 4) rfl))) (mvT hZ (hw _ (List.mem_of_getElem? (i := 5) rfl))) (mvT hZ (hw _ (List.mem_of_getElem? (i := 6) rfl))) (by decide) (own_backSH (W := 1) (EL := consts_1) (fun _ => True) (rm1 l Z a0 hw [] kA (1 : Int32) h5 n0 (Nat.le_trans Z0 K5q.1) zc S_C hzc (X00.keep K5q all0)) hZ (hw _ (List.mem_of_getElem? (i := 6) rfl)) (hw _ (List.mem_of_getElem? (i := 5) rfl)) (by decide) (by decide) hEL CH5 (fun _ _ => trivial)) (g := (mkF m 150 #[.val (.int p1), .val (.int p2), .val (.int p3), .val (.int sA), .val (.int oA), .val (.int kA), .val (.int sB), .val (.int oB), .val (.int kB), .val (.int (own_kd p3)), .val (.ref b5), .unset, .unset] [(.int (1 : Int32)), (.int kA), (.ref b5)])) rfl (by rw [hml]; rfl) (argsL := [(.int kA), (.int (1 : Int32))]) (rest := [(.ref b5)]) (lenOf pd_0_0 rfl) rfl (by show 2 * 0 + _ ≤ _; exact Nat.le_of_eq rfl) (hb hby at_150) (fun _ _ => ⟨rfl, e5, (by decide : 16 + 3 ≤ _), (by decide : 113 + 10 ≤ _)⟩)
  dsimp only [Pt.U, Pt.locs, Pt.cells, Pt.slots] at X6 hS6 hg6 l6 y6 z6 st6 hQ6 CH6
  subst l6 y6 z6
  obtain ⟨X6, hS, hZ, hown⟩ := rebS hS (Nat.le_of_eq (by rw [e5])) X6 hS6 hg6 hZ hown
  obtain ⟨r6, rfl, N6q, K6q, S6⟩ := hQ6
  have Z6 : n0 ≤ T6.heap.size := Nat.le_trans (Nat.le_trans Z0 K5q.1) K6q.1
  have N6 := Fr.app N5 N6q
  obtain ⟨cq7, kq7, q7a, q7b, q7c⟩ := isOf hZ rfl ((own_Id_exa I5).keep K6q)
  obtain ⟨_, _, ⟨T7, L7, k7, n7⟩, -, X7, ⟨Lc7, hQ7, l7, y7, z7⟩, st7⟩ := X6.virtualBack hx (y := (⟨"com/example/nto1/nto1/Identity", "equals", "(Ljava/lang/Object;)Z"⟩ : MethodName)) (z := (⟨"com/example/nto1/nto1/Identity", "equals", "(Ljava/lang/Object;)Z"⟩ : MethodName)) hown (mvT hZ (hw _ (List.mem_of_getElem? (i := 118) rfl))) (mvT hZ (hw _ (List.mem_of_getElem? (i := 119) rfl))) (notFace_of_selects (args := #[]) (mvT hZ (hw _ (List.mem_of_getElem? (i := 121) rfl)))) (mvT hZ (hw _ (List.mem_of_getElem? (i := 121) rfl))) (mvT hZ (hw _ (List.mem_of_getElem? (i := 120) rfl))) (by decide) (backOf (W := 0) (rm25s l Z a0 hw [] b5 r6 T6.heap n0 Z6 (own_Str_exa S6) (own_no (hw _ (List.mem_of_getElem? (i := 135) rfl)) (hw _ (List.mem_of_getElem? (i := 136) rfl)) (hw _ (List.mem_of_getElem? (i := 1) rfl)) (by decide) (by decide))) hZ (hw _ (List.mem_of_getElem? (i := 122) rfl)) (hw _ (List.mem_of_getElem? (i := 2) rfl)) (by decide) (by decide)) q7a q7c (g := (mkF m 153 #[.val (.int p1), .val (.int p2), .val (.int p3), .val (.int sA), .val (.int oA), .val (.int kA), .val (.int sB), .val (.int oB), .val (.int kB), .val (.int (own_kd p3)), .val (.ref b5), .unset, .unset] [(.ref r6), (.ref b5)])) rfl (by rw [hml]; rfl) (Steps.refl _) (argsL := [(.ref r6)]) (rest := []) (lenOf pd_0_22 rfl) rfl (by show 2 * 0 + _ ≤ _; exact Nat.le_of_eq rfl) (hb hby at_153) (fun _ _ => ⟨rfl, rfl, (by decide : 19 + 0 ≤ _), (by decide : 123 + 0 ≤ _)⟩)
  dsimp only [Pt.U, Pt.locs, Pt.cells, Pt.slots] at X7 l7 y7 z7 st7 hQ7
  subst l7 y7 z7
  obtain ⟨rfl, N7q, E7q⟩ := hQ7
  have K7q : Keep T6.heap T7.heap [] := by rw [E7q]; exact Keep.refl _ _
  have Z7 : n0 ≤ T7.heap.size := Nat.le_trans Z6 K7q.1
  have N7 := Fr.app N6 N7q
  obtain ⟨fs, hr, hrun, hended, hRW⟩ := X7.leaveW hS (Nat.le_of_eq (by rw [E7q])) (v := some (.int (1 : Int32))) (fun h => by rw [Bd.returns] at h; cases h)
  refine ⟨_, _, pre0 _ ?_, hrun, hended, _, _, rfl, ?_, ⟨_, rfl⟩, hRW.2.1, hRW.2.2.1, hRW.2.2.2.mono (by decide) (by decide)⟩
  · show Steps p.tables e below (s₁.setTop (mkF m 0 #[.val (.int p1), .val (.int p2), .val (.int p3), .unset, .unset, .unset, .unset, .unset, .unset, .unset, .unset, .unset, .unset] [])) _
    refine st4 _ ?_
    show Steps p.tables e below (T4.setTop (mkF m 92 #[.val (.int p1), .val (.int p2), .val (.int p3), .val (.int sA), .val (.int oA), .val (.int kA), .val (.int sB), .val (.int oB), .val (.int kB), .val (.int (own_kd p3)), .unset, .unset, .unset] [])) _
    refine st5 _ ?_
    show Steps p.tables e below (T5.setTop (mkF m 118 #[.val (.int p1), .val (.int p2), .val (.int p3), .val (.int sA), .val (.int oA), .val (.int kA), .val (.int sB), .val (.int oB), .val (.int kB), .val (.int (own_kd p3)), .val (.ref b5), .unset, .unset] [])) _
    refine XS.iload X5.here hx rfl (hb hby at_118) rfl ?_
    show Steps p.tables e below (T5.setTop (mkF m 120 #[.val (.int p1), .val (.int p2), .val (.int p3), .val (.int sA), .val (.int oA), .val (.int kA), .val (.int sB), .val (.int oB), .val (.int kB), .val (.int (own_kd p3)), .val (.ref b5), .unset, .unset] [(.int (own_kd p3))])) _
    refine XS.iconst X5.here hx rfl (hb hby at_120) ?_
    show Steps p.tables e below (T5.setTop (mkF m 121 #[.val (.int p1), .val (.int p2), .val (.int p3), .val (.int sA), .val (.int oA), .val (.int kA), .val (.int sB), .val (.int oB), .val (.int kB), .val (.int (own_kd p3)), .val (.ref b5), .unset, .unset] [(.int (1 : Int32)), (.int (own_kd p3))])) _
    refine XS.icmpYes X5.here hx rfl (pc0 := 121) (pc' := 139) rfl (hb hby at_121) rfl (feq hc121).2 (by decide) (by decide) ?_
    show Steps p.tables e below (T5.setTop (mkF m 139 #[.val (.int p1), .val (.int p2), .val (.int p3), .val (.int sA), .val (.int oA), .val (.int kA), .val (.int sB), .val (.int oB), .val (.int kB), .val (.int (own_kd p3)), .val (.ref b5), .unset, .unset] [])) _
    refine XS.iload X5.here hx rfl (hb hby at_139) rfl ?_
    show Steps p.tables e below (T5.setTop (mkF m 141 #[.val (.int p1), .val (.int p2), .val (.int p3), .val (.int sA), .val (.int oA), .val (.int kA), .val (.int sB), .val (.int oB), .val (.int kB), .val (.int (own_kd p3)), .val (.ref b5), .unset, .unset] [(.int (own_kd p3))])) _
    refine XS.iconst X5.here hx rfl (hb hby at_141) ?_
    show Steps p.tables e below (T5.setTop (mkF m 142 #[.val (.int p1), .val (.int p2), .val (.int p3), .val (.int sA), .val (.int oA), .val (.int kA), .val (.int sB), .val (.int oB), .val (.int kB), .val (.int (own_kd p3)), .val (.ref b5), .unset, .unset] [(.int (2 : Int32)), (.int (own_kd p3))])) _
    refine XS.icmpNo X5.here hx rfl (hb hby at_142) rfl (teq hc142).2 ?_
    show Steps p.tables e below (T5.setTop (mkF m 145 #[.val (.int p1), .val (.int p2), .val (.int p3), .val (.int sA), .val (.int oA), .val (.int kA), .val (.int sB), .val (.int oB), .val (.int kB), .val (.int (own_kd p3)), .val (.ref b5), .unset, .unset] [])) _
    refine XS.aload X5.here hx rfl (hb hby at_145) rfl rfl ?_
    show Steps p.tables e below (T5.setTop (mkF m 147 #[.val (.int p1), .val (.int p2), .val (.int p3), .val (.int sA), .val (.int oA), .val (.int kA), .val (.int sB), .val (.int oB), .val (.int kB), .val (.int (own_kd p3)), .val (.ref b5), .unset, .unset] [(.ref b5)])) _
    refine XS.iload X5.here hx rfl (hb hby at_147) rfl ?_
    show Steps p.tables e below (T5.setTop (mkF m 149 #[.val (.int p1), .val (.int p2), .val (.int p3), .val (.int sA), .val (.int oA), .val (.int kA), .val (.int sB), .val (.int oB), .val (.int kB), .val (.int (own_kd p3)), .val (.ref b5), .unset, .unset] [(.int kA), (.ref b5)])) _
    refine XS.iconst X5.here hx rfl (hb hby at_149) ?_
    show Steps p.tables e below (T5.setTop (mkF m 150 #[.val (.int p1), .val (.int p2), .val (.int p3), .val (.int sA), .val (.int oA), .val (.int kA), .val (.int sB), .val (.int oB), .val (.int kB), .val (.int (own_kd p3)), .val (.ref b5), .unset, .unset] [(.int (1 : Int32)), (.int kA), (.ref b5)])) _
    refine st6.trans ?_
    show Steps p.tables e below (T6.setTop (mkF m 153 #[.val (.int p1), .val (.int p2), .val (.int p3), .val (.int sA), .val (.int oA), .val (.int kA), .val (.int sB), .val (.int oB), .val (.int kB), .val (.int (own_kd p3)), .val (.ref b5), .unset, .unset] [(.ref r6), (.ref b5)])) _
    refine st7.trans ?_
    show Steps p.tables e below (T7.setTop (mkF m 156 #[.val (.int p1), .val (.int p2), .val (.int p3), .val (.int sA), .val (.int oA), .val (.int kA), .val (.int sB), .val (.int oB), .val (.int kB), .val (.int (own_kd p3)), .val (.ref b5), .unset, .unset] [(.int (0 : Int32))])) _
    refine XS.ifNo X7.here hx rfl (hb hby at_156) rfl ((if0 _ _).trans (teq (rfl : (0 : Int32) = (0 : Int32))).2) ?_
    show Steps p.tables e below (T7.setTop (mkF m 159 #[.val (.int p1), .val (.int p2), .val (.int p3), .val (.int sA), .val (.int oA), .val (.int kA), .val (.int sB), .val (.int oB), .val (.int kB), .val (.int (own_kd p3)), .val (.ref b5), .unset, .unset] [])) _
    refine XS.iconst X7.here hx rfl (hb hby at_159) ?_
    show Steps p.tables e below (T7.setTop (mkF m 160 #[.val (.int p1), .val (.int p2), .val (.int p3), .val (.int sA), .val (.int oA), .val (.int kA), .val (.int sB), .val (.int oB), .val (.int kB), .val (.int (own_kd p3)), .val (.ref b5), .unset, .unset] [(.int (1 : Int32))])) _
    refine XS.goto X7.here hx rfl (pc0 := 160) (pc' := 164) rfl (hb hby at_160) (by decide) (by decide) ?_
    show Steps p.tables e below (T7.setTop (mkF m 164 #[.val (.int p1), .val (.int p2), .val (.int p3), .val (.int sA), .val (.int oA), .val (.int kA), .val (.int sB), .val (.int oB), .val (.int kB), .val (.int (own_kd p3)), .val (.ref b5), .unset, .unset] [(.int (1 : Int32))])) _
    exact retN X7 hx (t := .boolean) Bd.returns (by simp) (hb hby at_164) hr
  · show Q0 Z p1 p2 p3 h0 n0 _ T7.heap _
    exact ⟨rfl, N7⟩
set_option maxRecDepth 65536 in
set_option maxHeartbeats 40000000 in
theorem rm0c (l : Launch) (Z : State) (a0 : Array Value) (hw : ∀ d ∈ tables_1, d.before a0 Z = true) (ws : List Jvm.Cond) (p1 : Int32) (p2 : Int32) (p3 : Int32) (h0 : Heap) (n0 : Nat) (Z0 : n0 ≤ h0.size) (hc121 : ¬ ((own_kd p3) = (1 : Int32))) (hc142 : ¬ ((own_kd p3) = (2 : Int32))) (hc168 : (own_kd p3) = (3 : Int32)) (zc : Int32) (wf : Value) (S_C : Sta Z Z.heap "java/lang/String" "COMPACT_STRINGS" "Z" (.int zc)) (hzc : ¬ zc = 0) (X00 : Old Z n0 h0) (S_F : Sta Z Z.heap "jdk/internal/util/Preconditions" "SIOOBE_FORMATTER" "Ljava/util/function/BiFunction;" wf) (hwf : wf.isRef = true) :
    MetFree l x (head1 (Jvm.Cond.code x code maxLocals ret :: ws) room_1) (fun a U => a = #[(.int p1), (.int p2), (.int p3)] ∧ Z.Warmed39 U.vm ∧ U.heap = h0 ∧ CHv Z consts_1 U.vm h0 ∧ True) (fun _ _ _ _ _ => True) (fun _ U o U' => ∃ v L, o = .returned v ∧ Q0 Z p1 p2 p3 h0 n0 v U'.heap L ∧ ReturnedEndW U o U' L room_1.cells room_1.slots) := by
  refine MetFree.of_bodySF (plainFor_of_name pn_0) hisR ?_
  intro p e s m args below meth c s₁ Bd hml0 hP hK
  obtain ⟨rfl, hZ, hh, H0, Sf0⟩ := hP
  have hx := Bd.exec
  have hby := Bd.bytes
  have hml : c.maxLocals = 13 := hml0
  have hown : s.vm.findClass "com/example/nto1/nto1/IdentityEqualsPinLaw" = some m.cls := findClass_of_methodNamed Bd.named
  have hnm := (name_of_methodNamed Bd.named Bd.method).1
  have X0 : Stand p l e room_1 (s.setVm s.vm) m #[(.int p1), (.int p2), (.int p3)] below meth c s₁ [] 0 0 := Stand.of_body Bd
  have e0 : s₁.heap = h0 := by rw [← hh, Bd.state]; rfl
  have N0 := Fr.nil n0
  have hS : s.Since s.vm h0.size := (State.WarmedH.refl s).since h0.size
  have hwS : ∀ a ∈ Bundle.stringAtoms, a.before a0 Z = true := fun d hd => hw d ((by decide +kernel : ∀ d ∈ Bundle.stringAtoms, d ∈ tables_1) d hd)
  have hEL := own_EL hw
  have hZ0 := hZ
  have hown0 := hown
  have pre0 : ∀ t, Steps p.tables e below (s₁.setTop (mkF m 0 #[.val (.int p1), .val (.int p2), .val (.int p3), .unset, .unset, .unset, .unset, .unset, .unset, .unset, .unset, .unset, .unset] [])) t → Steps p.tables e below (s₁.setTop (entryFrame m #[(.int p1), (.int p2), (.int p3)] maxLocals)) t := fun t k => castTop (ef_0 m p1 p2 p3) k
  obtain ⟨T4, sA, oA, kA, sB, oB, kB, hb1, hb2, hb3, hb4, hb5, hb6, X4, e4, st4⟩ := own_start p1 p2 p3 X0 hx hZ hw hby hml hown e0
  obtain ⟨T5, h5, locs5, b5, X5, e5, hS, hZ, hown, CH5, N5, K5q, I5, st5⟩ := pi92 (.val (.int p1)) (.val (.int p2)) (.val (.int p3)) sA oA kA (.val (.int sB)) (.val (.int oB)) (.val (.int kB)) (.val (.int (own_kd p3))) .unset .unset .unset zc wf n0 X4 hx hZ hw hby hml hown e4 hS (Nat.le_refl _) H0 Z0 N0 S_C hzc X00 S_F hwf hb2 hb3 (by decide) (by decide) One.u
  obtain ⟨cq6, kq6, q6a, q6b, q6c⟩ := isOf hZ e5 (own_Id_exa I5)
  obtain ⟨_, _, ⟨T6, L6, k6, n6⟩, -, X6, ⟨Lc6, hQ6, l6, y6, z6⟩, st6⟩ := X5.virtualBack hx (y := (⟨"com/example/nto1/nto1/Identity", "equals", "(Ljava/lang/Object;)Z"⟩ : MethodName)) (z := (⟨"com/example/nto1/nto1/Identity", "equals", "(Ljava/lang/Object;)Z"⟩ : MethodName)) hown (mvT hZ (hw _ (List.mem_of_getElem? (i := 118) rfl))) (mvT hZ (hw _ (List.mem_of_getElem? (i := 119) rfl))) (notFace_of_selects (args := #[]) (mvT hZ (hw _ (List.mem_of_getElem? (i := 121) rfl)))) (mvT hZ (hw _ (List.mem_of_getElem? (i := 121) rfl))) (mvT hZ (hw _ (List.mem_of_getElem? (i := 120) rfl))) (by decide) (backOf (W := 0) (rm25 l Z a0 hw [] b5 b5 _ _ _ _ _ _ zc h5 n0 (Nat.le_trans Z0 K5q.1) I5 I5 S_C hzc (X00.keep K5q all0)) hZ (hw _ (List.mem_of_getElem? (i := 122) rfl)) (hw _ (List.mem_of_getElem? (i := 2) rfl)) (by decide) (by decide)) q6a q6c (g := (mkF m 175 #[.val (.int p1), .val (.int p2), .val (.int p3), .val (.int sA), .val (.int oA), .val (.int kA), .val (.int sB), .val (.int oB), .val (.int kB), .val (.int (own_kd p3)), .val (.ref b5), .unset, .unset] [(.ref b5), (.ref b5)])) rfl (by rw [hml]; rfl) (Steps.refl _) (argsL := [(.ref b5)]) (rest := []) (lenOf pd_0_22 rfl) rfl (by show 2 * 0 + _ ≤ _; exact Nat.le_of_eq rfl) (hb hby at_175) (fun _ _ => ⟨rfl, e5, (by decide : 16 + 0 ≤ _), (by decide : 113 + 0 ≤ _)⟩)
  dsimp only [Pt.U, Pt.locs, Pt.cells, Pt.slots] at X6 l6 y6 z6 st6 hQ6
  subst l6 y6 z6
  obtain ⟨rfl, N6q, E6q⟩ := hQ6
  have K6q : Keep h5 T6.heap [] := by rw [E6q]; exact Keep.refl _ _
  have Z6 : n0 ≤ T6.heap.size := Nat.le_trans (Nat.le_trans Z0 K5q.1) K6q.1
  have N6 := Fr.app N5 N6q
  obtain ⟨fs, hr, hrun, hended, hRW⟩ := X6.leaveW hS (Nat.le_of_eq (by rw [E6q])) (v := some (.int (nar .boolean (own_e3 (own_part sA 0) (own_part oA 1) (own_part kA 1) (own_part sA 0) (own_part oA 1) (own_part kA 1))))) (fun h => by rw [Bd.returns] at h; cases h)
  refine ⟨_, _, pre0 _ ?_, hrun, hended, _, _, rfl, ?_, ⟨_, rfl⟩, hRW.2.1, hRW.2.2.1, hRW.2.2.2.mono (by decide) (by decide)⟩
  · show Steps p.tables e below (s₁.setTop (mkF m 0 #[.val (.int p1), .val (.int p2), .val (.int p3), .unset, .unset, .unset, .unset, .unset, .unset, .unset, .unset, .unset, .unset] [])) _
    refine st4 _ ?_
    show Steps p.tables e below (T4.setTop (mkF m 92 #[.val (.int p1), .val (.int p2), .val (.int p3), .val (.int sA), .val (.int oA), .val (.int kA), .val (.int sB), .val (.int oB), .val (.int kB), .val (.int (own_kd p3)), .unset, .unset, .unset] [])) _
    refine st5 _ ?_
    show Steps p.tables e below (T5.setTop (mkF m 118 #[.val (.int p1), .val (.int p2), .val (.int p3), .val (.int sA), .val (.int oA), .val (.int kA), .val (.int sB), .val (.int oB), .val (.int kB), .val (.int (own_kd p3)), .val (.ref b5), .unset, .unset] [])) _
    refine XS.iload X5.here hx rfl (hb hby at_118) rfl ?_
    show Steps p.tables e below (T5.setTop (mkF m 120 #[.val (.int p1), .val (.int p2), .val (.int p3), .val (.int sA), .val (.int oA), .val (.int kA), .val (.int sB), .val (.int oB), .val (.int kB), .val (.int (own_kd p3)), .val (.ref b5), .unset, .unset] [(.int (own_kd p3))])) _
    refine XS.iconst X5.here hx rfl (hb hby at_120) ?_
    show Steps p.tables e below (T5.setTop (mkF m 121 #[.val (.int p1), .val (.int p2), .val (.int p3), .val (.int sA), .val (.int oA), .val (.int kA), .val (.int sB), .val (.int oB), .val (.int kB), .val (.int (own_kd p3)), .val (.ref b5), .unset, .unset] [(.int (1 : Int32)), (.int (own_kd p3))])) _
    refine XS.icmpYes X5.here hx rfl (pc0 := 121) (pc' := 139) rfl (hb hby at_121) rfl (feq hc121).2 (by decide) (by decide) ?_
    show Steps p.tables e below (T5.setTop (mkF m 139 #[.val (.int p1), .val (.int p2), .val (.int p3), .val (.int sA), .val (.int oA), .val (.int kA), .val (.int sB), .val (.int oB), .val (.int kB), .val (.int (own_kd p3)), .val (.ref b5), .unset, .unset] [])) _
    refine XS.iload X5.here hx rfl (hb hby at_139) rfl ?_
    show Steps p.tables e below (T5.setTop (mkF m 141 #[.val (.int p1), .val (.int p2), .val (.int p3), .val (.int sA), .val (.int oA), .val (.int kA), .val (.int sB), .val (.int oB), .val (.int kB), .val (.int (own_kd p3)), .val (.ref b5), .unset, .unset] [(.int (own_kd p3))])) _
    refine XS.iconst X5.here hx rfl (hb hby at_141) ?_
    show Steps p.tables e below (T5.setTop (mkF m 142 #[.val (.int p1), .val (.int p2), .val (.int p3), .val (.int sA), .val (.int oA), .val (.int kA), .val (.int sB), .val (.int oB), .val (.int kB), .val (.int (own_kd p3)), .val (.ref b5), .unset, .unset] [(.int (2 : Int32)), (.int (own_kd p3))])) _
    refine XS.icmpYes X5.here hx rfl (pc0 := 142) (pc' := 165) rfl (hb hby at_142) rfl (feq hc142).2 (by decide) (by decide) ?_
    show Steps p.tables e below (T5.setTop (mkF m 165 #[.val (.int p1), .val (.int p2), .val (.int p3), .val (.int sA), .val (.int oA), .val (.int kA), .val (.int sB), .val (.int oB), .val (.int kB), .val (.int (own_kd p3)), .val (.ref b5), .unset, .unset] [])) _
    refine XS.iload X5.here hx rfl (hb hby at_165) rfl ?_
    show Steps p.tables e below (T5.setTop (mkF m 167 #[.val (.int p1), .val (.int p2), .val (.int p3), .val (.int sA), .val (.int oA), .val (.int kA), .val (.int sB), .val (.int oB), .val (.int kB), .val (.int (own_kd p3)), .val (.ref b5), .unset, .unset] [(.int (own_kd p3))])) _
    refine XS.iconst X5.here hx rfl (hb hby at_167) ?_
    show Steps p.tables e below (T5.setTop (mkF m 168 #[.val (.int p1), .val (.int p2), .val (.int p3), .val (.int sA), .val (.int oA), .val (.int kA), .val (.int sB), .val (.int oB), .val (.int kB), .val (.int (own_kd p3)), .val (.ref b5), .unset, .unset] [(.int (3 : Int32)), (.int (own_kd p3))])) _
    refine XS.icmpNo X5.here hx rfl (hb hby at_168) rfl (teq hc168).2 ?_
    show Steps p.tables e below (T5.setTop (mkF m 171 #[.val (.int p1), .val (.int p2), .val (.int p3), .val (.int sA), .val (.int oA), .val (.int kA), .val (.int sB), .val (.int oB), .val (.int kB), .val (.int (own_kd p3)), .val (.ref b5), .unset, .unset] [])) _
    refine XS.aload X5.here hx rfl (hb hby at_171) rfl rfl ?_
    show Steps p.tables e below (T5.setTop (mkF m 173 #[.val (.int p1), .val (.int p2), .val (.int p3), .val (.int sA), .val (.int oA), .val (.int kA), .val (.int sB), .val (.int oB), .val (.int kB), .val (.int (own_kd p3)), .val (.ref b5), .unset, .unset] [(.ref b5)])) _
    refine XS.aload X5.here hx rfl (hb hby at_173) rfl rfl ?_
    show Steps p.tables e below (T5.setTop (mkF m 175 #[.val (.int p1), .val (.int p2), .val (.int p3), .val (.int sA), .val (.int oA), .val (.int kA), .val (.int sB), .val (.int oB), .val (.int kB), .val (.int (own_kd p3)), .val (.ref b5), .unset, .unset] [(.ref b5), (.ref b5)])) _
    refine st6.trans ?_
    show Steps p.tables e below (T6.setTop (mkF m 178 #[.val (.int p1), .val (.int p2), .val (.int p3), .val (.int sA), .val (.int oA), .val (.int kA), .val (.int sB), .val (.int oB), .val (.int kB), .val (.int (own_kd p3)), .val (.ref b5), .unset, .unset] [(.int (own_e3 (own_part sA 0) (own_part oA 1) (own_part kA 1) (own_part sA 0) (own_part oA 1) (own_part kA 1)))])) _
    exact retN X6 hx (t := .boolean) Bd.returns (by simp) (hb hby at_178) hr
  · show Q0 Z p1 p2 p3 h0 n0 _ T6.heap _
    exact ⟨congrArg (fun z => some (Value.int z)) (by rw [own_e3_refl]; rfl), N6⟩
set_option maxRecDepth 65536 in
set_option maxHeartbeats 40000000 in
theorem rm0d (l : Launch) (Z : State) (a0 : Array Value) (hw : ∀ d ∈ tables_1, d.before a0 Z = true) (ws : List Jvm.Cond) (p1 : Int32) (p2 : Int32) (p3 : Int32) (h0 : Heap) (n0 : Nat) (Z0 : n0 ≤ h0.size) (hc121 : ¬ ((own_kd p3) = (1 : Int32))) (hc142 : ¬ ((own_kd p3) = (2 : Int32))) (hc168 : ¬ ((own_kd p3) = (3 : Int32))) (zc : Int32) (wf : Value) (S_C : Sta Z Z.heap "java/lang/String" "COMPACT_STRINGS" "Z" (.int zc)) (hzc : ¬ zc = 0) (X00 : Old Z n0 h0) (S_F : Sta Z Z.heap "jdk/internal/util/Preconditions" "SIOOBE_FORMATTER" "Ljava/util/function/BiFunction;" wf) (hwf : wf.isRef = true) :
    MetFree l x (head1 (Jvm.Cond.code x code maxLocals ret :: ws) room_1) (fun a U => a = #[(.int p1), (.int p2), (.int p3)] ∧ Z.Warmed39 U.vm ∧ U.heap = h0 ∧ CHv Z consts_1 U.vm h0 ∧ True) (fun _ _ _ _ _ => True) (fun _ U o U' => ∃ v L, o = .returned v ∧ Q0 Z p1 p2 p3 h0 n0 v U'.heap L ∧ ReturnedEndW U o U' L room_1.cells room_1.slots) := by
  refine MetFree.of_bodySF (plainFor_of_name pn_0) hisR ?_
  intro p e s m args below meth c s₁ Bd hml0 hP hK
  obtain ⟨rfl, hZ, hh, H0, Sf0⟩ := hP
  have hx := Bd.exec
  have hby := Bd.bytes
  have hml : c.maxLocals = 13 := hml0
  have hown : s.vm.findClass "com/example/nto1/nto1/IdentityEqualsPinLaw" = some m.cls := findClass_of_methodNamed Bd.named
  have hnm := (name_of_methodNamed Bd.named Bd.method).1
  have X0 : Stand p l e room_1 (s.setVm s.vm) m #[(.int p1), (.int p2), (.int p3)] below meth c s₁ [] 0 0 := Stand.of_body Bd
  have e0 : s₁.heap = h0 := by rw [← hh, Bd.state]; rfl
  have N0 := Fr.nil n0
  have hS : s.Since s.vm h0.size := (State.WarmedH.refl s).since h0.size
  have hwS : ∀ a ∈ Bundle.stringAtoms, a.before a0 Z = true := fun d hd => hw d ((by decide +kernel : ∀ d ∈ Bundle.stringAtoms, d ∈ tables_1) d hd)
  have hEL := own_EL hw
  have hZ0 := hZ
  have hown0 := hown
  have pre0 : ∀ t, Steps p.tables e below (s₁.setTop (mkF m 0 #[.val (.int p1), .val (.int p2), .val (.int p3), .unset, .unset, .unset, .unset, .unset, .unset, .unset, .unset, .unset, .unset] [])) t → Steps p.tables e below (s₁.setTop (entryFrame m #[(.int p1), (.int p2), (.int p3)] maxLocals)) t := fun t k => castTop (ef_0 m p1 p2 p3) k
  obtain ⟨T4, sA, oA, kA, sB, oB, kB, hb1, hb2, hb3, hb4, hb5, hb6, X4, e4, st4⟩ := own_start p1 p2 p3 X0 hx hZ hw hby hml hown e0
  obtain ⟨T5, h5, locs5, b5, X5, e5, hS, hZ, hown, CH5, N5, K5q, I5, st5⟩ := pi92 (.val (.int p1)) (.val (.int p2)) (.val (.int p3)) sA oA kA (.val (.int sB)) (.val (.int oB)) (.val (.int kB)) (.val (.int (own_kd p3))) .unset .unset .unset zc wf n0 X4 hx hZ hw hby hml hown e4 hS (Nat.le_refl _) H0 Z0 N0 S_C hzc X00 S_F hwf hb2 hb3 (by decide) (by decide) One.u
  obtain ⟨T6, h6, locs6, b6, X6, e6, hS, hZ, hown, CH6, N6, K6q, I6, st6⟩ := pi179 (.val (.int p1)) (.val (.int p2)) (.val (.int p3)) (.val (.int sA)) (.val (.int oA)) (.val (.int kA)) sB oB kB (.val (.int (own_kd p3))) (.val (.ref b5)) .unset .unset zc wf n0 X5 hx hZ hw hby hml hown e5 hS (Nat.le_refl _) CH5 (Nat.le_trans Z0 K5q.1) N5 S_C hzc (X00.keep K5q all0) S_F hwf hb5 hb6 (by decide) (by decide) One.u
  obtain ⟨T7, locs7, X7, e7, N7, st7⟩ := own_exp (.val (.int p1)) (.val (.int p2)) (.val (.int p3)) sA oA kA sB oB kB (.val (.int (own_kd p3))) (.val (.ref b5)) (.val (.ref b6)) n0 X6 hx hZ hw hby hml hown e6 (Nat.le_trans (Nat.le_trans Z0 K5q.1) K6q.1) N6 (by decide) (by decide) hb1 hb2 hb3 hb4 hb5 hb6
  obtain ⟨cq8, kq8, q8a, q8b, q8c⟩ := isOf hZ e7 ((own_Id_exa I5).keep K6q)
  obtain ⟨_, _, ⟨T8, L8, k8, n8⟩, -, X8, ⟨Lc8, hQ8, l8, y8, z8⟩, st8⟩ := X7.virtualBack hx (y := (⟨"com/example/nto1/nto1/Identity", "equals", "(Ljava/lang/Object;)Z"⟩ : MethodName)) (z := (⟨"com/example/nto1/nto1/Identity", "equals", "(Ljava/lang/Object;)Z"⟩ : MethodName)) hown (mvT hZ (hw _ (List.mem_of_getElem? (i := 118) rfl))) (mvT hZ (hw _ (List.mem_of_getElem? (i := 119) rfl))) (notFace_of_selects (args := #[]) (mvT hZ (hw _ (List.mem_of_getElem? (i := 121) rfl)))) (mvT hZ (hw _ (List.mem_of_getElem? (i := 121) rfl))) (mvT hZ (hw _ (List.mem_of_getElem? (i := 120) rfl))) (by decide) (backOf (W := 0) (rm25 l Z a0 hw [] b5 b6 _ _ _ _ _ _ zc h6 n0 (Nat.le_trans (Nat.le_trans Z0 K5q.1) K6q.1) (own_Id_keep I5 K6q) I6 S_C hzc ((X00.keep K5q all0).keep K6q all0)) hZ (hw _ (List.mem_of_getElem? (i := 122) rfl)) (hw _ (List.mem_of_getElem? (i := 2) rfl)) (by decide) (by decide)) q8a q8c (g := (mkF m 249 #[.val (.int p1), .val (.int p2), .val (.int p3), .val (.int sA), .val (.int oA), .val (.int kA), .val (.int sB), .val (.int oB), .val (.int kB), .val (.int (own_kd p3)), .val (.ref b5), .val (.ref b6), .val (.int (own_e3 (own_part sA 0) (own_part oA 1) (own_part kA 1) (own_part sB 0) (own_part oB 1) (own_part kB 1)))] [(.ref b6), (.ref b5)])) rfl (by rw [hml]; rfl) (Steps.refl _) (argsL := [(.ref b6)]) (rest := []) (lenOf pd_0_22 rfl) rfl (by show 2 * 0 + _ ≤ _; exact Nat.le_of_eq rfl) (hb hby at_249) (fun _ _ => ⟨rfl, e7, (by decide : 32 + 0 ≤ _), (by decide : 226 + 0 ≤ _)⟩)
  dsimp only [Pt.U, Pt.locs, Pt.cells, Pt.slots] at X8 l8 y8 z8 st8 hQ8
  subst l8 y8 z8
  obtain ⟨rfl, N8q, E8q⟩ := hQ8
  have K8q : Keep h6 T8.heap [] := by rw [E8q]; exact Keep.refl _ _
  have Z8 : n0 ≤ T8.heap.size := Nat.le_trans (Nat.le_trans (Nat.le_trans Z0 K5q.1) K6q.1) K8q.1
  have N8 := Fr.app N7 N8q
  obtain ⟨cq9, kq9, q9a, q9b, q9c⟩ := isOf hZ rfl ((own_Id_exa I6).keep K8q)
  obtain ⟨_, _, ⟨T9, L9, k9, n9⟩, -, X9, ⟨Lc9, hQ9, l9, y9, z9⟩, st9⟩ := X8.virtualBack hx (y := (⟨"com/example/nto1/nto1/Identity", "equals", "(Ljava/lang/Object;)Z"⟩ : MethodName)) (z := (⟨"com/example/nto1/nto1/Identity", "equals", "(Ljava/lang/Object;)Z"⟩ : MethodName)) hown (mvT hZ (hw _ (List.mem_of_getElem? (i := 118) rfl))) (mvT hZ (hw _ (List.mem_of_getElem? (i := 119) rfl))) (notFace_of_selects (args := #[]) (mvT hZ (hw _ (List.mem_of_getElem? (i := 121) rfl)))) (mvT hZ (hw _ (List.mem_of_getElem? (i := 121) rfl))) (mvT hZ (hw _ (List.mem_of_getElem? (i := 120) rfl))) (by decide) (backOf (W := 0) (rm25 l Z a0 hw [] b6 b5 _ _ _ _ _ _ zc T8.heap n0 Z8 (own_Id_keep I6 K8q) (own_Id_keep (own_Id_keep I5 K6q) K8q) S_C hzc (((X00.keep K5q all0).keep K6q all0).keep K8q all0)) hZ (hw _ (List.mem_of_getElem? (i := 122) rfl)) (hw _ (List.mem_of_getElem? (i := 2) rfl)) (by decide) (by decide)) q9a q9c (g := (mkF m 261 #[.val (.int p1), .val (.int p2), .val (.int p3), .val (.int sA), .val (.int oA), .val (.int kA), .val (.int sB), .val (.int oB), .val (.int kB), .val (.int (own_kd p3)), .val (.ref b5), .val (.ref b6), .val (.int (own_e3 (own_part sA 0) (own_part oA 1) (own_part kA 1) (own_part sB 0) (own_part oB 1) (own_part kB 1)))] [(.ref b5), (.ref b6)])) rfl (by rw [hml]; rfl) (Steps.refl _) (argsL := [(.ref b5)]) (rest := []) (lenOf pd_0_22 rfl) rfl (by show 2 * 0 + _ ≤ _; exact Nat.le_of_eq rfl) (hb hby at_261) (fun _ _ => ⟨rfl, rfl, (by decide : 32 + 0 ≤ _), (by decide : 226 + 0 ≤ _)⟩)
  dsimp only [Pt.U, Pt.locs, Pt.cells, Pt.slots] at X9 l9 y9 z9 st9 hQ9
  subst l9 y9 z9
  obtain ⟨rfl, N9q, E9q⟩ := hQ9
  have K9q : Keep T8.heap T9.heap [] := by rw [E9q]; exact Keep.refl _ _
  have Z9 : n0 ≤ T9.heap.size := Nat.le_trans Z8 K9q.1
  have N9 := Fr.app N8 N9q
  obtain ⟨fs, hr, hrun, hended, hRW⟩ := X9.leaveW hS (Nat.le_of_eq (by rw [E9q, E8q])) (v := some (.int (1 : Int32))) (fun h => by rw [Bd.returns] at h; cases h)
  refine ⟨_, _, pre0 _ ?_, hrun, hended, _, _, rfl, ?_, ⟨_, rfl⟩, hRW.2.1, hRW.2.2.1, hRW.2.2.2.mono (by decide) (by decide)⟩
  · show Steps p.tables e below (s₁.setTop (mkF m 0 #[.val (.int p1), .val (.int p2), .val (.int p3), .unset, .unset, .unset, .unset, .unset, .unset, .unset, .unset, .unset, .unset] [])) _
    refine st4 _ ?_
    show Steps p.tables e below (T4.setTop (mkF m 92 #[.val (.int p1), .val (.int p2), .val (.int p3), .val (.int sA), .val (.int oA), .val (.int kA), .val (.int sB), .val (.int oB), .val (.int kB), .val (.int (own_kd p3)), .unset, .unset, .unset] [])) _
    refine st5 _ ?_
    show Steps p.tables e below (T5.setTop (mkF m 118 #[.val (.int p1), .val (.int p2), .val (.int p3), .val (.int sA), .val (.int oA), .val (.int kA), .val (.int sB), .val (.int oB), .val (.int kB), .val (.int (own_kd p3)), .val (.ref b5), .unset, .unset] [])) _
    refine XS.iload X5.here hx rfl (hb hby at_118) rfl ?_
    show Steps p.tables e below (T5.setTop (mkF m 120 #[.val (.int p1), .val (.int p2), .val (.int p3), .val (.int sA), .val (.int oA), .val (.int kA), .val (.int sB), .val (.int oB), .val (.int kB), .val (.int (own_kd p3)), .val (.ref b5), .unset, .unset] [(.int (own_kd p3))])) _
    refine XS.iconst X5.here hx rfl (hb hby at_120) ?_
    show Steps p.tables e below (T5.setTop (mkF m 121 #[.val (.int p1), .val (.int p2), .val (.int p3), .val (.int sA), .val (.int oA), .val (.int kA), .val (.int sB), .val (.int oB), .val (.int kB), .val (.int (own_kd p3)), .val (.ref b5), .unset, .unset] [(.int (1 : Int32)), (.int (own_kd p3))])) _
    refine XS.icmpYes X5.here hx rfl (pc0 := 121) (pc' := 139) rfl (hb hby at_121) rfl (feq hc121).2 (by decide) (by decide) ?_
    show Steps p.tables e below (T5.setTop (mkF m 139 #[.val (.int p1), .val (.int p2), .val (.int p3), .val (.int sA), .val (.int oA), .val (.int kA), .val (.int sB), .val (.int oB), .val (.int kB), .val (.int (own_kd p3)), .val (.ref b5), .unset, .unset] [])) _
    refine XS.iload X5.here hx rfl (hb hby at_139) rfl ?_
    show Steps p.tables e below (T5.setTop (mkF m 141 #[.val (.int p1), .val (.int p2), .val (.int p3), .val (.int sA), .val (.int oA), .val (.int kA), .val (.int sB), .val (.int oB), .val (.int kB), .val (.int (own_kd p3)), .val (.ref b5), .unset, .unset] [(.int (own_kd p3))])) _
    refine XS.iconst X5.here hx rfl (hb hby at_141) ?_
    show Steps p.tables e below (T5.setTop (mkF m 142 #[.val (.int p1), .val (.int p2), .val (.int p3), .val (.int sA), .val (.int oA), .val (.int kA), .val (.int sB), .val (.int oB), .val (.int kB), .val (.int (own_kd p3)), .val (.ref b5), .unset, .unset] [(.int (2 : Int32)), (.int (own_kd p3))])) _
    refine XS.icmpYes X5.here hx rfl (pc0 := 142) (pc' := 165) rfl (hb hby at_142) rfl (feq hc142).2 (by decide) (by decide) ?_
    show Steps p.tables e below (T5.setTop (mkF m 165 #[.val (.int p1), .val (.int p2), .val (.int p3), .val (.int sA), .val (.int oA), .val (.int kA), .val (.int sB), .val (.int oB), .val (.int kB), .val (.int (own_kd p3)), .val (.ref b5), .unset, .unset] [])) _
    refine XS.iload X5.here hx rfl (hb hby at_165) rfl ?_
    show Steps p.tables e below (T5.setTop (mkF m 167 #[.val (.int p1), .val (.int p2), .val (.int p3), .val (.int sA), .val (.int oA), .val (.int kA), .val (.int sB), .val (.int oB), .val (.int kB), .val (.int (own_kd p3)), .val (.ref b5), .unset, .unset] [(.int (own_kd p3))])) _
    refine XS.iconst X5.here hx rfl (hb hby at_167) ?_
    show Steps p.tables e below (T5.setTop (mkF m 168 #[.val (.int p1), .val (.int p2), .val (.int p3), .val (.int sA), .val (.int oA), .val (.int kA), .val (.int sB), .val (.int oB), .val (.int kB), .val (.int (own_kd p3)), .val (.ref b5), .unset, .unset] [(.int (3 : Int32)), (.int (own_kd p3))])) _
    refine XS.icmpYes X5.here hx rfl (pc0 := 168) (pc' := 179) rfl (hb hby at_168) rfl (feq hc168).2 (by decide) (by decide) ?_
    show Steps p.tables e below (T5.setTop (mkF m 179 #[.val (.int p1), .val (.int p2), .val (.int p3), .val (.int sA), .val (.int oA), .val (.int kA), .val (.int sB), .val (.int oB), .val (.int kB), .val (.int (own_kd p3)), .val (.ref b5), .unset, .unset] [])) _
    refine st6 _ ?_
    show Steps p.tables e below (T6.setTop (mkF m 206 #[.val (.int p1), .val (.int p2), .val (.int p3), .val (.int sA), .val (.int oA), .val (.int kA), .val (.int sB), .val (.int oB), .val (.int kB), .val (.int (own_kd p3)), .val (.ref b5), .val (.ref b6), .unset] [])) _
    refine st7 _ ?_
    show Steps p.tables e below (T7.setTop (mkF m 245 #[.val (.int p1), .val (.int p2), .val (.int p3), .val (.int sA), .val (.int oA), .val (.int kA), .val (.int sB), .val (.int oB), .val (.int kB), .val (.int (own_kd p3)), .val (.ref b5), .val (.ref b6), .val (.int (own_e3 (own_part sA 0) (own_part oA 1) (own_part kA 1) (own_part sB 0) (own_part oB 1) (own_part kB 1)))] [])) _
    refine XS.aload X7.here hx rfl (hb hby at_245) rfl rfl ?_
    show Steps p.tables e below (T7.setTop (mkF m 247 #[.val (.int p1), .val (.int p2), .val (.int p3), .val (.int sA), .val (.int oA), .val (.int kA), .val (.int sB), .val (.int oB), .val (.int kB), .val (.int (own_kd p3)), .val (.ref b5), .val (.ref b6), .val (.int (own_e3 (own_part sA 0) (own_part oA 1) (own_part kA 1) (own_part sB 0) (own_part oB 1) (own_part kB 1)))] [(.ref b5)])) _
    refine XS.aload X7.here hx rfl (hb hby at_247) rfl rfl ?_
    show Steps p.tables e below (T7.setTop (mkF m 249 #[.val (.int p1), .val (.int p2), .val (.int p3), .val (.int sA), .val (.int oA), .val (.int kA), .val (.int sB), .val (.int oB), .val (.int kB), .val (.int (own_kd p3)), .val (.ref b5), .val (.ref b6), .val (.int (own_e3 (own_part sA 0) (own_part oA 1) (own_part kA 1) (own_part sB 0) (own_part oB 1) (own_part kB 1)))] [(.ref b6), (.ref b5)])) _
    refine st8.trans ?_
    show Steps p.tables e below (T8.setTop (mkF m 252 #[.val (.int p1), .val (.int p2), .val (.int p3), .val (.int sA), .val (.int oA), .val (.int kA), .val (.int sB), .val (.int oB), .val (.int kB), .val (.int (own_kd p3)), .val (.ref b5), .val (.ref b6), .val (.int (own_e3 (own_part sA 0) (own_part oA 1) (own_part kA 1) (own_part sB 0) (own_part oB 1) (own_part kB 1)))] [(.int (own_e3 (own_part sA 0) (own_part oA 1) (own_part kA 1) (own_part sB 0) (own_part oB 1) (own_part kB 1)))])) _
    refine XS.iload X8.here hx rfl (hb hby at_252) rfl ?_
    show Steps p.tables e below (T8.setTop (mkF m 254 #[.val (.int p1), .val (.int p2), .val (.int p3), .val (.int sA), .val (.int oA), .val (.int kA), .val (.int sB), .val (.int oB), .val (.int kB), .val (.int (own_kd p3)), .val (.ref b5), .val (.ref b6), .val (.int (own_e3 (own_part sA 0) (own_part oA 1) (own_part kA 1) (own_part sB 0) (own_part oB 1) (own_part kB 1)))] [(.int (own_e3 (own_part sA 0) (own_part oA 1) (own_part kA 1) (own_part sB 0) (own_part oB 1) (own_part kB 1))), (.int (own_e3 (own_part sA 0) (own_part oA 1) (own_part kA 1) (own_part sB 0) (own_part oB 1) (own_part kB 1)))])) _
    refine XS.icmpNo X8.here hx rfl (hb hby at_254) rfl (teq (rfl : (own_e3 (own_part sA 0) (own_part oA 1) (own_part kA 1) (own_part sB 0) (own_part oB 1) (own_part kB 1)) = (own_e3 (own_part sA 0) (own_part oA 1) (own_part kA 1) (own_part sB 0) (own_part oB 1) (own_part kB 1)))).2 ?_
    show Steps p.tables e below (T8.setTop (mkF m 257 #[.val (.int p1), .val (.int p2), .val (.int p3), .val (.int sA), .val (.int oA), .val (.int kA), .val (.int sB), .val (.int oB), .val (.int kB), .val (.int (own_kd p3)), .val (.ref b5), .val (.ref b6), .val (.int (own_e3 (own_part sA 0) (own_part oA 1) (own_part kA 1) (own_part sB 0) (own_part oB 1) (own_part kB 1)))] [])) _
    refine XS.aload X8.here hx rfl (hb hby at_257) rfl rfl ?_
    show Steps p.tables e below (T8.setTop (mkF m 259 #[.val (.int p1), .val (.int p2), .val (.int p3), .val (.int sA), .val (.int oA), .val (.int kA), .val (.int sB), .val (.int oB), .val (.int kB), .val (.int (own_kd p3)), .val (.ref b5), .val (.ref b6), .val (.int (own_e3 (own_part sA 0) (own_part oA 1) (own_part kA 1) (own_part sB 0) (own_part oB 1) (own_part kB 1)))] [(.ref b6)])) _
    refine XS.aload X8.here hx rfl (hb hby at_259) rfl rfl ?_
    show Steps p.tables e below (T8.setTop (mkF m 261 #[.val (.int p1), .val (.int p2), .val (.int p3), .val (.int sA), .val (.int oA), .val (.int kA), .val (.int sB), .val (.int oB), .val (.int kB), .val (.int (own_kd p3)), .val (.ref b5), .val (.ref b6), .val (.int (own_e3 (own_part sA 0) (own_part oA 1) (own_part kA 1) (own_part sB 0) (own_part oB 1) (own_part kB 1)))] [(.ref b5), (.ref b6)])) _
    refine st9.trans ?_
    show Steps p.tables e below (T9.setTop (mkF m 264 #[.val (.int p1), .val (.int p2), .val (.int p3), .val (.int sA), .val (.int oA), .val (.int kA), .val (.int sB), .val (.int oB), .val (.int kB), .val (.int (own_kd p3)), .val (.ref b5), .val (.ref b6), .val (.int (own_e3 (own_part sA 0) (own_part oA 1) (own_part kA 1) (own_part sB 0) (own_part oB 1) (own_part kB 1)))] [(.int (own_e3 (own_part sB 0) (own_part oB 1) (own_part kB 1) (own_part sA 0) (own_part oA 1) (own_part kA 1)))])) _
    refine XS.iload X9.here hx rfl (hb hby at_264) rfl ?_
    show Steps p.tables e below (T9.setTop (mkF m 266 #[.val (.int p1), .val (.int p2), .val (.int p3), .val (.int sA), .val (.int oA), .val (.int kA), .val (.int sB), .val (.int oB), .val (.int kB), .val (.int (own_kd p3)), .val (.ref b5), .val (.ref b6), .val (.int (own_e3 (own_part sA 0) (own_part oA 1) (own_part kA 1) (own_part sB 0) (own_part oB 1) (own_part kB 1)))] [(.int (own_e3 (own_part sA 0) (own_part oA 1) (own_part kA 1) (own_part sB 0) (own_part oB 1) (own_part kB 1))), (.int (own_e3 (own_part sB 0) (own_part oB 1) (own_part kB 1) (own_part sA 0) (own_part oA 1) (own_part kA 1)))])) _
    refine XS.icmpNo X9.here hx rfl (hb hby at_266) rfl (teq (own_e3_symm _ _ _ _ _ _ : (own_e3 (own_part sB 0) (own_part oB 1) (own_part kB 1) (own_part sA 0) (own_part oA 1) (own_part kA 1)) = (own_e3 (own_part sA 0) (own_part oA 1) (own_part kA 1) (own_part sB 0) (own_part oB 1) (own_part kB 1)))).2 ?_
    show Steps p.tables e below (T9.setTop (mkF m 269 #[.val (.int p1), .val (.int p2), .val (.int p3), .val (.int sA), .val (.int oA), .val (.int kA), .val (.int sB), .val (.int oB), .val (.int kB), .val (.int (own_kd p3)), .val (.ref b5), .val (.ref b6), .val (.int (own_e3 (own_part sA 0) (own_part oA 1) (own_part kA 1) (own_part sB 0) (own_part oB 1) (own_part kB 1)))] [])) _
    refine XS.iconst X9.here hx rfl (hb hby at_269) ?_
    show Steps p.tables e below (T9.setTop (mkF m 270 #[.val (.int p1), .val (.int p2), .val (.int p3), .val (.int sA), .val (.int oA), .val (.int kA), .val (.int sB), .val (.int oB), .val (.int kB), .val (.int (own_kd p3)), .val (.ref b5), .val (.ref b6), .val (.int (own_e3 (own_part sA 0) (own_part oA 1) (own_part kA 1) (own_part sB 0) (own_part oB 1) (own_part kB 1)))] [(.int (1 : Int32))])) _
    refine XS.goto X9.here hx rfl (pc0 := 270) (pc' := 274) rfl (hb hby at_270) (by decide) (by decide) ?_
    show Steps p.tables e below (T9.setTop (mkF m 274 #[.val (.int p1), .val (.int p2), .val (.int p3), .val (.int sA), .val (.int oA), .val (.int kA), .val (.int sB), .val (.int oB), .val (.int kB), .val (.int (own_kd p3)), .val (.ref b5), .val (.ref b6), .val (.int (own_e3 (own_part sA 0) (own_part oA 1) (own_part kA 1) (own_part sB 0) (own_part oB 1) (own_part kB 1)))] [(.int (1 : Int32))])) _
    exact retN X9 hx (t := .boolean) Bd.returns (by simp) (hb hby at_274) hr
  · show Q0 Z p1 p2 p3 h0 n0 _ T9.heap _
    exact ⟨rfl, N9⟩
theorem rm0 (l : Launch) (Z : State) (a0 : Array Value) (hw : ∀ d ∈ tables_1, d.before a0 Z = true) (ws : List Jvm.Cond) (p1 p2 p3 : Int32) (h0 : Heap) (n0 : Nat) (Z0 : n0 ≤ h0.size) (zc : Int32) (wf : Value) (S_C : Sta Z Z.heap "java/lang/String" "COMPACT_STRINGS" "Z" (.int zc)) (hzc : ¬ zc = 0) (X00 : Old Z n0 h0) (S_F : Sta Z Z.heap "jdk/internal/util/Preconditions" "SIOOBE_FORMATTER" "Ljava/util/function/BiFunction;" wf) (hwf : wf.isRef = true) : MetFree l x (head1 (Jvm.Cond.code x code maxLocals ret :: ws) room_1) (fun a U => a = #[(.int p1), (.int p2), (.int p3)] ∧ Z.Warmed39 U.vm ∧ U.heap = h0 ∧ CHv Z consts_1 U.vm h0 ∧ True) (fun _ _ _ _ _ => True) (fun _ U o U' => ∃ v L, o = .returned v ∧ Q0 Z p1 p2 p3 h0 n0 v U'.heap L ∧ ReturnedEndW U o U' L room_1.cells room_1.slots) := by
  by_cases h1 : own_kd p3 = (1 : Int32)
  · exact rm0a l Z a0 hw ws p1 p2 p3 h0 n0 Z0 h1 zc wf S_C hzc X00 S_F hwf
  · by_cases h2 : own_kd p3 = (2 : Int32)
    · exact rm0b l Z a0 hw ws p1 p2 p3 h0 n0 Z0 h1 h2 zc wf S_C hzc X00 S_F hwf
    · by_cases h3 : own_kd p3 = (3 : Int32)
      · exact rm0c l Z a0 hw ws p1 p2 p3 h0 n0 Z0 h1 h2 h3 zc wf S_C hzc X00 S_F hwf
      · exact rm0d l Z a0 hw ws p1 p2 p3 h0 n0 Z0 h1 h2 h3 zc wf S_C hzc X00 S_F hwf
theorem own_nz {s : State} {a : Array Value} {t : Jvm.Term} {z : Int32} (e : t.eval a s none [] s = some (.int z)) (h : (Jvm.Cond.not (.eq t (.int 0))).value a s none s [] = some true) : ¬ z = 0 := by
  intro q
  subst q
  simp [Cond.value, e, Term.eval] at h
theorem own_held {tb : Tables} {e : Env} {a : Array Value} {s : State} (h : call_1_1 tb e a s) : ∀ p ∈ consts_1, Jvm.Lit.constHeld s p.1 p.2 := h
set_option maxRecDepth 65536 in
set_option maxHeartbeats 40000000 in
theorem comes_1 {Post : Tables → Env → Array Value → State → Outcome → State → Prop} (hpost : ∀ tb e args s v u, (limb_1_1.after args s (.returned v) u = true ∧ limb_1_2.after args s (.returned v) u = true ∧ True) → ReturnedEndW s (.returned v) u (Jvm.fieldLocs frame_1_writes args s ++ Jvm.arrayLocs frame_1_arrays args s ++ Jvm.staticLocs frame_1_statics s) 56 4352 → Post tb e args s (.returned v) u) :
    ArmFor flags0 classFile x code maxLocals ret World_1 tables_1 room_1 Calls_1 rest_1 Pre_1 Post := by
  intro l hfl _ _ p e ha hc hk s m args below hf hA hF happ hP
  obtain ⟨hcalls, hrest, hpre⟩ := hP
  obtain ⟨-, -, -, hnamed, -, -, -, hat⟩ := (Spec.applies_iff hf).mp happ
  obtain ⟨hg, hn⟩ := and_e (Cond.before_iff.mp (show (Jvm.Cond.and given_1 narrow_1).before args s = true from hpre))
  obtain ⟨g7, g8⟩ := and_e hg
  obtain ⟨g9, g10⟩ := and_e g8
  obtain ⟨g11, g12⟩ := and_e g10
  obtain ⟨w0, w1, w2, rfl⟩ : ∃ w0 w1 w2 : Value, args = #[w0, w1, w2] := by
    have hs : args.size = 3 := by simpa [Cond.value, given_1] using g7
    obtain ⟨L⟩ := args
    match L, hs with
    | [w0, w1, w2], _ => exact ⟨w0, w1, w2, rfl⟩
  have hw := fun d (hd : d ∈ tables_1) => atoms_spec (ws := Jvm.Cond.code x code maxLocals ret :: tables_1) hat d (List.mem_cons_of_mem _ hd)
  have hfit : Fit s := fun {y c} hc i hi => by
    obtain ⟨ha, rfl⟩ := Array.getElem?_eq_some_iff.mp hc
    have q := List.all_eq_true.mp ((Array.all_eq_true_iff_forall_mem.mp hF) _ (Array.getElem_mem ha)) i (List.mem_range.mpr hi)
    simpa [Array.getElem?_eq_getElem hi] using q
  obtain ⟨hsets, hown0⟩ := atoms_of _ (rest_1_c_eq ▸ (show rest_1_c.before _ s = true from hrest))
  have hr0 := Cond.before_iff.mp hown0
  obtain ⟨zc, ezc⟩ := is_v (Cond.before_iff.mp (hsets _ (List.mem_of_getElem? (i := 1) rfl)))
  have hcw := hsets _ (List.mem_of_getElem? (i := 2) rfl)
  have hzc : ¬ zc = 0 := own_nz ezc (Cond.before_iff.mp hcw)
  obtain ⟨wf, ewf, rwf⟩ := isR_v (Cond.before_iff.mp (hsets _ (List.mem_of_getElem? (i := 8) rfl)))
  have hCH : CHv s consts_1 s.vm s.heap := CHv.start (own_EL hw) (own_held hcalls.1) hcw (hw _ (List.mem_of_getElem? (i := 16) rfl)) (hw _ (List.mem_of_getElem? (i := 15) rfl))
  obtain ⟨i0, ei0⟩ := is_v g9
  obtain rfl : w0 = (.int i0) := Option.some.inj ei0
  obtain ⟨i1, ei1⟩ := is_v g11
  obtain rfl : w1 = (.int i1) := Option.some.inj ei1
  obtain ⟨i2, ei2⟩ := is_v g12
  obtain rfl : w2 = (.int i2) := Option.some.inj ei2
  obtain ⟨n, o, h1, h2, h3, _, L, rfl, ⟨rfl, N⟩, hq⟩ := rm0 l s _ hw tables_1 i0 i1 i2 s.heap s.heap.size (Nat.le_refl _) zc wf (Sta.start ezc (Or.inl (hsets _ (List.mem_of_getElem? (i := 0) rfl)))) hzc (Old.start s) (Sta.start ewf (Or.inl (hsets _ (List.mem_of_getElem? (i := 7) rfl)))) rwf p e ha hc hk s m _ below hf ((Spec.applies_iff_loose hf).mp happ).1 ⟨rfl, State.Warmed39.refl s, rfl, hCH, trivial⟩ trivial
  refine ⟨n, _, h1, h2, h3, hpost _ _ _ _ _ _ ⟨Cond.after_iff.mpr rfl, Cond.after_iff.mpr (eq_i res_at (Term.int_eval (1)) rfl), trivial⟩ ⟨hq.1, hq.2.1, hq.2.2.1, (hq.2.2.2.sift fun y hy => Or.inr (N y hy)).mono (by decide) (by decide)⟩⟩
theorem main_1_1 : Claimed_1_1 := comes_1 fun _ _ _ _ _ _ h hF => ⟨h.1, hF⟩
theorem main_1_2 : Claimed_1_2 := comes_1 fun _ _ _ _ _ _ h hF => ⟨h.2.1, hF⟩
end Jvm.Pilot.@@N@@
namespace Jvm.Pilot.@@N@@
open Jvm Jvm.ClassFile Sem Op Lib Jvm.Free Jvm.Stand Jvm.Pilot.@@N@@.Jvm.D
/-! MADE BY PROGRAM (witnessworld.py) out of the Statement's table words and the real class files: 22 classes; the members and pool entries that the words name. The judged class is class 1, her method 1. -/
namespace start1
open Jvm.ClassFile
def u (s : String) : CpInfo := .utf8 (stringToUtf16 s)
/-- a pool by its gaps: so many unusable entries, then the entry; so many at the end -/
def gap : Nat → List CpInfo → List CpInfo
  | 0, r => r
  | n + 1, r => .unusable :: gap n r
def poolList (es : List (Nat × CpInfo)) (last : Nat) : List CpInfo := es.foldr (fun e r => gap e.1 (e.2 :: r)) (gap last [])
def pool (es : List (Nat × CpInfo)) (last : Nat) : Array CpInfo := ⟨poolList es last⟩
def fileOf (pool : Array CpInfo) (this : Nat) (attrs : Array Attribute := #[]) (ms : Array MethodInfo := #[]) (fl : Nat := 33) (sup : Nat := 0) (ifs : Array Nat := #[]) (fds : Array FieldInfo := #[]) : ClassFile where
  minorVersion := 0
  majorVersion := 65
  constantPool := pool
  accessFlags := fl
  thisClass := this
  superClass := sup
  interfaces := ifs
  fields := fds
  methods := ms
  attributes := attrs
def plain (name : String) (sup : Option ClassId) : Class where
  name := name
  kind := .ordinary
  loader := none
  accessFlags := 33
  super := sup
  interfaces := #[]
  cf := none
  fields := #[]
  methods := #[]
  instanceTypes := #[]
  staticTypes := #[]
  resolved := #[]
  callSites := []
  init := .initialized
  statics := none
  mirror := none

def pool0 : Array CpInfo := pool [(5, u "<init>"), (0, u "()V"), (1, .class_ 10), (1, u "java/lang/Object")] 113

def k0c0 : Code := { maxStack := 0, maxLocals := 1, code := object_method_1_code, exceptionTable := #[], attributes := #[] }
def k0m0 : Method := { name := "<init>", desc := "()V", sig := { parameters := [], returnType := none }, accessFlags := 1, code := some k0c0 }
/-- java/lang/Object -/
def k0 : Class := { plain "java/lang/Object" none with
  accessFlags := 33
  interfaces := #[]
  cf := some (fileOf pool0 8 #[] #[{ accessFlags := 1, nameIndex := 5, descriptorIndex := 6, attributes := #[] }] 33 0 #[] #[])
  fields := #[]
  methods := #[k0m0]
  instanceTypes := #[]
  staticTypes := #[]
  resolved := Array.replicate 124 none
  statics := none }

def pool1 : Array CpInfo := pool [(2, .class_ 4), (1, u "java/lang/Object"), (0, u "<init>"), (0, u "()V"), (0, .class_ 8), (0, u "com/example/nto1/nto1/Identity"), (0, .methodref 10 11), (0, .class_ 12), (0, .nameAndType 13 14), (0, u "com/example/nto1/nto1/IdentityEqualsPinLaw"), (0, u "part"), (0, u "(II)Ljava/lang/String;"), (0, .methodref 7 16), (0, .nameAndType 5 17), (0, u "(Ljava/lang/String;Ljava/lang/String;Ljava/lang/String;)V"), (0, .methodref 7 19), (0, .nameAndType 20 21), (0, u "equals"), (0, u "(Ljava/lang/Object;)Z"), (0, .methodref 10 23), (0, .nameAndType 24 25), (0, u "same"), (0, u "(III)Z"), (0, .methodref 10 27), (0, .nameAndType 28 29), (0, u "len"), (0, u "(II)I"), (0, .methodref 10 31), (0, .nameAndType 32 33), (0, u "ch"), (0, u "(I)C"), (0, .string 35), (0, u ""), (0, .class_ 37), (0, u "java/lang/String"), (0, .methodref 36 39), (0, .nameAndType 5 40), (0, u "([C)V"), (2, u "law")] 3

def k1m0 : Method := { name := "<init>", desc := "()V", sig := { parameters := [], returnType := none }, accessFlags := 1, code := none }
def k1c1 : Code := { maxStack := 6, maxLocals := 13, code := code, exceptionTable := #[], attributes := #[] }
def k1m1 : Method := { name := "law", desc := "(III)Z", sig := { parameters := [.int, .int, .int], returnType := some .boolean }, accessFlags := 9, code := some k1c1 }
def k1c2 : Code := { maxStack := 2, maxLocals := 3, code := method_3_code, exceptionTable := #[], attributes := #[] }
def k1m2 : Method := { name := "len", desc := "(II)I", sig := { parameters := [.int, .int], returnType := some .int }, accessFlags := 10, code := some k1c2 }
def k1c3 : Code := { maxStack := 2, maxLocals := 2, code := method_4_code, exceptionTable := #[], attributes := #[] }
def k1m3 : Method := { name := "ch", desc := "(I)C", sig := { parameters := [.int], returnType := some .char }, accessFlags := 10, code := some k1c3 }
def k1c4 : Code := { maxStack := 6, maxLocals := 6, code := method_5_code, exceptionTable := #[], attributes := #[] }
def k1m4 : Method := { name := "part", desc := "(II)Ljava/lang/String;", sig := { parameters := [.int, .int], returnType := some (.object "java/lang/String") }, accessFlags := 10, code := some k1c4 }
def k1c5 : Code := { maxStack := 3, maxLocals := 5, code := method_6_code, exceptionTable := #[], attributes := #[] }
def k1m5 : Method := { name := "same", desc := "(III)Z", sig := { parameters := [.int, .int, .int], returnType := some .boolean }, accessFlags := 10, code := some k1c5 }
/-- com/example/nto1/nto1/IdentityEqualsPinLaw -/
def k1 : Class := { plain "com/example/nto1/nto1/IdentityEqualsPinLaw" (some 0) with
  accessFlags := 49
  interfaces := #[]
  cf := some (fileOf pool1 10 #[] #[{ accessFlags := 1, nameIndex := 5, descriptorIndex := 6, attributes := #[] }, { accessFlags := 9, nameIndex := 43, descriptorIndex := 25, attributes := #[] }, { accessFlags := 10, nameIndex := 28, descriptorIndex := 29, attributes := #[] }, { accessFlags := 10, nameIndex := 32, descriptorIndex := 33, attributes := #[] }, { accessFlags := 10, nameIndex := 13, descriptorIndex := 14, attributes := #[] }, { accessFlags := 10, nameIndex := 24, descriptorIndex := 25, attributes := #[] }] 49 2 #[] #[])
  fields := #[]
  methods := #[k1m0, k1m1, k1m2, k1m3, k1m4, k1m5]
  instanceTypes := #[]
  staticTypes := #[]
  resolved := Array.replicate 47 none
  statics := none }

def pool2 : Array CpInfo := pool [(1, .methodref 2 3), (0, .class_ 4), (0, .nameAndType 5 6), (0, u "java/lang/Object"), (0, u "<init>"), (0, u "()V"), (0, .string 8), (0, u "scope"), (0, .class_ 10), (0, u "com/example/nto1/nto1/Identity"), (0, .methodref 9 12), (0, .nameAndType 13 14), (0, u "checked"), (0, u "(Ljava/lang/String;Ljava/lang/String;II)Ljava/lang/String;"), (0, .fieldref 9 16), (0, .nameAndType 8 17), (0, u "Ljava/lang/String;"), (0, .methodref 9 19), (0, .nameAndType 20 21), (0, u "checkedOperation"), (0, u "(Ljava/lang/String;)Ljava/lang/String;"), (0, .fieldref 9 23), (0, .nameAndType 24 17), (0, u "operation"), (0, .string 26), (0, u "key"), (0, .fieldref 9 28), (0, .nameAndType 26 17), (0, .string 24), (0, .methodref 31 32), (0, .class_ 33), (0, .nameAndType 34 35), (0, u "java/lang/String"), (0, u "equals"), (0, u "(Ljava/lang/Object;)Z"), (1, .class_ 39), (1, u "java/util/Objects"), (2, .methodref 37 43), (0, .nameAndType 44 45), (0, u "requireNonNull"), (0, u "(Ljava/lang/Object;Ljava/lang/String;)Ljava/lang/Object;"), (0, .methodref 31 47), (0, .nameAndType 48 49), (0, u "length"), (0, u "()I"), (0, .methodref 31 51), (0, .nameAndType 52 53), (0, u "codePointCount"), (0, u "(II)I"), (9, .methodref 31 64), (0, .nameAndType 65 66), (0, u "codePointAt"), (0, u "(I)I"), (12, .class_ 80), (0, u "java/lang/Character"), (0, .integer 55296), (0, .integer 57343), (2, .methodref 79 86), (0, .nameAndType 87 66), (0, u "charCount"), (0, u "MAX_SCOPE_LENGTH"), (0, u "I"), (2, u "MAX_OPERATION_LENGTH"), (0, u "MAX_KEY_LENGTH"), (1, u "(Ljava/lang/String;Ljava/lang/String;Ljava/lang/String;)V")] 25

def k2c0 : Code := { maxStack := 5, maxLocals := 4, code := prog_5_method_1_code, exceptionTable := #[], attributes := #[] }
def k2m0 : Method := { name := "<init>", desc := "(Ljava/lang/String;Ljava/lang/String;Ljava/lang/String;)V", sig := { parameters := [(.object "java/lang/String"), (.object "java/lang/String"), (.object "java/lang/String")], returnType := none }, accessFlags := 1, code := some k2c0 }
def k2c1 : Code := { maxStack := 4, maxLocals := 1, code := prog_5_method_2_code, exceptionTable := #[], attributes := #[] }
def k2m1 : Method := { name := "checkedOperation", desc := "(Ljava/lang/String;)Ljava/lang/String;", sig := { parameters := [(.object "java/lang/String")], returnType := some (.object "java/lang/String") }, accessFlags := 8, code := some k2c1 }
def k2c2 : Code := { maxStack := 2, maxLocals := 3, code := prog_5_method_6_code, exceptionTable := #[], attributes := #[] }
def k2m2 : Method := { name := "equals", desc := "(Ljava/lang/Object;)Z", sig := { parameters := [(.object "java/lang/Object")], returnType := some .boolean }, accessFlags := 1, code := some k2c2 }
def k2c3 : Code := { maxStack := 7, maxLocals := 7, code := prog_5_method_8_code, exceptionTable := #[], attributes := #[] }
def k2m3 : Method := { name := "checked", desc := "(Ljava/lang/String;Ljava/lang/String;II)Ljava/lang/String;", sig := { parameters := [(.object "java/lang/String"), (.object "java/lang/String"), .int, .int], returnType := some (.object "java/lang/String") }, accessFlags := 10, code := some k2c3 }
/-- com/example/nto1/nto1/Identity -/
def k2 : Class := { plain "com/example/nto1/nto1/Identity" (some 0) with
  accessFlags := 49
  interfaces := #[]
  cf := some (fileOf pool2 9 #[] #[{ accessFlags := 1, nameIndex := 5, descriptorIndex := 95, attributes := #[] }, { accessFlags := 8, nameIndex := 20, descriptorIndex := 21, attributes := #[] }, { accessFlags := 1, nameIndex := 34, descriptorIndex := 35, attributes := #[] }, { accessFlags := 10, nameIndex := 13, descriptorIndex := 14, attributes := #[] }] 49 2 #[] #[{ accessFlags := 25, nameIndex := 88, descriptorIndex := 89, attributes := #[] }, { accessFlags := 25, nameIndex := 92, descriptorIndex := 89, attributes := #[] }, { accessFlags := 25, nameIndex := 93, descriptorIndex := 89, attributes := #[] }, { accessFlags := 18, nameIndex := 8, descriptorIndex := 17, attributes := #[] }, { accessFlags := 18, nameIndex := 24, descriptorIndex := 17, attributes := #[] }, { accessFlags := 18, nameIndex := 26, descriptorIndex := 17, attributes := #[] }])
  fields := #[{ name := "MAX_SCOPE_LENGTH", type := .int, accessFlags := 25, slot := 0, constantValue := 0 }, { name := "MAX_OPERATION_LENGTH", type := .int, accessFlags := 25, slot := 1, constantValue := 0 }, { name := "MAX_KEY_LENGTH", type := .int, accessFlags := 25, slot := 2, constantValue := 0 }, { name := "scope", type := (.object "java/lang/String"), accessFlags := 18, slot := 0, constantValue := 0 }, { name := "operation", type := (.object "java/lang/String"), accessFlags := 18, slot := 1, constantValue := 0 }, { name := "key", type := (.object "java/lang/String"), accessFlags := 18, slot := 2, constantValue := 0 }]
  methods := #[k2m0, k2m1, k2m2, k2m3]
  instanceTypes := #[(.object "java/lang/String"), (.object "java/lang/String"), (.object "java/lang/String")]
  staticTypes := #[.int, .int, .int]
  resolved := Array.replicate 121 none
  statics := none }

def pool3 : Array CpInfo := pool [(1, .class_ 2), (0, u "java/io/Serializable"), (0, .class_ 4), (0, u "java/lang/Object")] 2

/-- java/io/Serializable -/
def k3 : Class := { plain "java/io/Serializable" (some 0) with
  accessFlags := 1537
  interfaces := #[]
  cf := some (fileOf pool3 1 #[] #[] 1537 3 #[] #[])
  fields := #[]
  methods := #[]
  instanceTypes := #[]
  staticTypes := #[]
  resolved := Array.replicate 7 none
  statics := none }

def pool4 : Array CpInfo := pool [(1, .class_ 2), (0, u "java/lang/Comparable"), (0, .class_ 4), (0, u "java/lang/Object")] 7

/-- java/lang/Comparable -/
def k4 : Class := { plain "java/lang/Comparable" (some 0) with
  accessFlags := 1537
  interfaces := #[]
  cf := some (fileOf pool4 1 #[] #[] 1537 3 #[] #[])
  fields := #[]
  methods := #[]
  instanceTypes := #[]
  staticTypes := #[]
  resolved := Array.replicate 12 none
  statics := none }

def pool5 : Array CpInfo := pool [(2, .class_ 4), (1, u "java/lang/CharSequence"), (42, .class_ 48), (0, u "java/lang/CharSequence$1CodePointIterator"), (10, .class_ 60), (0, u "java/lang/CharSequence$1CharIterator"), (5, .class_ 67), (0, u "java/lang/Object")] 63

/-- java/lang/CharSequence -/
def k5 : Class := { plain "java/lang/CharSequence" (some 0) with
  accessFlags := 1537
  interfaces := #[]
  cf := some (fileOf pool5 2 #[.nestMembers #[47, 59]] #[] 1537 66 #[] #[])
  fields := #[]
  methods := #[]
  instanceTypes := #[]
  staticTypes := #[]
  resolved := Array.replicate 131 none
  statics := none }

def pool6 : Array CpInfo := pool [(1, .class_ 2), (0, u "java/lang/constant/Constable"), (0, .class_ 4), (0, u "java/lang/Object")] 6

/-- java/lang/constant/Constable -/
def k6 : Class := { plain "java/lang/constant/Constable" (some 0) with
  accessFlags := 1537
  interfaces := #[]
  cf := some (fileOf pool6 1 #[] #[] 1537 3 #[] #[])
  fields := #[]
  methods := #[]
  instanceTypes := #[]
  staticTypes := #[]
  resolved := Array.replicate 11 none
  statics := none }

def pool7 : Array CpInfo := pool [(1, .class_ 2), (0, u "java/lang/constant/ConstantDesc"), (0, .class_ 4), (0, u "java/lang/Object")] 32

/-- java/lang/constant/ConstantDesc -/
def k7 : Class := { plain "java/lang/constant/ConstantDesc" (some 0) with
  accessFlags := 1537
  interfaces := #[]
  cf := some (fileOf pool7 1 #[] #[] 1537 3 #[] #[])
  fields := #[]
  methods := #[]
  instanceTypes := #[]
  staticTypes := #[]
  resolved := Array.replicate 37 none
  statics := none }

def pool8 : Array CpInfo := pool [(1, .methodref 2 3), (0, .class_ 4), (0, .nameAndType 5 6), (0, u "java/lang/Object"), (0, u "<init>"), (0, u "()V"), (2, .fieldref 10 11), (0, .class_ 12), (0, .nameAndType 13 14), (0, u "java/lang/String"), (0, u "value"), (0, u "[B"), (0, .fieldref 10 16), (0, .nameAndType 17 18), (0, u "coder"), (0, u "B"), (2, u "hash"), (0, u "I"), (2, u "hashIsZero"), (0, u "Z"), (0, .methodref 10 28), (0, .nameAndType 5 29), (0, u "([CIILjava/lang/Void;)V"), (7, u "(III)I"), (0, .fieldref 10 39), (0, .nameAndType 40 26), (0, u "COMPACT_STRINGS"), (1, .class_ 44), (1, u "java/lang/StringUTF16"), (0, u "compress"), (1, .methodref 42 48), (0, .nameAndType 49 50), (0, u "coderFromArrayLen"), (0, u "([BI)B"), (28, .class_ 81), (1, u "java/util/Objects"), (25, .class_ 109), (1, u "java/lang/StringLatin1"), (32, u "()Z"), (34, .methodref 42 178), (0, .nameAndType 45 179), (0, u "([CII)[B"), (154, u "()I"), (0, .methodref 10 336), (0, .nameAndType 17 337), (0, u "()B"), (53, u "(II)V"), (100, .methodref 10 493), (0, .nameAndType 494 142), (0, u "isLatin1"), (4, .methodref 10 500), (0, .nameAndType 501 391), (0, u "checkIndex"), (2, u "codePointAt"), (0, .methodref 10 506), (0, .nameAndType 507 334), (0, u "length"), (3, .methodref 79 512), (0, .nameAndType 513 37), (0, u "checkFromToIndex"), (2, u "codePointCount"), (24, .methodref 107 542), (0, .nameAndType 543 544), (0, u "equals"), (0, u "([B[B)Z"), (28, u "(Ljava/lang/Object;)Z"), (1, .class_ 576), (0, u "java/lang/CharSequence"), (22, u "CASE_INSENSITIVE_ORDER"), (0, u "Ljava/util/Comparator;"), (35, u "(II)I"), (128, u "(I)I"), (244, u "([C)V"), (42, .fieldref 1054 1055), (0, .class_ 1056), (0, .nameAndType 1057 1058), (0, u "jdk/internal/util/Preconditions"), (0, u "SIOOBE_FORMATTER"), (0, u "Ljava/util/function/BiFunction;"), (0, .methodref 1054 1060), (0, .nameAndType 501 1061), (0, u "(IILjava/util/function/BiFunction;)I"), (39, u "serialPersistentFields"), (0, u "[Ljava/io/ObjectStreamField;"), (0, .class_ 1104), (0, u "java/lang/String$CaseInsensitiveComparator"), (1, .class_ 1107), (0, u "java/io/Serializable"), (0, .class_ 1109), (0, u "java/lang/Comparable"), (0, .class_ 1111), (0, u "java/lang/constant/Constable"), (0, .class_ 1113), (0, u "java/lang/constant/ConstantDesc"), (2, u "serialVersionUID"), (0, u "J"), (3, u "REPL"), (0, u "C"), (2, u "LATIN1"), (1, u "UTF16")] 323

def k8m0 : Method := { name := "<init>", desc := "()V", sig := { parameters := [], returnType := none }, accessFlags := 1, code := none }
def k8c1 : Code := { maxStack := 5, maxLocals := 2, code := jdk_42_method_3_code, exceptionTable := #[], attributes := #[] }
def k8m1 : Method := { name := "<init>", desc := "([C)V", sig := { parameters := [(.array .char)], returnType := none }, accessFlags := 1, code := some k8c1 }
def k8c2 : Code := { maxStack := 2, maxLocals := 1, code := jdk_42_method_54_code, exceptionTable := #[], attributes := #[] }
def k8m2 : Method := { name := "length", desc := "()I", sig := { parameters := [], returnType := some .int }, accessFlags := 1, code := some k8c2 }
def k8c3 : Code := { maxStack := 3, maxLocals := 3, code := jdk_42_method_57_code, exceptionTable := #[], attributes := #[] }
def k8m3 : Method := { name := "codePointAt", desc := "(I)I", sig := { parameters := [.int], returnType := some .int }, accessFlags := 1, code := some k8c3 }
def k8c4 : Code := { maxStack := 3, maxLocals := 3, code := jdk_42_method_59_code, exceptionTable := #[], attributes := #[] }
def k8m4 : Method := { name := "codePointCount", desc := "(II)I", sig := { parameters := [.int, .int], returnType := some .int }, accessFlags := 1, code := some k8c4 }
def k8c5 : Code := { maxStack := 2, maxLocals := 3, code := jdk_42_method_66_code, exceptionTable := #[], attributes := #[] }
def k8m5 : Method := { name := "equals", desc := "(Ljava/lang/Object;)Z", sig := { parameters := [(.object "java/lang/Object")], returnType := some .boolean }, accessFlags := 1, code := some k8c5 }
def k8c6 : Code := { maxStack := 4, maxLocals := 6, code := jdk_42_method_149_code, exceptionTable := #[], attributes := #[] }
def k8m6 : Method := { name := "<init>", desc := "([CIILjava/lang/Void;)V", sig := { parameters := [(.array .char), .int, .int, (.object "java/lang/Void")], returnType := none }, accessFlags := 2, code := some k8c6 }
def k8c7 : Code := { maxStack := 1, maxLocals := 1, code := jdk_42_method_152_code, exceptionTable := #[], attributes := #[] }
def k8m7 : Method := { name := "coder", desc := "()B", sig := { parameters := [], returnType := some .byte }, accessFlags := 0, code := some k8c7 }
def k8c8 : Code := { maxStack := 1, maxLocals := 1, code := jdk_42_method_154_code, exceptionTable := #[], attributes := #[] }
def k8m8 : Method := { name := "isLatin1", desc := "()Z", sig := { parameters := [], returnType := some .boolean }, accessFlags := 0, code := some k8c8 }
def k8c9 : Code := { maxStack := 3, maxLocals := 2, code := jdk_42_method_155_code, exceptionTable := #[], attributes := #[] }
def k8m9 : Method := { name := "checkIndex", desc := "(II)V", sig := { parameters := [.int, .int], returnType := none }, accessFlags := 8, code := some k8c9 }
/-- java/lang/String -/
def k8 : Class := { plain "java/lang/String" (some 0) with
  accessFlags := 49
  interfaces := #[3, 4, 5, 6, 7]
  cf := some (fileOf pool8 10 #[.nestMembers #[1103]] #[{ accessFlags := 1, nameIndex := 5, descriptorIndex := 6, attributes := #[] }, { accessFlags := 1, nameIndex := 5, descriptorIndex := 1010, attributes := #[] }, { accessFlags := 1, nameIndex := 507, descriptorIndex := 334, attributes := #[] }, { accessFlags := 1, nameIndex := 504, descriptorIndex := 765, attributes := #[] }, { accessFlags := 1, nameIndex := 516, descriptorIndex := 636, attributes := #[] }, { accessFlags := 1, nameIndex := 543, descriptorIndex := 573, attributes := #[] }, { accessFlags := 2, nameIndex := 5, descriptorIndex := 29, attributes := #[] }, { accessFlags := 0, nameIndex := 17, descriptorIndex := 337, attributes := #[] }, { accessFlags := 0, nameIndex := 494, descriptorIndex := 142, attributes := #[] }, { accessFlags := 8, nameIndex := 501, descriptorIndex := 391, attributes := #[] }] 49 2 #[1106, 1108, 575, 1110, 1112] #[{ accessFlags := 18, nameIndex := 13, descriptorIndex := 14, attributes := #[] }, { accessFlags := 18, nameIndex := 17, descriptorIndex := 18, attributes := #[] }, { accessFlags := 2, nameIndex := 21, descriptorIndex := 22, attributes := #[] }, { accessFlags := 2, nameIndex := 25, descriptorIndex := 26, attributes := #[] }, { accessFlags := 26, nameIndex := 1116, descriptorIndex := 1117, attributes := #[] }, { accessFlags := 24, nameIndex := 40, descriptorIndex := 26, attributes := #[] }, { accessFlags := 26, nameIndex := 1101, descriptorIndex := 1102, attributes := #[] }, { accessFlags := 26, nameIndex := 1121, descriptorIndex := 1122, attributes := #[] }, { accessFlags := 25, nameIndex := 599, descriptorIndex := 600, attributes := #[] }, { accessFlags := 24, nameIndex := 1125, descriptorIndex := 18, attributes := #[] }, { accessFlags := 24, nameIndex := 1127, descriptorIndex := 18, attributes := #[] }])
  fields := #[{ name := "value", type := (.array .byte), accessFlags := 18, slot := 0, constantValue := 0 }, { name := "coder", type := .byte, accessFlags := 18, slot := 1, constantValue := 0 }, { name := "hash", type := .int, accessFlags := 2, slot := 2, constantValue := 0 }, { name := "hashIsZero", type := .boolean, accessFlags := 2, slot := 3, constantValue := 0 }, { name := "serialVersionUID", type := .long, accessFlags := 26, slot := 0, constantValue := 0 }, { name := "COMPACT_STRINGS", type := .boolean, accessFlags := 24, slot := 1, constantValue := 0 }, { name := "serialPersistentFields", type := (.array (.object "java/io/ObjectStreamField")), accessFlags := 26, slot := 2, constantValue := 0 }, { name := "REPL", type := .char, accessFlags := 26, slot := 3, constantValue := 0 }, { name := "CASE_INSENSITIVE_ORDER", type := (.object "java/util/Comparator"), accessFlags := 25, slot := 4, constantValue := 0 }, { name := "LATIN1", type := .byte, accessFlags := 24, slot := 5, constantValue := 0 }, { name := "UTF16", type := .byte, accessFlags := 24, slot := 6, constantValue := 0 }]
  methods := #[k8m0, k8m1, k8m2, k8m3, k8m4, k8m5, k8m6, k8m7, k8m8, k8m9]
  instanceTypes := #[(.array .byte), .byte, .int, .boolean]
  staticTypes := #[.long, .boolean, (.array (.object "java/io/ObjectStreamField")), .char, (.object "java/util/Comparator"), .byte, .byte]
  resolved := Array.replicate 1451 none
  statics := some 0 }

def pool9 : Array CpInfo := pool [(6, .class_ 8), (1, u "java/lang/Object"), (0, u "<init>"), (0, u "()V"), (1, .class_ 14), (1, u "java/lang/StringUTF16"), (31, u "$assertionsDisabled"), (0, u "Z"), (13, u "HI_BYTE_SHIFT"), (0, u "I"), (2, u "LO_BYTE_SHIFT"), (49, .methodref 12 116), (0, .nameAndType 117 118), (0, u "compress"), (0, u "([CI[BII)I"), (3, u "([CII)[B"), (138, u "coderFromArrayLen"), (0, u "([BI)B"), (106, .class_ 371), (1, u "java/lang/StringUTF16$LinesSpliterator"), (58, u "MAX_LENGTH"), (196, .class_ 628), (0, u "java/lang/StringUTF16$CodePointsSpliterator"), (0, .class_ 630), (0, u "java/lang/StringUTF16$CharsSpliterator")] 4

def k9m0 : Method := { name := "<init>", desc := "()V", sig := { parameters := [], returnType := none }, accessFlags := 0, code := none }
def k9c1 : Code := { maxStack := 2, maxLocals := 2, code := jdk_52_method_15_code, exceptionTable := #[], attributes := #[] }
def k9m1 : Method := { name := "coderFromArrayLen", desc := "([BI)B", sig := { parameters := [(.array .byte), .int], returnType := some .byte }, accessFlags := 8, code := some k9c1 }
def k9c2 : Code := { maxStack := 5, maxLocals := 6, code := jdk_52_method_16_code, exceptionTable := #[], attributes := #[] }
def k9m2 : Method := { name := "compress", desc := "([CII)[B", sig := { parameters := [(.array .char), .int, .int], returnType := some (.array .byte) }, accessFlags := 9, code := some k9c2 }
def k9c3 : Code := { maxStack := 3, maxLocals := 7, code := jdk_52_method_21_code, exceptionTable := #[], attributes := #[] }
def k9m3 : Method := { name := "compress", desc := "([CI[BII)I", sig := { parameters := [(.array .char), .int, (.array .byte), .int, .int], returnType := some .int }, accessFlags := 9, code := some k9c3 }
/-- java/lang/StringUTF16 -/
def k9 : Class := { plain "java/lang/StringUTF16" (some 0) with
  accessFlags := 48
  interfaces := #[]
  cf := some (fileOf pool9 12 #[.nestMembers #[627, 629, 369]] #[{ accessFlags := 0, nameIndex := 9, descriptorIndex := 10, attributes := #[] }, { accessFlags := 8, nameIndex := 261, descriptorIndex := 262, attributes := #[] }, { accessFlags := 9, nameIndex := 117, descriptorIndex := 122, attributes := #[] }, { accessFlags := 9, nameIndex := 117, descriptorIndex := 118, attributes := #[] }] 48 6 #[] #[{ accessFlags := 26, nameIndex := 61, descriptorIndex := 62, attributes := #[] }, { accessFlags := 26, nameIndex := 65, descriptorIndex := 62, attributes := #[] }, { accessFlags := 24, nameIndex := 430, descriptorIndex := 62, attributes := #[] }, { accessFlags := 4120, nameIndex := 46, descriptorIndex := 47, attributes := #[] }])
  fields := #[{ name := "HI_BYTE_SHIFT", type := .int, accessFlags := 26, slot := 0, constantValue := 0 }, { name := "LO_BYTE_SHIFT", type := .int, accessFlags := 26, slot := 1, constantValue := 0 }, { name := "MAX_LENGTH", type := .int, accessFlags := 24, slot := 2, constantValue := 0 }, { name := "$assertionsDisabled", type := .boolean, accessFlags := 4120, slot := 3, constantValue := 0 }]
  methods := #[k9m0, k9m1, k9m2, k9m3]
  instanceTypes := #[]
  staticTypes := #[.int, .int, .int, .boolean]
  resolved := Array.replicate 635 none
  statics := none }

def pool10 : Array CpInfo := pool [(2, .class_ 4), (1, u "java/lang/Object"), (0, u "<init>"), (0, u "()V"), (35, .class_ 44), (1, u "java/util/Objects"), (0, u "requireNonNull"), (48, u "(Ljava/lang/Object;Ljava/lang/String;)Ljava/lang/Object;"), (11, .class_ 108), (1, u "jdk/internal/util/Preconditions"), (2, .methodref 106 112), (0, .nameAndType 113 114), (0, u "checkFromToIndex"), (0, u "(IIILjava/util/function/BiFunction;)I"), (60, u "(III)I")] 8

def k10m0 : Method := { name := "<init>", desc := "()V", sig := { parameters := [], returnType := none }, accessFlags := 2, code := none }
def k10c1 : Code := { maxStack := 3, maxLocals := 2, code := jdk_31_method_11_code, exceptionTable := #[], attributes := #[] }
def k10m1 : Method := { name := "requireNonNull", desc := "(Ljava/lang/Object;Ljava/lang/String;)Ljava/lang/Object;", sig := { parameters := [(.object "java/lang/Object"), (.object "java/lang/String")], returnType := some (.object "java/lang/Object") }, accessFlags := 9, code := some k10c1 }
def k10c2 : Code := { maxStack := 4, maxLocals := 3, code := jdk_31_method_18_code, exceptionTable := #[], attributes := #[] }
def k10m2 : Method := { name := "checkFromToIndex", desc := "(III)I", sig := { parameters := [.int, .int, .int], returnType := some .int }, accessFlags := 9, code := some k10c2 }
/-- java/util/Objects -/
def k10 : Class := { plain "java/util/Objects" (some 0) with
  accessFlags := 49
  interfaces := #[]
  cf := some (fileOf pool10 42 #[] #[{ accessFlags := 2, nameIndex := 5, descriptorIndex := 6, attributes := #[] }, { accessFlags := 9, nameIndex := 45, descriptorIndex := 94, attributes := #[] }, { accessFlags := 9, nameIndex := 113, descriptorIndex := 175, attributes := #[] }] 49 2 #[] #[])
  fields := #[]
  methods := #[k10m0, k10m1, k10m2]
  instanceTypes := #[]
  staticTypes := #[]
  resolved := Array.replicate 184 none
  statics := none }

def pool11 : Array CpInfo := pool [(2, .class_ 4), (1, u "java/lang/Object"), (0, u "<init>"), (0, u "()V"), (17, .class_ 26), (1, u "jdk/internal/util/Preconditions"), (6, u "checkIndex"), (13, u "checkFromToIndex"), (7, .class_ 56), (0, u "jdk/internal/util/Preconditions$4"), (57, .class_ 115), (0, u "jdk/internal/util/Preconditions$1"), (7, u "SIOOBE_FORMATTER"), (0, u "Ljava/util/function/BiFunction;"), (0, .class_ 126), (0, u "jdk/internal/util/Preconditions$2"), (3, u "AIOOBE_FORMATTER"), (0, .class_ 132), (0, u "jdk/internal/util/Preconditions$3"), (3, u "IOOBE_FORMATTER"), (41, u "(IILjava/util/function/BiFunction;)I"), (4, u "(IIILjava/util/function/BiFunction;)I")] 10

def k11m0 : Method := { name := "<init>", desc := "()V", sig := { parameters := [], returnType := none }, accessFlags := 1, code := none }
def k11c1 : Code := { maxStack := 3, maxLocals := 3, code := jdk_41_method_11_code, exceptionTable := #[], attributes := #[] }
def k11m1 : Method := { name := "checkIndex", desc := "(IILjava/util/function/BiFunction;)I", sig := { parameters := [.int, .int, (.object "java/util/function/BiFunction")], returnType := some .int }, accessFlags := 9, code := some k11c1 }
def k11c2 : Code := { maxStack := 4, maxLocals := 4, code := jdk_41_method_12_code, exceptionTable := #[], attributes := #[] }
def k11m2 : Method := { name := "checkFromToIndex", desc := "(IIILjava/util/function/BiFunction;)I", sig := { parameters := [.int, .int, .int, (.object "java/util/function/BiFunction")], returnType := some .int }, accessFlags := 9, code := some k11c2 }
/-- jdk/internal/util/Preconditions -/
def k11 : Class := { plain "jdk/internal/util/Preconditions" (some 0) with
  accessFlags := 33
  interfaces := #[]
  cf := some (fileOf pool11 24 #[.nestMembers #[55, 131, 125, 114]] #[{ accessFlags := 1, nameIndex := 5, descriptorIndex := 6, attributes := #[] }, { accessFlags := 9, nameIndex := 33, descriptorIndex := 178, attributes := #[] }, { accessFlags := 9, nameIndex := 47, descriptorIndex := 183, attributes := #[] }] 33 2 #[] #[{ accessFlags := 25, nameIndex := 123, descriptorIndex := 124, attributes := #[] }, { accessFlags := 25, nameIndex := 130, descriptorIndex := 124, attributes := #[] }, { accessFlags := 25, nameIndex := 136, descriptorIndex := 124, attributes := #[] }])
  fields := #[{ name := "SIOOBE_FORMATTER", type := (.object "java/util/function/BiFunction"), accessFlags := 25, slot := 0, constantValue := 0 }, { name := "AIOOBE_FORMATTER", type := (.object "java/util/function/BiFunction"), accessFlags := 25, slot := 1, constantValue := 0 }, { name := "IOOBE_FORMATTER", type := (.object "java/util/function/BiFunction"), accessFlags := 25, slot := 2, constantValue := 0 }]
  methods := #[k11m0, k11m1, k11m2]
  instanceTypes := #[]
  staticTypes := #[(.object "java/util/function/BiFunction"), (.object "java/util/function/BiFunction"), (.object "java/util/function/BiFunction")]
  resolved := Array.replicate 194 none
  statics := some 1 }

def pool12 : Array CpInfo := pool [(1, .class_ 2), (0, u "java/lang/Character"), (18, u "value"), (0, u "C"), (19, .class_ 44), (1, u "java/lang/Object"), (3, .class_ 50), (1, u "java/lang/Character$CharacterCache"), (22, .integer 65536), (100, u "(I)I"), (109, u "$assertionsDisabled"), (0, u "Z"), (21, .class_ 309), (1, u "java/lang/Character$UnicodeBlock"), (73, u "TYPE"), (0, u "Ljava/lang/Class;"), (0, .class_ 386), (0, u "java/io/Serializable"), (0, .class_ 388), (0, u "java/lang/Comparable"), (0, .class_ 390), (0, u "java/lang/constant/Constable"), (0, u "MIN_RADIX"), (0, u "I"), (2, u "MAX_RADIX"), (1, u "MIN_VALUE"), (1, u "MAX_VALUE"), (3, u "UNASSIGNED"), (0, u "B"), (0, u "UPPERCASE_LETTER"), (1, u "LOWERCASE_LETTER"), (0, u "TITLECASE_LETTER"), (1, u "MODIFIER_LETTER"), (1, u "OTHER_LETTER"), (1, u "NON_SPACING_MARK"), (1, u "ENCLOSING_MARK"), (1, u "COMBINING_SPACING_MARK"), (1, u "DECIMAL_DIGIT_NUMBER"), (1, u "LETTER_NUMBER"), (1, u "OTHER_NUMBER"), (1, u "SPACE_SEPARATOR"), (1, u "LINE_SEPARATOR"), (1, u "PARAGRAPH_SEPARATOR"), (1, u "CONTROL"), (1, u "FORMAT"), (1, u "PRIVATE_USE"), (1, u "SURROGATE"), (1, u "DASH_PUNCTUATION"), (1, u "START_PUNCTUATION"), (1, u "END_PUNCTUATION"), (1, u "CONNECTOR_PUNCTUATION"), (1, u "OTHER_PUNCTUATION"), (1, u "MATH_SYMBOL"), (1, u "CURRENCY_SYMBOL"), (1, u "MODIFIER_SYMBOL"), (1, u "OTHER_SYMBOL"), (1, u "INITIAL_QUOTE_PUNCTUATION"), (1, u "FINAL_QUOTE_PUNCTUATION"), (1, u "ERROR"), (1, u "DIRECTIONALITY_UNDEFINED"), (0, u "DIRECTIONALITY_LEFT_TO_RIGHT"), (0, u "DIRECTIONALITY_RIGHT_TO_LEFT"), (0, u "DIRECTIONALITY_RIGHT_TO_LEFT_ARABIC"), (0, u "DIRECTIONALITY_EUROPEAN_NUMBER"), (0, u "DIRECTIONALITY_EUROPEAN_NUMBER_SEPARATOR"), (0, u "DIRECTIONALITY_EUROPEAN_NUMBER_TERMINATOR"), (0, u "DIRECTIONALITY_ARABIC_NUMBER"), (0, u "DIRECTIONALITY_COMMON_NUMBER_SEPARATOR"), (0, u "DIRECTIONALITY_NONSPACING_MARK"), (0, u "DIRECTIONALITY_BOUNDARY_NEUTRAL"), (0, u "DIRECTIONALITY_PARAGRAPH_SEPARATOR"), (0, u "DIRECTIONALITY_SEGMENT_SEPARATOR"), (0, u "DIRECTIONALITY_WHITESPACE"), (0, u "DIRECTIONALITY_OTHER_NEUTRALS"), (0, u "DIRECTIONALITY_LEFT_TO_RIGHT_EMBEDDING"), (0, u "DIRECTIONALITY_LEFT_TO_RIGHT_OVERRIDE"), (0, u "DIRECTIONALITY_RIGHT_TO_LEFT_EMBEDDING"), (0, u "DIRECTIONALITY_RIGHT_TO_LEFT_OVERRIDE"), (1, u "DIRECTIONALITY_POP_DIRECTIONAL_FORMAT"), (0, u "DIRECTIONALITY_LEFT_TO_RIGHT_ISOLATE"), (0, u "DIRECTIONALITY_RIGHT_TO_LEFT_ISOLATE"), (0, u "DIRECTIONALITY_FIRST_STRONG_ISOLATE"), (0, u "DIRECTIONALITY_POP_DIRECTIONAL_ISOLATE"), (0, u "MIN_HIGH_SURROGATE"), (0, u "MAX_HIGH_SURROGATE"), (1, u "MIN_LOW_SURROGATE"), (0, u "MAX_LOW_SURROGATE"), (1, u "MIN_SURROGATE"), (0, u "MAX_SURROGATE"), (0, u "MIN_SUPPLEMENTARY_CODE_POINT"), (0, u "MIN_CODE_POINT"), (0, u "MAX_CODE_POINT"), (1, u "serialVersionUID"), (0, u "J"), (2, u "SIZE"), (0, u "BYTES"), (29, u "charCount"), (58, .class_ 596), (0, u "java/lang/Character$UnicodeScript"), (0, .class_ 598), (0, u "java/lang/Character$Subset")] 5

def k12c0 : Code := { maxStack := 2, maxLocals := 1, code := jdk_89_method_18_code, exceptionTable := #[], attributes := #[] }
def k12m0 : Method := { name := "charCount", desc := "(I)I", sig := { parameters := [.int], returnType := some .int }, accessFlags := 9, code := some k12c0 }
/-- java/lang/Character -/
def k12 : Class := { plain "java/lang/Character" (some 0) with
  accessFlags := 49
  interfaces := #[3, 4, 6]
  cf := some (fileOf pool12 1 #[.nestMembers #[48, 595, 307, 597]] #[{ accessFlags := 9, nameIndex := 536, descriptorIndex := 174, attributes := #[] }] 49 42 #[385, 387, 389] #[{ accessFlags := 25, nameIndex := 391, descriptorIndex := 392, attributes := #[] }, { accessFlags := 25, nameIndex := 395, descriptorIndex := 392, attributes := #[] }, { accessFlags := 25, nameIndex := 397, descriptorIndex := 22, attributes := #[] }, { accessFlags := 25, nameIndex := 399, descriptorIndex := 22, attributes := #[] }, { accessFlags := 25, nameIndex := 383, descriptorIndex := 384, attributes := #[] }, { accessFlags := 25, nameIndex := 403, descriptorIndex := 404, attributes := #[] }, { accessFlags := 25, nameIndex := 405, descriptorIndex := 404, attributes := #[] }, { accessFlags := 25, nameIndex := 407, descriptorIndex := 404, attributes := #[] }, { accessFlags := 25, nameIndex := 408, descriptorIndex := 404, attributes := #[] }, { accessFlags := 25, nameIndex := 410, descriptorIndex := 404, attributes := #[] }, { accessFlags := 25, nameIndex := 412, descriptorIndex := 404, attributes := #[] }, { accessFlags := 25, nameIndex := 414, descriptorIndex := 404, attributes := #[] }, { accessFlags := 25, nameIndex := 416, descriptorIndex := 404, attributes := #[] }, { accessFlags := 25, nameIndex := 418, descriptorIndex := 404, attributes := #[] }, { accessFlags := 25, nameIndex := 420, descriptorIndex := 404, attributes := #[] }, { accessFlags := 25, nameIndex := 422, descriptorIndex := 404, attributes := #[] }, { accessFlags := 25, nameIndex := 424, descriptorIndex := 404, attributes := #[] }, { accessFlags := 25, nameIndex := 426, descriptorIndex := 404, attributes := #[] }, { accessFlags := 25, nameIndex := 428, descriptorIndex := 404, attributes := #[] }, { accessFlags := 25, nameIndex := 430, descriptorIndex := 404, attributes := #[] }, { accessFlags := 25, nameIndex := 432, descriptorIndex := 404, attributes := #[] }, { accessFlags := 25, nameIndex := 434, descriptorIndex := 404, attributes := #[] }, { accessFlags := 25, nameIndex := 436, descriptorIndex := 404, attributes := #[] }, { accessFlags := 25, nameIndex := 438, descriptorIndex := 404, attributes := #[] }, { accessFlags := 25, nameIndex := 440, descriptorIndex := 404, attributes := #[] }, { accessFlags := 25, nameIndex := 442, descriptorIndex := 404, attributes := #[] }, { accessFlags := 25, nameIndex := 444, descriptorIndex := 404, attributes := #[] }, { accessFlags := 25, nameIndex := 446, descriptorIndex := 404, attributes := #[] }, { accessFlags := 25, nameIndex := 448, descriptorIndex := 404, attributes := #[] }, { accessFlags := 25, nameIndex := 450, descriptorIndex := 404, attributes := #[] }, { accessFlags := 25, nameIndex := 452, descriptorIndex := 404, attributes := #[] }, { accessFlags := 25, nameIndex := 454, descriptorIndex := 404, attributes := #[] }, { accessFlags := 25, nameIndex := 456, descriptorIndex := 404, attributes := #[] }, { accessFlags := 25, nameIndex := 458, descriptorIndex := 404, attributes := #[] }, { accessFlags := 25, nameIndex := 460, descriptorIndex := 404, attributes := #[] }, { accessFlags := 24, nameIndex := 462, descriptorIndex := 392, attributes := #[] }, { accessFlags := 25, nameIndex := 464, descriptorIndex := 404, attributes := #[] }, { accessFlags := 25, nameIndex := 465, descriptorIndex := 404, attributes := #[] }, { accessFlags := 25, nameIndex := 466, descriptorIndex := 404, attributes := #[] }, { accessFlags := 25, nameIndex := 467, descriptorIndex := 404, attributes := #[] }, { accessFlags := 25, nameIndex := 468, descriptorIndex := 404, attributes := #[] }, { accessFlags := 25, nameIndex := 469, descriptorIndex := 404, attributes := #[] }, { accessFlags := 25, nameIndex := 470, descriptorIndex := 404, attributes := #[] }, { accessFlags := 25, nameIndex := 471, descriptorIndex := 404, attributes := #[] }, { accessFlags := 25, nameIndex := 472, descriptorIndex := 404, attributes := #[] }, { accessFlags := 25, nameIndex := 473, descriptorIndex := 404, attributes := #[] }, { accessFlags := 25, nameIndex := 474, descriptorIndex := 404, attributes := #[] }, { accessFlags := 25, nameIndex := 475, descriptorIndex := 404, attributes := #[] }, { accessFlags := 25, nameIndex := 476, descriptorIndex := 404, attributes := #[] }, { accessFlags := 25, nameIndex := 477, descriptorIndex := 404, attributes := #[] }, { accessFlags := 25, nameIndex := 478, descriptorIndex := 404, attributes := #[] }, { accessFlags := 25, nameIndex := 479, descriptorIndex := 404, attributes := #[] }, { accessFlags := 25, nameIndex := 480, descriptorIndex := 404, attributes := #[] }, { accessFlags := 25, nameIndex := 481, descriptorIndex := 404, attributes := #[] }, { accessFlags := 25, nameIndex := 482, descriptorIndex := 404, attributes := #[] }, { accessFlags := 25, nameIndex := 484, descriptorIndex := 404, attributes := #[] }, { accessFlags := 25, nameIndex := 485, descriptorIndex := 404, attributes := #[] }, { accessFlags := 25, nameIndex := 486, descriptorIndex := 404, attributes := #[] }, { accessFlags := 25, nameIndex := 487, descriptorIndex := 404, attributes := #[] }, { accessFlags := 25, nameIndex := 488, descriptorIndex := 404, attributes := #[] }, { accessFlags := 25, nameIndex := 489, descriptorIndex := 22, attributes := #[] }, { accessFlags := 25, nameIndex := 490, descriptorIndex := 22, attributes := #[] }, { accessFlags := 25, nameIndex := 492, descriptorIndex := 22, attributes := #[] }, { accessFlags := 25, nameIndex := 493, descriptorIndex := 22, attributes := #[] }, { accessFlags := 25, nameIndex := 495, descriptorIndex := 22, attributes := #[] }, { accessFlags := 25, nameIndex := 496, descriptorIndex := 22, attributes := #[] }, { accessFlags := 25, nameIndex := 497, descriptorIndex := 392, attributes := #[] }, { accessFlags := 25, nameIndex := 498, descriptorIndex := 392, attributes := #[] }, { accessFlags := 25, nameIndex := 499, descriptorIndex := 392, attributes := #[] }, { accessFlags := 18, nameIndex := 21, descriptorIndex := 22, attributes := #[] }, { accessFlags := 26, nameIndex := 501, descriptorIndex := 502, attributes := #[] }, { accessFlags := 25, nameIndex := 505, descriptorIndex := 392, attributes := #[] }, { accessFlags := 25, nameIndex := 506, descriptorIndex := 392, attributes := #[] }, { accessFlags := 4120, nameIndex := 284, descriptorIndex := 285, attributes := #[] }])
  fields := #[{ name := "MIN_RADIX", type := .int, accessFlags := 25, slot := 0, constantValue := 0 }, { name := "MAX_RADIX", type := .int, accessFlags := 25, slot := 1, constantValue := 0 }, { name := "MIN_VALUE", type := .char, accessFlags := 25, slot := 2, constantValue := 0 }, { name := "MAX_VALUE", type := .char, accessFlags := 25, slot := 3, constantValue := 0 }, { name := "TYPE", type := (.object "java/lang/Class"), accessFlags := 25, slot := 4, constantValue := 0 }, { name := "UNASSIGNED", type := .byte, accessFlags := 25, slot := 5, constantValue := 0 }, { name := "UPPERCASE_LETTER", type := .byte, accessFlags := 25, slot := 6, constantValue := 0 }, { name := "LOWERCASE_LETTER", type := .byte, accessFlags := 25, slot := 7, constantValue := 0 }, { name := "TITLECASE_LETTER", type := .byte, accessFlags := 25, slot := 8, constantValue := 0 }, { name := "MODIFIER_LETTER", type := .byte, accessFlags := 25, slot := 9, constantValue := 0 }, { name := "OTHER_LETTER", type := .byte, accessFlags := 25, slot := 10, constantValue := 0 }, { name := "NON_SPACING_MARK", type := .byte, accessFlags := 25, slot := 11, constantValue := 0 }, { name := "ENCLOSING_MARK", type := .byte, accessFlags := 25, slot := 12, constantValue := 0 }, { name := "COMBINING_SPACING_MARK", type := .byte, accessFlags := 25, slot := 13, constantValue := 0 }, { name := "DECIMAL_DIGIT_NUMBER", type := .byte, accessFlags := 25, slot := 14, constantValue := 0 }, { name := "LETTER_NUMBER", type := .byte, accessFlags := 25, slot := 15, constantValue := 0 }, { name := "OTHER_NUMBER", type := .byte, accessFlags := 25, slot := 16, constantValue := 0 }, { name := "SPACE_SEPARATOR", type := .byte, accessFlags := 25, slot := 17, constantValue := 0 }, { name := "LINE_SEPARATOR", type := .byte, accessFlags := 25, slot := 18, constantValue := 0 }, { name := "PARAGRAPH_SEPARATOR", type := .byte, accessFlags := 25, slot := 19, constantValue := 0 }, { name := "CONTROL", type := .byte, accessFlags := 25, slot := 20, constantValue := 0 }, { name := "FORMAT", type := .byte, accessFlags := 25, slot := 21, constantValue := 0 }, { name := "PRIVATE_USE", type := .byte, accessFlags := 25, slot := 22, constantValue := 0 }, { name := "SURROGATE", type := .byte, accessFlags := 25, slot := 23, constantValue := 0 }, { name := "DASH_PUNCTUATION", type := .byte, accessFlags := 25, slot := 24, constantValue := 0 }, { name := "START_PUNCTUATION", type := .byte, accessFlags := 25, slot := 25, constantValue := 0 }, { name := "END_PUNCTUATION", type := .byte, accessFlags := 25, slot := 26, constantValue := 0 }, { name := "CONNECTOR_PUNCTUATION", type := .byte, accessFlags := 25, slot := 27, constantValue := 0 }, { name := "OTHER_PUNCTUATION", type := .byte, accessFlags := 25, slot := 28, constantValue := 0 }, { name := "MATH_SYMBOL", type := .byte, accessFlags := 25, slot := 29, constantValue := 0 }, { name := "CURRENCY_SYMBOL", type := .byte, accessFlags := 25, slot := 30, constantValue := 0 }, { name := "MODIFIER_SYMBOL", type := .byte, accessFlags := 25, slot := 31, constantValue := 0 }, { name := "OTHER_SYMBOL", type := .byte, accessFlags := 25, slot := 32, constantValue := 0 }, { name := "INITIAL_QUOTE_PUNCTUATION", type := .byte, accessFlags := 25, slot := 33, constantValue := 0 }, { name := "FINAL_QUOTE_PUNCTUATION", type := .byte, accessFlags := 25, slot := 34, constantValue := 0 }, { name := "ERROR", type := .int, accessFlags := 24, slot := 35, constantValue := 0 }, { name := "DIRECTIONALITY_UNDEFINED", type := .byte, accessFlags := 25, slot := 36, constantValue := 0 }, { name := "DIRECTIONALITY_LEFT_TO_RIGHT", type := .byte, accessFlags := 25, slot := 37, constantValue := 0 }, { name := "DIRECTIONALITY_RIGHT_TO_LEFT", type := .byte, accessFlags := 25, slot := 38, constantValue := 0 }, { name := "DIRECTIONALITY_RIGHT_TO_LEFT_ARABIC", type := .byte, accessFlags := 25, slot := 39, constantValue := 0 }, { name := "DIRECTIONALITY_EUROPEAN_NUMBER", type := .byte, accessFlags := 25, slot := 40, constantValue := 0 }, { name := "DIRECTIONALITY_EUROPEAN_NUMBER_SEPARATOR", type := .byte, accessFlags := 25, slot := 41, constantValue := 0 }, { name := "DIRECTIONALITY_EUROPEAN_NUMBER_TERMINATOR", type := .byte, accessFlags := 25, slot := 42, constantValue := 0 }, { name := "DIRECTIONALITY_ARABIC_NUMBER", type := .byte, accessFlags := 25, slot := 43, constantValue := 0 }, { name := "DIRECTIONALITY_COMMON_NUMBER_SEPARATOR", type := .byte, accessFlags := 25, slot := 44, constantValue := 0 }, { name := "DIRECTIONALITY_NONSPACING_MARK", type := .byte, accessFlags := 25, slot := 45, constantValue := 0 }, { name := "DIRECTIONALITY_BOUNDARY_NEUTRAL", type := .byte, accessFlags := 25, slot := 46, constantValue := 0 }, { name := "DIRECTIONALITY_PARAGRAPH_SEPARATOR", type := .byte, accessFlags := 25, slot := 47, constantValue := 0 }, { name := "DIRECTIONALITY_SEGMENT_SEPARATOR", type := .byte, accessFlags := 25, slot := 48, constantValue := 0 }, { name := "DIRECTIONALITY_WHITESPACE", type := .byte, accessFlags := 25, slot := 49, constantValue := 0 }, { name := "DIRECTIONALITY_OTHER_NEUTRALS", type := .byte, accessFlags := 25, slot := 50, constantValue := 0 }, { name := "DIRECTIONALITY_LEFT_TO_RIGHT_EMBEDDING", type := .byte, accessFlags := 25, slot := 51, constantValue := 0 }, { name := "DIRECTIONALITY_LEFT_TO_RIGHT_OVERRIDE", type := .byte, accessFlags := 25, slot := 52, constantValue := 0 }, { name := "DIRECTIONALITY_RIGHT_TO_LEFT_EMBEDDING", type := .byte, accessFlags := 25, slot := 53, constantValue := 0 }, { name := "DIRECTIONALITY_RIGHT_TO_LEFT_OVERRIDE", type := .byte, accessFlags := 25, slot := 54, constantValue := 0 }, { name := "DIRECTIONALITY_POP_DIRECTIONAL_FORMAT", type := .byte, accessFlags := 25, slot := 55, constantValue := 0 }, { name := "DIRECTIONALITY_LEFT_TO_RIGHT_ISOLATE", type := .byte, accessFlags := 25, slot := 56, constantValue := 0 }, { name := "DIRECTIONALITY_RIGHT_TO_LEFT_ISOLATE", type := .byte, accessFlags := 25, slot := 57, constantValue := 0 }, { name := "DIRECTIONALITY_FIRST_STRONG_ISOLATE", type := .byte, accessFlags := 25, slot := 58, constantValue := 0 }, { name := "DIRECTIONALITY_POP_DIRECTIONAL_ISOLATE", type := .byte, accessFlags := 25, slot := 59, constantValue := 0 }, { name := "MIN_HIGH_SURROGATE", type := .char, accessFlags := 25, slot := 60, constantValue := 0 }, { name := "MAX_HIGH_SURROGATE", type := .char, accessFlags := 25, slot := 61, constantValue := 0 }, { name := "MIN_LOW_SURROGATE", type := .char, accessFlags := 25, slot := 62, constantValue := 0 }, { name := "MAX_LOW_SURROGATE", type := .char, accessFlags := 25, slot := 63, constantValue := 0 }, { name := "MIN_SURROGATE", type := .char, accessFlags := 25, slot := 64, constantValue := 0 }, { name := "MAX_SURROGATE", type := .char, accessFlags := 25, slot := 65, constantValue := 0 }, { name := "MIN_SUPPLEMENTARY_CODE_POINT", type := .int, accessFlags := 25, slot := 66, constantValue := 0 }, { name := "MIN_CODE_POINT", type := .int, accessFlags := 25, slot := 67, constantValue := 0 }, { name := "MAX_CODE_POINT", type := .int, accessFlags := 25, slot := 68, constantValue := 0 }, { name := "value", type := .char, accessFlags := 18, slot := 0, constantValue := 0 }, { name := "serialVersionUID", type := .long, accessFlags := 26, slot := 69, constantValue := 0 }, { name := "SIZE", type := .int, accessFlags := 25, slot := 70, constantValue := 0 }, { name := "BYTES", type := .int, accessFlags := 25, slot := 71, constantValue := 0 }, { name := "$assertionsDisabled", type := .boolean, accessFlags := 4120, slot := 72, constantValue := 0 }]
  methods := #[k12m0]
  instanceTypes := #[.char]
  staticTypes := #[.int, .int, .char, .char, (.object "java/lang/Class"), .byte, .byte, .byte, .byte, .byte, .byte, .byte, .byte, .byte, .byte, .byte, .byte, .byte, .byte, .byte, .byte, .byte, .byte, .byte, .byte, .byte, .byte, .byte, .byte, .byte, .byte, .byte, .byte, .byte, .byte, .int, .byte, .byte, .byte, .byte, .byte, .byte, .byte, .byte, .byte, .byte, .byte, .byte, .byte, .byte, .byte, .byte, .byte, .byte, .byte, .byte, .byte, .byte, .byte, .byte, .char, .char, .char, .char, .char, .char, .int, .int, .int, .long, .int, .int, .boolean]
  resolved := Array.replicate 604 none
  statics := none }

def pool13 : Array CpInfo := pool [(4, .class_ 6), (1, u "java/lang/Object"), (0, u "<init>"), (0, u "()V"), (5, .class_ 16), (1, u "java/lang/StringLatin1"), (104, u "$assertionsDisabled"), (0, u "Z"), (98, .class_ 223), (1, u "java/lang/StringLatin1$LinesSpliterator"), (57, u "equals"), (0, u "([B[B)Z"), (107, .class_ 391), (0, u "java/lang/StringLatin1$CharsSpliterator")] 3

def k13m0 : Method := { name := "<init>", desc := "()V", sig := { parameters := [], returnType := none }, accessFlags := 0, code := none }
def k13c1 : Code := { maxStack := 3, maxLocals := 3, code := jdk_43_method_13_code, exceptionTable := #[], attributes := #[] }
def k13m1 : Method := { name := "equals", desc := "([B[B)Z", sig := { parameters := [(.array .byte), (.array .byte)], returnType := some .boolean }, accessFlags := 9, code := some k13c1 }
/-- java/lang/StringLatin1 -/
def k13 : Class := { plain "java/lang/StringLatin1" (some 0) with
  accessFlags := 48
  interfaces := #[]
  cf := some (fileOf pool13 14 #[.nestMembers #[390, 221]] #[{ accessFlags := 0, nameIndex := 7, descriptorIndex := 8, attributes := #[] }, { accessFlags := 9, nameIndex := 281, descriptorIndex := 282, attributes := #[] }] 48 4 #[] #[{ accessFlags := 4120, nameIndex := 121, descriptorIndex := 122, attributes := #[] }])
  fields := #[{ name := "$assertionsDisabled", type := .boolean, accessFlags := 4120, slot := 0, constantValue := 0 }]
  methods := #[k13m0, k13m1]
  instanceTypes := #[]
  staticTypes := #[.boolean]
  resolved := Array.replicate 395 none
  statics := none }

def pool14 : Array CpInfo := pool [(9, u "<init>"), (6, .class_ 18), (1, u "java/lang/Object"), (0, u "()V"), (1, .class_ 23), (1, u "jdk/internal/util/ArraysSupport"), (0, u "LOG2_ARRAY_LONG_INDEX_SCALE"), (0, u "I"), (2, u "U"), (0, u "Ljdk/internal/misc/Unsafe;"), (8, u "BIG_ENDIAN"), (0, u "Z"), (8, u "LOG2_BYTE_BIT_SIZE"), (4, u "LOG2_ARRAY_INT_INDEX_SCALE"), (54, u "JLA"), (0, u "Ljdk/internal/access/JavaLangAccess;"), (11, u "LOG2_ARRAY_BOOLEAN_INDEX_SCALE"), (9, u "LOG2_ARRAY_BYTE_INDEX_SCALE"), (5, u "LOG2_ARRAY_CHAR_INDEX_SCALE"), (5, u "LOG2_ARRAY_SHORT_INDEX_SCALE"), (18, u "LOG2_ARRAY_FLOAT_INDEX_SCALE"), (24, u "LOG2_ARRAY_DOUBLE_INDEX_SCALE"), (89, u "T_BOOLEAN"), (2, u "T_CHAR"), (1, u "T_FLOAT"), (1, u "T_DOUBLE"), (1, u "T_BYTE"), (1, u "T_SHORT"), (1, u "T_INT"), (1, u "T_LONG"), (1, u "SOFT_MAX_ARRAY_LENGTH")] 83

def k14m0 : Method := { name := "<init>", desc := "()V", sig := { parameters := [], returnType := none }, accessFlags := 2, code := none }
/-- jdk/internal/util/ArraysSupport -/
def k14 : Class := { plain "jdk/internal/util/ArraysSupport" (some 0) with
  accessFlags := 33
  interfaces := #[]
  cf := some (fileOf pool14 21 #[] #[{ accessFlags := 2, nameIndex := 9, descriptorIndex := 19, attributes := #[] }] 33 16 #[] #[{ accessFlags := 24, nameIndex := 28, descriptorIndex := 29, attributes := #[] }, { accessFlags := 26, nameIndex := 38, descriptorIndex := 39, attributes := #[] }, { accessFlags := 25, nameIndex := 121, descriptorIndex := 25, attributes := #[] }, { accessFlags := 25, nameIndex := 131, descriptorIndex := 25, attributes := #[] }, { accessFlags := 25, nameIndex := 137, descriptorIndex := 25, attributes := #[] }, { accessFlags := 25, nameIndex := 143, descriptorIndex := 25, attributes := #[] }, { accessFlags := 25, nameIndex := 53, descriptorIndex := 25, attributes := #[] }, { accessFlags := 25, nameIndex := 24, descriptorIndex := 25, attributes := #[] }, { accessFlags := 25, nameIndex := 162, descriptorIndex := 25, attributes := #[] }, { accessFlags := 25, nameIndex := 187, descriptorIndex := 25, attributes := #[] }, { accessFlags := 26, nameIndex := 48, descriptorIndex := 25, attributes := #[] }, { accessFlags := 25, nameIndex := 277, descriptorIndex := 25, attributes := #[] }, { accessFlags := 25, nameIndex := 280, descriptorIndex := 25, attributes := #[] }, { accessFlags := 25, nameIndex := 282, descriptorIndex := 25, attributes := #[] }, { accessFlags := 25, nameIndex := 284, descriptorIndex := 25, attributes := #[] }, { accessFlags := 25, nameIndex := 286, descriptorIndex := 25, attributes := #[] }, { accessFlags := 25, nameIndex := 288, descriptorIndex := 25, attributes := #[] }, { accessFlags := 25, nameIndex := 290, descriptorIndex := 25, attributes := #[] }, { accessFlags := 25, nameIndex := 292, descriptorIndex := 25, attributes := #[] }, { accessFlags := 26, nameIndex := 108, descriptorIndex := 109, attributes := #[] }, { accessFlags := 25, nameIndex := 294, descriptorIndex := 25, attributes := #[] }])
  fields := #[{ name := "U", type := (.object "jdk/internal/misc/Unsafe"), accessFlags := 24, slot := 0, constantValue := 0 }, { name := "BIG_ENDIAN", type := .boolean, accessFlags := 26, slot := 1, constantValue := 0 }, { name := "LOG2_ARRAY_BOOLEAN_INDEX_SCALE", type := .int, accessFlags := 25, slot := 2, constantValue := 0 }, { name := "LOG2_ARRAY_BYTE_INDEX_SCALE", type := .int, accessFlags := 25, slot := 3, constantValue := 0 }, { name := "LOG2_ARRAY_CHAR_INDEX_SCALE", type := .int, accessFlags := 25, slot := 4, constantValue := 0 }, { name := "LOG2_ARRAY_SHORT_INDEX_SCALE", type := .int, accessFlags := 25, slot := 5, constantValue := 0 }, { name := "LOG2_ARRAY_INT_INDEX_SCALE", type := .int, accessFlags := 25, slot := 6, constantValue := 0 }, { name := "LOG2_ARRAY_LONG_INDEX_SCALE", type := .int, accessFlags := 25, slot := 7, constantValue := 0 }, { name := "LOG2_ARRAY_FLOAT_INDEX_SCALE", type := .int, accessFlags := 25, slot := 8, constantValue := 0 }, { name := "LOG2_ARRAY_DOUBLE_INDEX_SCALE", type := .int, accessFlags := 25, slot := 9, constantValue := 0 }, { name := "LOG2_BYTE_BIT_SIZE", type := .int, accessFlags := 26, slot := 10, constantValue := 0 }, { name := "T_BOOLEAN", type := .int, accessFlags := 25, slot := 11, constantValue := 0 }, { name := "T_CHAR", type := .int, accessFlags := 25, slot := 12, constantValue := 0 }, { name := "T_FLOAT", type := .int, accessFlags := 25, slot := 13, constantValue := 0 }, { name := "T_DOUBLE", type := .int, accessFlags := 25, slot := 14, constantValue := 0 }, { name := "T_BYTE", type := .int, accessFlags := 25, slot := 15, constantValue := 0 }, { name := "T_SHORT", type := .int, accessFlags := 25, slot := 16, constantValue := 0 }, { name := "T_INT", type := .int, accessFlags := 25, slot := 17, constantValue := 0 }, { name := "T_LONG", type := .int, accessFlags := 25, slot := 18, constantValue := 0 }, { name := "JLA", type := (.object "jdk/internal/access/JavaLangAccess"), accessFlags := 26, slot := 19, constantValue := 0 }, { name := "SOFT_MAX_ARRAY_LENGTH", type := .int, accessFlags := 25, slot := 20, constantValue := 0 }]
  methods := #[k14m0]
  instanceTypes := #[]
  staticTypes := #[(.object "jdk/internal/misc/Unsafe"), .boolean, .int, .int, .int, .int, .int, .int, .int, .int, .int, .int, .int, .int, .int, .int, .int, .int, .int, (.object "jdk/internal/access/JavaLangAccess"), .int]
  resolved := Array.replicate 378 none
  statics := none }

def pool15 : Array CpInfo := pool [(1, u "java/lang/Cloneable"), (0, .class_ 1), (0, u "java/lang/Object"), (0, .class_ 3)] 3

/-- java/lang/Cloneable -/
def k15 : Class := { plain "java/lang/Cloneable" (some 0) with
  accessFlags := 1537
  interfaces := #[]
  cf := some (fileOf pool15 2 #[] #[] 1537 4 #[] #[])
  fields := #[]
  methods := #[]
  instanceTypes := #[]
  staticTypes := #[]
  resolved := Array.replicate 8 none
  statics := none }

/-- the primitive byte -/
def k16 : Class := { plain "byte" none with kind := .primitive 'B', accessFlags := 0x411 }
/-- [B -/
def k17 : Class := { plain "[B" (some 0) with kind := .array 16 .byte, interfaces := #[15, 3], accessFlags := 1041 }

/-- the primitive char -/
def k18 : Class := { plain "char" none with kind := .primitive 'C', accessFlags := 0x411 }
/-- [C -/
def k19 : Class := { plain "[C" (some 0) with kind := .array 18 .char, interfaces := #[15, 3], accessFlags := 1041 }

/-- the primitive int -/
def k20 : Class := { plain "int" none with kind := .primitive 'I', accessFlags := 0x411 }
/-- [I -/
def k21 : Class := { plain "[I" (some 0) with kind := .array 20 .int, interfaces := #[15, 3], accessFlags := 1041 }

def heap : Heap := #[{ cls := 8, slots := #[.long 0, .int 1, .null, .int 0, .null, .int 0, .int 0], vm := .statics 8 },
  { cls := 11, slots := #[.null, .null, .null], vm := .statics 11 }]
def classes : Array Class := #[k0, k1, k2, k3, k4, k5, k6, k7, k8, k9, k10, k11, k12, k13, k14, k15, k16, k17, k18, k19, k20, k21]
def interned : List (Array UInt16 × Addr) := []
def slotsUsed : Nat := 10
def theMethod : MethodId := ⟨1, 1⟩
def args0 : Array Value := #[.int 1, .int 2, .int 3]
def aboutOver (below : List Frame) : State where
  vm := { classes := classes, interned := interned.toArray }
  heap := heap
  slotsUsed := slotsUsed
  threads := #[{ frames := .invoking theMethod args0 :: below }]
def below0 : List Frame := [.native { method := ⟨0, 0⟩, args := #[] }]
def about1 : State := aboutOver below0
def p0 : Program := .bare "" "" ""
def e0 : Env := launch0.env 0 0 0
theorem w_frames : about1.frames = Frame.invoking theMethod args0 :: below0 := rfl
set_option maxRecDepth 65536 in
theorem w_args : argsFit about1.vm theMethod args0 = true := by decide +kernel
set_option maxRecDepth 65536 in
theorem w_heap : heapFits about1 = true := by decide +kernel
set_option maxRecDepth 65536 in
theorem w_runnable : about1.curStatus? = some .runnable := by decide +kernel
set_option maxRecDepth 65536 in
theorem w_alone : about1.alone = true := by decide +kernel
set_option maxRecDepth 65536 in
theorem w_named : about1.methodNamed? x = some theMethod := by decide +kernel
set_option maxRecDepth 65536 in
theorem w_hears : about1.hears theMethod below0 = true := by decide +kernel
set_option maxRecDepth 65536 in
theorem w_ripe : about1.ripe theMethod args0 below0 = true := by decide +kernel
theorem w_running : about1.status = .running := rfl
set_option maxRecDepth 65536 in
theorem w_room : about1.hasRoom e0.platform room_1 = true :=
  launch0.hasRoom_least _ room_1 (by decide +kernel) (by decide +kernel) (by decide +kernel) (by decide +kernel) (by decide +kernel) (by decide +kernel)
theorem allAtoms_all (ts : List Jvm.Cond) (a : Array Jvm.Value) (st : Jvm.State) : (allAtoms ts).before a st = ts.all (fun c => c.before a st) := by
  induction ts with
  | nil => rfl
  | cons c t ih =>
    show (Jvm.Cond.and c (allAtoms t)).before a st = _
    rw [Jvm.Cond.before_and, ih, List.all_cons]
def words1 : List Jvm.Cond := Jvm.Cond.code x code maxLocals ret :: tables_1
/-- a 'code' word, met by the world's own term for the bytes: nothing is compared byte by byte -/
theorem code_word {y : MethodName} {bytes : ByteArray} {mx : Nat} {rt : Option FieldType} {a : Array Value} {s : State} {m : MethodId} {meth : Method} {c : Code} (h1 : s.methodNamed? y = some m) (h2 : s.vm.method? m = some meth) (h3 : meth.code = some c) (h4 : c.code = bytes)
    (h5 : (c.maxLocals == mx && c.exceptionTable.isEmpty && decide (c.maxStack ≤ mostOperands) && decide (meth.sig.returnType = rt) && !meth.locks && decide (parseMethodDescriptor y.desc = some meth.sig)) = true) : (Jvm.Cond.code y bytes mx rt).before a s = true := by
  simp only [Bool.and_eq_true, beq_iff_eq, Bool.not_eq_true', decide_eq_true_eq] at h5
  obtain ⟨⟨⟨⟨⟨g1, g2⟩, g3⟩, g4⟩, g5⟩, g6⟩ := h5
  simp [Cond.before, Cond.holds, Cond.value, h1, h2, h3, h4, g1, g2, g3, g4, g5, g6]
def isCode : Jvm.Cond → Bool
  | .code _ _ _ _ => true
  | _ => false
theorem all_split {L : List Jvm.Cond} {P : Jvm.Cond → Bool} (h1 : L.all (fun c => isCode c || P c) = true) (h2 : ∀ c ∈ L.filter isCode, P c = true) : L.all P = true := by
  refine List.all_eq_true.mpr fun c hc => ?_
  have h := List.all_eq_true.mp h1 c hc
  rcases Bool.eq_false_or_eq_true (isCode c) with hi | hi
  · exact h2 c (List.mem_filter.mpr ⟨hc, hi⟩)
  · simpa [hi] using h
set_option maxRecDepth 65536 in
theorem w_c0 : (Jvm.Cond.code x code maxLocals ret).before args0 about1 = true := code_word (m := ⟨1, 1⟩) (meth := k1m1) (c := k1c1) (by decide +kernel) rfl rfl rfl (by decide +kernel)
set_option maxRecDepth 65536 in
theorem w_c1 : (Jvm.Cond.code ({ cls := "com/example/nto1/nto1/IdentityEqualsPinLaw", name := "part", desc := "(II)Ljava/lang/String;" } : Jvm.MethodName) method_5_code (6 : Nat) (Option.some (Jvm.ClassFile.FieldType.object "java/lang/String"))).before args0 about1 = true := code_word (m := ⟨1, 4⟩) (meth := k1m4) (c := k1c4) (by decide +kernel) rfl rfl rfl (by decide +kernel)
set_option maxRecDepth 65536 in
theorem w_c2 : (Jvm.Cond.code ({ cls := "com/example/nto1/nto1/IdentityEqualsPinLaw", name := "len", desc := "(II)I" } : Jvm.MethodName) method_3_code (3 : Nat) (Option.some Jvm.ClassFile.FieldType.int)).before args0 about1 = true := code_word (m := ⟨1, 2⟩) (meth := k1m2) (c := k1c2) (by decide +kernel) rfl rfl rfl (by decide +kernel)
set_option maxRecDepth 65536 in
theorem w_c3 : (Jvm.Cond.code ({ cls := "com/example/nto1/nto1/IdentityEqualsPinLaw", name := "ch", desc := "(I)C" } : Jvm.MethodName) method_4_code (2 : Nat) (Option.some Jvm.ClassFile.FieldType.char)).before args0 about1 = true := code_word (m := ⟨1, 3⟩) (meth := k1m3) (c := k1c3) (by decide +kernel) rfl rfl rfl (by decide +kernel)
set_option maxRecDepth 65536 in
theorem w_c4 : (Jvm.Cond.code ({ cls := "java/lang/String", name := "<init>", desc := "([C)V" } : Jvm.MethodName) jdk_42_method_3_code (2 : Nat) (Option.none : Option Jvm.ClassFile.FieldType)).before args0 about1 = true := code_word (m := ⟨8, 1⟩) (meth := k8m1) (c := k8c1) (by decide +kernel) rfl rfl rfl (by decide +kernel)
set_option maxRecDepth 65536 in
theorem w_c5 : (Jvm.Cond.code ({ cls := "java/lang/String", name := "<init>", desc := "([CIILjava/lang/Void;)V" } : Jvm.MethodName) jdk_42_method_149_code (6 : Nat) (Option.none : Option Jvm.ClassFile.FieldType)).before args0 about1 = true := code_word (m := ⟨8, 6⟩) (meth := k8m6) (c := k8c6) (by decide +kernel) rfl rfl rfl (by decide +kernel)
set_option maxRecDepth 65536 in
theorem w_c6 : (Jvm.Cond.code ({ cls := "java/lang/Object", name := "<init>", desc := "()V" } : Jvm.MethodName) object_method_1_code (1 : Nat) (Option.none : Option Jvm.ClassFile.FieldType)).before args0 about1 = true := code_word (m := ⟨0, 0⟩) (meth := k0m0) (c := k0c0) (by decide +kernel) rfl rfl rfl (by decide +kernel)
set_option maxRecDepth 65536 in
theorem w_c7 : (Jvm.Cond.code ({ cls := "java/lang/StringUTF16", name := "compress", desc := "([CII)[B" } : Jvm.MethodName) jdk_52_method_16_code (6 : Nat) (Option.some (Jvm.ClassFile.FieldType.array Jvm.ClassFile.FieldType.byte))).before args0 about1 = true := code_word (m := ⟨9, 2⟩) (meth := k9m2) (c := k9c2) (by decide +kernel) rfl rfl rfl (by decide +kernel)
set_option maxRecDepth 65536 in
theorem w_c8 : (Jvm.Cond.code ({ cls := "java/lang/StringUTF16", name := "compress", desc := "([CI[BII)I" } : Jvm.MethodName) jdk_52_method_21_code (7 : Nat) (Option.some Jvm.ClassFile.FieldType.int)).before args0 about1 = true := code_word (m := ⟨9, 3⟩) (meth := k9m3) (c := k9c3) (by decide +kernel) rfl rfl rfl (by decide +kernel)
set_option maxRecDepth 65536 in
theorem w_c9 : (Jvm.Cond.code ({ cls := "java/lang/StringUTF16", name := "coderFromArrayLen", desc := "([BI)B" } : Jvm.MethodName) jdk_52_method_15_code (2 : Nat) (Option.some Jvm.ClassFile.FieldType.byte)).before args0 about1 = true := code_word (m := ⟨9, 1⟩) (meth := k9m1) (c := k9c1) (by decide +kernel) rfl rfl rfl (by decide +kernel)
set_option maxRecDepth 65536 in
theorem w_c10 : (Jvm.Cond.code ({ cls := "com/example/nto1/nto1/Identity", name := "<init>", desc := "(Ljava/lang/String;Ljava/lang/String;Ljava/lang/String;)V" } : Jvm.MethodName) prog_5_method_1_code (4 : Nat) (Option.none : Option Jvm.ClassFile.FieldType)).before args0 about1 = true := code_word (m := ⟨2, 0⟩) (meth := k2m0) (c := k2c0) (by decide +kernel) rfl rfl rfl (by decide +kernel)
set_option maxRecDepth 65536 in
theorem w_c11 : (Jvm.Cond.code ({ cls := "com/example/nto1/nto1/Identity", name := "checked", desc := "(Ljava/lang/String;Ljava/lang/String;II)Ljava/lang/String;" } : Jvm.MethodName) prog_5_method_8_code (7 : Nat) (Option.some (Jvm.ClassFile.FieldType.object "java/lang/String"))).before args0 about1 = true := code_word (m := ⟨2, 3⟩) (meth := k2m3) (c := k2c3) (by decide +kernel) rfl rfl rfl (by decide +kernel)
set_option maxRecDepth 65536 in
theorem w_c12 : (Jvm.Cond.code ({ cls := "java/util/Objects", name := "requireNonNull", desc := "(Ljava/lang/Object;Ljava/lang/String;)Ljava/lang/Object;" } : Jvm.MethodName) jdk_31_method_11_code (2 : Nat) (Option.some (Jvm.ClassFile.FieldType.object "java/lang/Object"))).before args0 about1 = true := code_word (m := ⟨10, 1⟩) (meth := k10m1) (c := k10c1) (by decide +kernel) rfl rfl rfl (by decide +kernel)
set_option maxRecDepth 65536 in
theorem w_c13 : (Jvm.Cond.code ({ cls := "java/lang/String", name := "length", desc := "()I" } : Jvm.MethodName) jdk_42_method_54_code (1 : Nat) (Option.some Jvm.ClassFile.FieldType.int)).before args0 about1 = true := code_word (m := ⟨8, 2⟩) (meth := k8m2) (c := k8c2) (by decide +kernel) rfl rfl rfl (by decide +kernel)
set_option maxRecDepth 65536 in
theorem w_c14 : (Jvm.Cond.code ({ cls := "java/lang/String", name := "coder", desc := "()B" } : Jvm.MethodName) jdk_42_method_152_code (1 : Nat) (Option.some Jvm.ClassFile.FieldType.byte)).before args0 about1 = true := code_word (m := ⟨8, 7⟩) (meth := k8m7) (c := k8c7) (by decide +kernel) rfl rfl rfl (by decide +kernel)
set_option maxRecDepth 65536 in
theorem w_c15 : (Jvm.Cond.code ({ cls := "java/lang/String", name := "codePointCount", desc := "(II)I" } : Jvm.MethodName) jdk_42_method_59_code (3 : Nat) (Option.some Jvm.ClassFile.FieldType.int)).before args0 about1 = true := code_word (m := ⟨8, 4⟩) (meth := k8m4) (c := k8c4) (by decide +kernel) rfl rfl rfl (by decide +kernel)
set_option maxRecDepth 65536 in
theorem w_c16 : (Jvm.Cond.code ({ cls := "java/util/Objects", name := "checkFromToIndex", desc := "(III)I" } : Jvm.MethodName) jdk_31_method_18_code (3 : Nat) (Option.some Jvm.ClassFile.FieldType.int)).before args0 about1 = true := code_word (m := ⟨10, 2⟩) (meth := k10m2) (c := k10c2) (by decide +kernel) rfl rfl rfl (by decide +kernel)
set_option maxRecDepth 65536 in
theorem w_c17 : (Jvm.Cond.code ({ cls := "jdk/internal/util/Preconditions", name := "checkFromToIndex", desc := "(IIILjava/util/function/BiFunction;)I" } : Jvm.MethodName) jdk_41_method_12_code (4 : Nat) (Option.some Jvm.ClassFile.FieldType.int)).before args0 about1 = true := code_word (m := ⟨11, 2⟩) (meth := k11m2) (c := k11c2) (by decide +kernel) rfl rfl rfl (by decide +kernel)
set_option maxRecDepth 65536 in
theorem w_c18 : (Jvm.Cond.code ({ cls := "java/lang/String", name := "isLatin1", desc := "()Z" } : Jvm.MethodName) jdk_42_method_154_code (1 : Nat) (Option.some Jvm.ClassFile.FieldType.boolean)).before args0 about1 = true := code_word (m := ⟨8, 8⟩) (meth := k8m8) (c := k8c8) (by decide +kernel) rfl rfl rfl (by decide +kernel)
set_option maxRecDepth 65536 in
theorem w_c19 : (Jvm.Cond.code ({ cls := "com/example/nto1/nto1/Identity", name := "checkedOperation", desc := "(Ljava/lang/String;)Ljava/lang/String;" } : Jvm.MethodName) prog_5_method_2_code (1 : Nat) (Option.some (Jvm.ClassFile.FieldType.object "java/lang/String"))).before args0 about1 = true := code_word (m := ⟨2, 1⟩) (meth := k2m1) (c := k2c1) (by decide +kernel) rfl rfl rfl (by decide +kernel)
set_option maxRecDepth 65536 in
theorem w_c20 : (Jvm.Cond.code ({ cls := "java/lang/String", name := "codePointAt", desc := "(I)I" } : Jvm.MethodName) jdk_42_method_57_code (3 : Nat) (Option.some Jvm.ClassFile.FieldType.int)).before args0 about1 = true := code_word (m := ⟨8, 3⟩) (meth := k8m3) (c := k8c3) (by decide +kernel) rfl rfl rfl (by decide +kernel)
set_option maxRecDepth 65536 in
theorem w_c21 : (Jvm.Cond.code ({ cls := "java/lang/String", name := "checkIndex", desc := "(II)V" } : Jvm.MethodName) jdk_42_method_155_code (2 : Nat) (Option.none : Option Jvm.ClassFile.FieldType)).before args0 about1 = true := code_word (m := ⟨8, 9⟩) (meth := k8m9) (c := k8c9) (by decide +kernel) rfl rfl rfl (by decide +kernel)
set_option maxRecDepth 65536 in
theorem w_c22 : (Jvm.Cond.code ({ cls := "jdk/internal/util/Preconditions", name := "checkIndex", desc := "(IILjava/util/function/BiFunction;)I" } : Jvm.MethodName) jdk_41_method_11_code (3 : Nat) (Option.some Jvm.ClassFile.FieldType.int)).before args0 about1 = true := code_word (m := ⟨11, 1⟩) (meth := k11m1) (c := k11c1) (by decide +kernel) rfl rfl rfl (by decide +kernel)
set_option maxRecDepth 65536 in
theorem w_c23 : (Jvm.Cond.code ({ cls := "java/lang/Character", name := "charCount", desc := "(I)I" } : Jvm.MethodName) jdk_89_method_18_code (1 : Nat) (Option.some Jvm.ClassFile.FieldType.int)).before args0 about1 = true := code_word (m := ⟨12, 0⟩) (meth := k12m0) (c := k12c0) (by decide +kernel) rfl rfl rfl (by decide +kernel)
set_option maxRecDepth 65536 in
theorem w_c24 : (Jvm.Cond.code ({ cls := "com/example/nto1/nto1/IdentityEqualsPinLaw", name := "same", desc := "(III)Z" } : Jvm.MethodName) method_6_code (5 : Nat) (Option.some Jvm.ClassFile.FieldType.boolean)).before args0 about1 = true := code_word (m := ⟨1, 5⟩) (meth := k1m5) (c := k1c5) (by decide +kernel) rfl rfl rfl (by decide +kernel)
set_option maxRecDepth 65536 in
theorem w_c25 : (Jvm.Cond.code ({ cls := "com/example/nto1/nto1/Identity", name := "equals", desc := "(Ljava/lang/Object;)Z" } : Jvm.MethodName) prog_5_method_6_code (3 : Nat) (Option.some Jvm.ClassFile.FieldType.boolean)).before args0 about1 = true := code_word (m := ⟨2, 2⟩) (meth := k2m2) (c := k2c2) (by decide +kernel) rfl rfl rfl (by decide +kernel)
set_option maxRecDepth 65536 in
theorem w_c26 : (Jvm.Cond.code ({ cls := "java/lang/String", name := "equals", desc := "(Ljava/lang/Object;)Z" } : Jvm.MethodName) jdk_42_method_66_code (3 : Nat) (Option.some Jvm.ClassFile.FieldType.boolean)).before args0 about1 = true := code_word (m := ⟨8, 5⟩) (meth := k8m5) (c := k8c5) (by decide +kernel) rfl rfl rfl (by decide +kernel)
set_option maxRecDepth 65536 in
theorem w_c27 : (Jvm.Cond.code ({ cls := "java/lang/StringLatin1", name := "equals", desc := "([B[B)Z" } : Jvm.MethodName) jdk_43_method_13_code (3 : Nat) (Option.some Jvm.ClassFile.FieldType.boolean)).before args0 about1 = true := code_word (m := ⟨13, 1⟩) (meth := k13m1) (c := k13c1) (by decide +kernel) rfl rfl rfl (by decide +kernel)
def codes1 : List Jvm.Cond := [Jvm.Cond.code x code maxLocals ret, Jvm.Cond.code ({ cls := "com/example/nto1/nto1/IdentityEqualsPinLaw", name := "part", desc := "(II)Ljava/lang/String;" } : Jvm.MethodName) method_5_code (6 : Nat) (Option.some (Jvm.ClassFile.FieldType.object "java/lang/String")), Jvm.Cond.code ({ cls := "com/example/nto1/nto1/IdentityEqualsPinLaw", name := "len", desc := "(II)I" } : Jvm.MethodName) method_3_code (3 : Nat) (Option.some Jvm.ClassFile.FieldType.int), Jvm.Cond.code ({ cls := "com/example/nto1/nto1/IdentityEqualsPinLaw", name := "ch", desc := "(I)C" } : Jvm.MethodName) method_4_code (2 : Nat) (Option.some Jvm.ClassFile.FieldType.char), Jvm.Cond.code ({ cls := "java/lang/String", name := "<init>", desc := "([C)V" } : Jvm.MethodName) jdk_42_method_3_code (2 : Nat) (Option.none : Option Jvm.ClassFile.FieldType), Jvm.Cond.code ({ cls := "java/lang/String", name := "<init>", desc := "([CIILjava/lang/Void;)V" } : Jvm.MethodName) jdk_42_method_149_code (6 : Nat) (Option.none : Option Jvm.ClassFile.FieldType), Jvm.Cond.code ({ cls := "java/lang/Object", name := "<init>", desc := "()V" } : Jvm.MethodName) object_method_1_code (1 : Nat) (Option.none : Option Jvm.ClassFile.FieldType), Jvm.Cond.code ({ cls := "java/lang/StringUTF16", name := "compress", desc := "([CII)[B" } : Jvm.MethodName) jdk_52_method_16_code (6 : Nat) (Option.some (Jvm.ClassFile.FieldType.array Jvm.ClassFile.FieldType.byte)), Jvm.Cond.code ({ cls := "java/lang/StringUTF16", name := "compress", desc := "([CI[BII)I" } : Jvm.MethodName) jdk_52_method_21_code (7 : Nat) (Option.some Jvm.ClassFile.FieldType.int), Jvm.Cond.code ({ cls := "java/lang/StringUTF16", name := "coderFromArrayLen", desc := "([BI)B" } : Jvm.MethodName) jdk_52_method_15_code (2 : Nat) (Option.some Jvm.ClassFile.FieldType.byte), Jvm.Cond.code ({ cls := "com/example/nto1/nto1/Identity", name := "<init>", desc := "(Ljava/lang/String;Ljava/lang/String;Ljava/lang/String;)V" } : Jvm.MethodName) prog_5_method_1_code (4 : Nat) (Option.none : Option Jvm.ClassFile.FieldType), Jvm.Cond.code ({ cls := "com/example/nto1/nto1/Identity", name := "checked", desc := "(Ljava/lang/String;Ljava/lang/String;II)Ljava/lang/String;" } : Jvm.MethodName) prog_5_method_8_code (7 : Nat) (Option.some (Jvm.ClassFile.FieldType.object "java/lang/String")), Jvm.Cond.code ({ cls := "java/util/Objects", name := "requireNonNull", desc := "(Ljava/lang/Object;Ljava/lang/String;)Ljava/lang/Object;" } : Jvm.MethodName) jdk_31_method_11_code (2 : Nat) (Option.some (Jvm.ClassFile.FieldType.object "java/lang/Object")), Jvm.Cond.code ({ cls := "java/lang/String", name := "length", desc := "()I" } : Jvm.MethodName) jdk_42_method_54_code (1 : Nat) (Option.some Jvm.ClassFile.FieldType.int), Jvm.Cond.code ({ cls := "java/lang/String", name := "coder", desc := "()B" } : Jvm.MethodName) jdk_42_method_152_code (1 : Nat) (Option.some Jvm.ClassFile.FieldType.byte), Jvm.Cond.code ({ cls := "java/lang/String", name := "codePointCount", desc := "(II)I" } : Jvm.MethodName) jdk_42_method_59_code (3 : Nat) (Option.some Jvm.ClassFile.FieldType.int), Jvm.Cond.code ({ cls := "java/util/Objects", name := "checkFromToIndex", desc := "(III)I" } : Jvm.MethodName) jdk_31_method_18_code (3 : Nat) (Option.some Jvm.ClassFile.FieldType.int), Jvm.Cond.code ({ cls := "jdk/internal/util/Preconditions", name := "checkFromToIndex", desc := "(IIILjava/util/function/BiFunction;)I" } : Jvm.MethodName) jdk_41_method_12_code (4 : Nat) (Option.some Jvm.ClassFile.FieldType.int), Jvm.Cond.code ({ cls := "java/lang/String", name := "isLatin1", desc := "()Z" } : Jvm.MethodName) jdk_42_method_154_code (1 : Nat) (Option.some Jvm.ClassFile.FieldType.boolean), Jvm.Cond.code ({ cls := "com/example/nto1/nto1/Identity", name := "checkedOperation", desc := "(Ljava/lang/String;)Ljava/lang/String;" } : Jvm.MethodName) prog_5_method_2_code (1 : Nat) (Option.some (Jvm.ClassFile.FieldType.object "java/lang/String")), Jvm.Cond.code ({ cls := "java/lang/String", name := "codePointAt", desc := "(I)I" } : Jvm.MethodName) jdk_42_method_57_code (3 : Nat) (Option.some Jvm.ClassFile.FieldType.int), Jvm.Cond.code ({ cls := "java/lang/String", name := "checkIndex", desc := "(II)V" } : Jvm.MethodName) jdk_42_method_155_code (2 : Nat) (Option.none : Option Jvm.ClassFile.FieldType), Jvm.Cond.code ({ cls := "jdk/internal/util/Preconditions", name := "checkIndex", desc := "(IILjava/util/function/BiFunction;)I" } : Jvm.MethodName) jdk_41_method_11_code (3 : Nat) (Option.some Jvm.ClassFile.FieldType.int), Jvm.Cond.code ({ cls := "java/lang/Character", name := "charCount", desc := "(I)I" } : Jvm.MethodName) jdk_89_method_18_code (1 : Nat) (Option.some Jvm.ClassFile.FieldType.int), Jvm.Cond.code ({ cls := "com/example/nto1/nto1/IdentityEqualsPinLaw", name := "same", desc := "(III)Z" } : Jvm.MethodName) method_6_code (5 : Nat) (Option.some Jvm.ClassFile.FieldType.boolean), Jvm.Cond.code ({ cls := "com/example/nto1/nto1/Identity", name := "equals", desc := "(Ljava/lang/Object;)Z" } : Jvm.MethodName) prog_5_method_6_code (3 : Nat) (Option.some Jvm.ClassFile.FieldType.boolean), Jvm.Cond.code ({ cls := "java/lang/String", name := "equals", desc := "(Ljava/lang/Object;)Z" } : Jvm.MethodName) jdk_42_method_66_code (3 : Nat) (Option.some Jvm.ClassFile.FieldType.boolean), Jvm.Cond.code ({ cls := "java/lang/StringLatin1", name := "equals", desc := "([B[B)Z" } : Jvm.MethodName) jdk_43_method_13_code (3 : Nat) (Option.some Jvm.ClassFile.FieldType.boolean)]
set_option maxRecDepth 65536 in
theorem codes_eq : words1.filter isCode = codes1 := rfl
theorem w_codes : ∀ c ∈ words1.filter isCode, c.before args0 about1 = true := by
  rw [codes_eq]
  intro c hc
  simp only [codes1, List.mem_cons, List.not_mem_nil, or_false] at hc
  rcases hc with rfl | rfl | rfl | rfl | rfl | rfl | rfl | rfl | rfl | rfl | rfl | rfl | rfl | rfl | rfl | rfl | rfl | rfl | rfl | rfl | rfl | rfl | rfl | rfl | rfl | rfl | rfl | rfl
  · exact w_c0
  · exact w_c1
  · exact w_c2
  · exact w_c3
  · exact w_c4
  · exact w_c5
  · exact w_c6
  · exact w_c7
  · exact w_c8
  · exact w_c9
  · exact w_c10
  · exact w_c11
  · exact w_c12
  · exact w_c13
  · exact w_c14
  · exact w_c15
  · exact w_c16
  · exact w_c17
  · exact w_c18
  · exact w_c19
  · exact w_c20
  · exact w_c21
  · exact w_c22
  · exact w_c23
  · exact w_c24
  · exact w_c25
  · exact w_c26
  · exact w_c27
set_option maxRecDepth 65536 in
theorem w_t1 : (words1.take 24).all (fun c => isCode c || c.before args0 about1) = true := by decide +kernel
set_option maxRecDepth 65536 in
theorem w_t2 : ((words1.drop 24).take 24).all (fun c => isCode c || c.before args0 about1) = true := by decide +kernel
set_option maxRecDepth 65536 in
theorem w_t3 : (((words1.drop 24).drop 24).take 24).all (fun c => isCode c || c.before args0 about1) = true := by decide +kernel
set_option maxRecDepth 65536 in
theorem w_t4 : ((((words1.drop 24).drop 24).drop 24).take 24).all (fun c => isCode c || c.before args0 about1) = true := by decide +kernel
set_option maxRecDepth 65536 in
theorem w_t5 : (((((words1.drop 24).drop 24).drop 24).drop 24).take 24).all (fun c => isCode c || c.before args0 about1) = true := by decide +kernel
set_option maxRecDepth 65536 in
theorem w_t6 : (((((words1.drop 24).drop 24).drop 24).drop 24).drop 24).all (fun c => isCode c || c.before args0 about1) = true := by decide +kernel
theorem w_tables : (allAtoms (Jvm.Cond.code x code maxLocals ret :: tables_1)).before args0 about1 = true := by
  rw [allAtoms_all]
  show words1.all (fun c => c.before args0 about1) = true
  refine all_split ?_ w_codes
  rw [← List.take_append_drop 24 words1, List.all_append, w_t1, ← List.take_append_drop 24 (words1.drop 24), List.all_append, w_t2, ← List.take_append_drop 24 ((words1.drop 24).drop 24), List.all_append, w_t3, ← List.take_append_drop 24 (((words1.drop 24).drop 24).drop 24), List.all_append, w_t4, ← List.take_append_drop 24 ((((words1.drop 24).drop 24).drop 24).drop 24), List.all_append, w_t5, w_t6]
  rfl
set_option maxRecDepth 65536 in
theorem w_rest : rest_1_c.before args0 about1 = true := by decide +kernel
set_option maxRecDepth 65536 in
theorem w_case : (Jvm.Cond.and given_1 narrow_1).before args0 about1 = true := by decide +kernel
set_option maxRecDepth 65536 in
theorem w_consts : constsHeld consts_1 about1 := Jvm.Lit.constsHeldB_iff.mp (by decide +kernel)
theorem w_applies : (headSpec (Jvm.Cond.code x code maxLocals ret :: tables_1) room_1).applies x e0.platform about1 = true :=
  (Spec.applies_iff w_frames).mpr ⟨w_running, w_runnable, w_alone, w_named, w_hears, w_ripe, w_room, w_tables⟩
theorem atStart : AtStart classFile x code maxLocals ret World_1 tables_1 room_1 Calls_1 rest_1 Pre_1 launch0 p0 e0 about1 theMethod args0 below0 :=
  ⟨lists_1, trivial, launch0.admits_env _ _ _, launch0.least_env, fairChoices_fair.cas, fairChoices_fair.clock, w_frames, w_args, w_heap, w_applies, ⟨w_consts, trivial⟩, w_rest, w_case⟩
end start1
theorem witness_1 : WitnessClaimed_1 := ⟨start1.p0, start1.e0, start1.about1, start1.theMethod, start1.args0, start1.below0, start1.atStart⟩
end Jvm.Pilot.@@N@@
